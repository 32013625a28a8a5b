import Derived.Test.Qxb6613049aFmtPlain4
namespace Go.Proofs.Qxb6613049aFmt

/-- The second line behind a comma and a blank. -/
def jn (b : List UInt8) : List UInt8 := 44 :: 32 :: b

theorem tw_jn (p : UInt8 → Bool) (hp : p 44 = false) (t b : List UInt8) : (t ++ jn b).takeWhile p = t.takeWhile p := by
  induction t with
  | nil => simp [jn, hp]
  | cons c t ih =>
    rw [List.cons_append]
    cases hc : p c with
    | true => rw [List.takeWhile_cons_of_pos hc, List.takeWhile_cons_of_pos hc, ih]
    | false => rw [List.takeWhile_cons_of_neg (by simp [hc]), List.takeWhile_cons_of_neg (by simp [hc])]
theorem dw_jn (p : UInt8 → Bool) (hp : p 44 = false) (t b : List UInt8) : (t ++ jn b).dropWhile p = t.dropWhile p ++ jn b := by
  induction t with
  | nil => simp [jn, hp]
  | cons c t ih =>
    rw [List.cons_append]
    cases hc : p c with
    | true => rw [List.dropWhile_cons_of_pos hc, List.dropWhile_cons_of_pos hc, ih]
    | false => rw [List.dropWhile_cons_of_neg (by simp [hc]), List.dropWhile_cons_of_neg (by simp [hc]), List.cons_append]
theorem head_jn (t b : List UInt8) (c : UInt8) (h : t.head? = some c) : (t ++ jn b).head? = some c := by
  cases t with
  | nil => cases h
  | cons a t => simpa using h
theorem dws_empty (t b : List UInt8) (h : (t.dropWhile spc).isEmpty = true) : (t ++ jn b).dropWhile spc = b.dropWhile spc ∧ ((t ++ jn b).takeWhile spc).contains 44 = true := by
  induction t with
  | nil =>
    have h1 : spc 44 = true := rfl
    have h2 : spc 32 = true := rfl
    rw [List.nil_append]
    unfold jn
    rw [List.dropWhile_cons_of_pos h1, List.dropWhile_cons_of_pos h2, List.takeWhile_cons_of_pos h1]
    exact ⟨rfl, by simp⟩
  | cons c t ih =>
    cases hc : spc c with
    | true =>
      rw [List.dropWhile_cons_of_pos hc] at h
      obtain ⟨h1, h2⟩ := ih h
      rw [List.cons_append, List.dropWhile_cons_of_pos hc, List.takeWhile_cons_of_pos hc]
      exact ⟨h1, by rw [List.contains_cons, h2, Bool.or_true]⟩
    | false => rw [List.dropWhile_cons_of_neg (by simp [hc])] at h; cases h
theorem dws_some (t b : List UInt8) (h : (t.dropWhile spc).isEmpty = false) : (t ++ jn b).dropWhile spc = t.dropWhile spc ++ jn b ∧ (t ++ jn b).takeWhile spc = t.takeWhile spc := by
  induction t with
  | nil => cases h
  | cons c t ih =>
    cases hc : spc c with
    | true =>
      rw [List.dropWhile_cons_of_pos hc] at h
      obtain ⟨h1, h2⟩ := ih h
      rw [List.cons_append, List.dropWhile_cons_of_pos hc, List.takeWhile_cons_of_pos hc, List.dropWhile_cons_of_pos hc, List.takeWhile_cons_of_pos hc, h2]
      exact ⟨h1, rfl⟩
    | false =>
      rw [List.cons_append, List.dropWhile_cons_of_neg (by simp [hc]), List.dropWhile_cons_of_neg (by simp [hc]), List.takeWhile_cons_of_neg (by simp [hc]), List.takeWhile_cons_of_neg (by simp [hc])]
      exact ⟨rfl, rfl⟩

theorem qv_jn (b : List UInt8) : ∀ (n : Nat) (t acc v rest : List UInt8), t.length ≤ n → qv t acc = some (v, rest) → qv (t ++ jn b) acc = some (v, rest ++ jn b) := by
  intro n
  induction n with
  | zero =>
    intro t acc v rest hn h
    have : t = [] := List.eq_nil_of_length_eq_zero (by omega)
    subst this
    simp [qv] at h
  | succ n ih =>
    intro t acc v rest hn h
    match t with
    | [] => simp [qv] at h
    | c :: t =>
      simp only [List.length_cons] at hn
      rw [List.cons_append]
      unfold qv at h ⊢
      split at h
      · rename_i hc
        cases h
        rw [if_pos hc]
      · rename_i hc
        rw [if_neg hc]
        split at h
        · rename_i hc2
          rw [if_pos hc2]
          match t with
          | [] => simp at h
          | d :: t' =>
            simp only [List.length_cons] at hn
            simp only at h
            rw [List.cons_append]
            simp only
            split at h
            · rename_i hd
              rw [if_pos hd]
              exact ih t' _ _ _ (by omega) h
            · cases h
        · rename_i hc2
          rw [if_neg hc2]
          split at h
          · rename_i hd
            rw [if_pos hd]
            exact ih t _ _ _ (by omega) h
          · cases h

theorem val_jn (b t v rest : List UInt8) (h : val t = some (v, rest)) : val (t ++ jn b) = some (v, rest ++ jn b) := by
  match t with
  | [] => simp [val] at h
  | c :: t =>
    unfold val at h ⊢
    rw [List.cons_append]
    rw [List.head?_cons] at h ⊢
    split at h
    · rename_i hc
      rw [if_pos hc]
      simp only [List.drop_succ_cons, List.drop_zero] at h ⊢
      exact qv_jn b t.length t _ _ _ (Nat.le_refl _) h
    · rename_i hc
      rw [if_neg hc]
      rw [← List.cons_append, tw_jn tch rfl, dw_jn tch rfl]
      split at h
      · cases h
      · rename_i hd
        rw [if_neg hd]
        cases h
        rfl

theorem tok68_jn (b t tk rest : List UInt8) (h : tok68 t = some (tk, rest)) : tok68 (t ++ jn b) = some (tk, rest ++ jn b) := by
  unfold tok68 at h ⊢
  rw [tw_jn t68 rfl, dw_jn t68 rfl, tw_jn eq61 rfl, dw_jn eq61 rfl, dw_jn wsp rfl]
  split at h
  · cases h
  · rename_i h1
    rw [if_neg h1]
    split at h
    · rename_i h2
      cases h
      rw [if_pos]
      cases hx : ((t.dropWhile t68).dropWhile eq61).dropWhile wsp with
      | nil => rfl
      | cons a l =>
        rw [hx] at h2
        simpa using h2
    · cases h
theorem tok68_none_jn (b t : List UInt8) (h : tok68 t = none) : tok68 (t ++ jn b) = none := by
  unfold tok68 at h ⊢
  rw [tw_jn t68 rfl, dw_jn t68 rfl, tw_jn eq61 rfl, dw_jn eq61 rfl, dw_jn wsp rfl]
  split at h
  · rename_i h1
    rw [if_pos h1]
  · rename_i h1
    rw [if_neg h1]
    split at h
    · cases h
    · rename_i h2
      rw [if_neg]
      cases hx : ((t.dropWhile t68).dropWhile eq61).dropWhile wsp with
      | nil => rw [hx] at h2; simp at h2
      | cons a l =>
        rw [hx] at h2
        simpa using h2

/-- b opens with no parameter. -/
def NoPar (b : List UInt8) : Prop := (b.dropWhile spc).isEmpty = true ∨ (((b.dropWhile spc).takeWhile tch).isEmpty || !((((b.dropWhile spc).dropWhile tch).dropWhile wsp).head? == some 61)) = true

theorem dws_idem (t : List UInt8) : (t.dropWhile spc).dropWhile spc = t.dropWhile spc := by
  cases h : t.dropWhile spc with
  | nil => rfl
  | cons c l =>
    have := List.head?_dropWhile_not spc t
    rw [h] at this
    rw [List.dropWhile_cons_of_neg]
    have h2 : spc c = false := by simpa using this
    simp [h2]

theorem params_jn (b : List UInt8) (hb : NoPar b) : ∀ (n : Nat) (t : List UInt8) (ps ps' : List (List UInt8 × List UInt8)) (rest : List UInt8), params n t ps = some (ps', rest) →
    ∀ N, (t ++ jn b).length < N → ∃ rest', params N (t ++ jn b) ps = some (ps', rest') ∧ rest'.dropWhile spc = (rest ++ jn b).dropWhile spc := by
  intro n
  induction n with
  | zero => intro t ps ps' rest h; simp [params] at h
  | succ n ih =>
    intro t ps ps' rest h N hN
    obtain ⟨N, rfl⟩ : ∃ N', N = N' + 1 := ⟨N - 1, by omega⟩
    unfold params at h
    split at h
    · rename_i h1
      cases h
      obtain ⟨e1, e2⟩ := dws_empty t b h1
      obtain ⟨e3, _⟩ := dws_empty [] b rfl
      unfold params
      rw [e1, e2]
      rcases hb with hb | hb
      · rw [if_pos hb]
        refine ⟨[], rfl, ?_⟩
        rw [e3]
        have : b.dropWhile spc = [] := by simpa using hb
        rw [this]; rfl
      · by_cases h2 : (b.dropWhile spc).isEmpty = true
        · rw [if_pos h2]
          refine ⟨[], rfl, ?_⟩
          rw [e3]
          have : b.dropWhile spc = [] := by simpa using h2
          rw [this]; rfl
        · rw [if_neg h2, if_pos hb]
          exact ⟨_, rfl, by rw [dws_idem, e3]⟩
    · rename_i h1
      have h1' : (t.dropWhile spc).isEmpty = false := by simpa using h1
      obtain ⟨e1, e2⟩ := dws_some t b h1'
      have hne : ((t.dropWhile spc) ++ jn b).isEmpty = false := by
        cases hx : t.dropWhile spc with
        | nil => rfl
        | cons a l => rfl
      unfold params
      rw [e1, e2, hne, tw_jn tch rfl, dw_jn tch rfl, dw_jn wsp rfl]
      rw [if_neg (by simp)]
      have hhead : ((((t.dropWhile spc).dropWhile tch).dropWhile wsp ++ jn b).head? == some 61) = ((((t.dropWhile spc).dropWhile tch).dropWhile wsp).head? == some 61) := by
        cases hx : ((t.dropWhile spc).dropWhile tch).dropWhile wsp with
        | nil => rfl
        | cons a l => rfl
      rw [hhead]
      split at h
      · rename_i h2
        rw [if_pos h2]
        split at h
        · rename_i h3
          rw [if_pos h3]
          cases h
          exact ⟨_, rfl, rfl⟩
        · cases h
      · rename_i h2
        rw [if_neg h2]
        have h61 : (((t.dropWhile spc).dropWhile tch).dropWhile wsp).head? = some 61 := by
          simp only [Bool.or_eq_true, Bool.not_eq_true', not_or] at h2
          have := h2.2
          simpa using this
        have hdrop : (((t.dropWhile spc).dropWhile tch).dropWhile wsp ++ jn b).drop 1 = (((t.dropWhile spc).dropWhile tch).dropWhile wsp).drop 1 ++ jn b := by
          cases hx : ((t.dropWhile spc).dropWhile tch).dropWhile wsp with
          | nil => rw [hx] at h61; cases h61
          | cons a l => rfl
        rw [hdrop, dw_jn wsp rfl]
        split at h
        · cases h
        · rename_i v t3 hv
          rw [val_jn b _ _ _ hv]
          simp only
          split at h
          · cases h
          · rename_i h4
            rw [if_neg h4, dw_jn wsp rfl]
            split at h
            · cases h
            · rename_i h5
              rw [if_neg (by
                cases hx : t3.dropWhile wsp with
                | nil => simp [jn]
                | cons a l =>
                  rw [hx] at h5
                  simpa using h5)]
              have g3 := (val_suffix _ _ _ hv).2
              have g4 := dropWhile_len_le wsp t3
              have g5 := dropWhile_len_le wsp ((((t.dropWhile spc).dropWhile tch).dropWhile wsp).drop 1)
              have g6 := dropWhile_len_le wsp ((t.dropWhile spc).dropWhile tch)
              have g7 := dropWhile_len_le tch (t.dropWhile spc)
              have g8 := dropWhile_len_le spc t
              rw [List.length_drop] at g5
              exact ih _ _ _ _ h N (by rw [List.length_append] at hN ⊢; omega)

theorem body_jn (b : List UInt8) (hb : NoPar b) (t tk rest : List UInt8) (ps : List (List UInt8 × List UInt8)) (h : body t = some (tk, ps, rest)) :
    ∃ rest', body (t ++ jn b) = some (tk, ps, rest') ∧ rest'.dropWhile spc = (rest ++ jn b).dropWhile spc := by
  unfold body at h ⊢
  rw [tw_jn wsp rfl, dw_jn wsp rfl]
  split at h
  · rename_i h1
    rw [if_pos h1]
    cases h
    exact ⟨_, rfl, rfl⟩
  · rename_i h1
    rw [if_neg h1]
    split at h
    · rename_i tk' rest0 hx
      rw [tok68_jn b _ _ _ hx]
      cases h
      exact ⟨_, rfl, rfl⟩
    · rename_i hx
      rw [tok68_none_jn b _ hx]
      split at h
      · rename_i ps0 rest0 hp
        cases h
        obtain ⟨rest', e1, e2⟩ := params_jn b hb _ _ _ _ _ hp ((t.dropWhile wsp ++ jn b).length + 1) (by omega)
        rw [e1]
        exact ⟨_, rfl, e2⟩
      · cases h

theorem chals_congr (n : Nat) (t u : List UInt8) (acc : List Chal) (h : t.dropWhile spc = u.dropWhile spc) : chals n t acc = chals n u acc := by
  cases n with
  | zero => rfl
  | succ n => unfold chals; rw [h]

theorem chals_fuel : ∀ (n m : Nat) (t : List UInt8) (acc : List Chal), t.length < n → t.length < m → chals n t acc = chals m t acc := by
  intro n
  induction n with
  | zero => intro m t acc h; omega
  | succ n ih =>
    intro m t acc hn hm
    obtain ⟨m, rfl⟩ : ∃ m', m = m' + 1 := ⟨m - 1, by omega⟩
    unfold chals
    split
    · rfl
    · split
      · rfl
      · rename_i h1 h2
        split
        · rfl
        · rename_i tk ps rest hb
          have g1 := (body_suffix _ _ _ _ hb).length_le
          have g2 := dropWhile_len_lt tch (t.dropWhile spc) (by simpa using h2)
          have g3 := dropWhile_len_le spc t
          exact ih m _ _ (by omega) (by omega)

theorem chals_acc : ∀ (n : Nat) (t : List UInt8) (acc : List Chal), chals n t acc = (chals n t []).map (acc ++ ·) := by
  intro n
  induction n with
  | zero => intro t acc; rfl
  | succ n ih =>
    intro t acc
    unfold chals
    split
    · simp
    · split
      · rfl
      · split
        · rfl
        · rename_i tk ps rest hb
          rw [ih _ (acc ++ _), ih _ ([] ++ _)]
          cases chals n rest [] with
          | none => rfl
          | some cs => simp

theorem noPar_of (b : List UInt8) (n : Nat) (acc cb : List Chal) (h : chals n b acc = some cb) : NoPar b := by
  cases n with
  | zero => simp [chals] at h
  | succ n =>
    unfold chals at h
    split at h
    · rename_i h1; exact .inl h1
    · split at h
      · cases h
      · rename_i h1 h2
        right
        cases hd : ((((b.dropWhile spc).dropWhile tch).dropWhile wsp).head? == some 61) with
        | false => simp
        | true =>
          exfalso
          have h61 : (((b.dropWhile spc).dropWhile tch).dropWhile wsp).head? = some 61 := by simpa using hd
          generalize (b.dropWhile spc).dropWhile tch = t2 at h h61
          obtain ⟨l, hl⟩ : ∃ l, t2.dropWhile wsp = 61 :: l := by
            cases hx : t2.dropWhile wsp with
            | nil => rw [hx] at h61; cases h61
            | cons a l => rw [hx] at h61; cases h61; exact ⟨l, rfl⟩
          have f1 : tch 61 = false := rfl
          have f2 : spc 61 = false := rfl
          have f3 : t68 61 = false := rfl
          have f4 : wsp 61 = false := rfl
          cases hw : (t2.takeWhile wsp).isEmpty with
          | true =>
            have ht2 : t2 = 61 :: l := by
              have e := List.takeWhile_append_dropWhile (p := wsp) (l := t2)
              have e0 : t2.takeWhile wsp = [] := by simpa using hw
              rw [e0, hl, List.nil_append] at e
              exact e.symm
            have hbody : body t2 = some ([], [], t2) := by unfold body; rw [hw]; rfl
            rw [hbody] at h
            simp only at h
            rw [ht2] at h
            cases n with
            | zero => simp [chals] at h
            | succ n =>
              unfold chals at h
              rw [List.dropWhile_cons_of_neg (by simp [f2]), List.takeWhile_cons_of_neg (by simp [f1])] at h
              simp at h
          | false =>
            have hbody : body t2 = none := by
              unfold body
              rw [hw, hl]
              have e1 : tok68 (61 :: l) = none := by
                unfold tok68
                rw [List.takeWhile_cons_of_neg (by simp [f3])]
                rfl
              rw [e1]
              unfold params
              rw [List.dropWhile_cons_of_neg (by simp [f2]), List.takeWhile_cons_of_neg (by simp [f1]), List.takeWhile_cons_of_neg (by simp [f2])]
              rfl
            rw [hbody] at h
            cases h

theorem chals_jn (b : List UInt8) (hb : NoPar b) : ∀ (n : Nat) (t : List UInt8) (acc ca : List Chal), chals n t acc = some ca →
    ∀ N M, (t ++ jn b).length < N → b.length < M → chals N (t ++ jn b) acc = chals M b ca := by
  intro n
  induction n with
  | zero => intro t acc ca h; simp [chals] at h
  | succ n ih =>
    intro t acc ca h N M hN hM
    unfold chals at h
    split at h
    · rename_i h1
      cases h
      obtain ⟨e1, _⟩ := dws_empty t b h1
      rw [chals_congr N _ b acc e1]
      exact chals_fuel N M b acc (by rw [List.length_append] at hN; simp [jn] at hN; omega) hM
    · rename_i h1
      split at h
      · cases h
      · rename_i h2
        split at h
        · cases h
        · rename_i tk ps rest hbd
          obtain ⟨N, rfl⟩ : ∃ N', N = N' + 1 := ⟨N - 1, by omega⟩
          have h1' : (t.dropWhile spc).isEmpty = false := by simpa using h1
          obtain ⟨e1, _⟩ := dws_some t b h1'
          have hne : ((t.dropWhile spc) ++ jn b).isEmpty = false := by
            cases hx : t.dropWhile spc with
            | nil => rfl
            | cons a l => rfl
          obtain ⟨rest', e3, e4⟩ := body_jn b hb _ _ _ _ hbd
          conv => lhs; unfold chals
          rw [e1, hne, tw_jn tch rfl, dw_jn tch rfl, e3, if_neg (by simp), if_neg h2]
          simp only
          rw [chals_congr N rest' _ _ e4]
          have g1 := (body_suffix _ _ _ _ hbd).length_le
          have g2 := dropWhile_len_lt tch (t.dropWhile spc) (by simpa using h2)
          have g3 := dropWhile_len_le spc t
          exact ih _ _ _ h N M (by rw [List.length_append] at hN ⊢; omega) hM

theorem chals_len : ∀ (n : Nat) (t : List UInt8) (acc ca : List Chal), chals n t acc = some ca → ca.length ≤ acc.length + t.length := by
  intro n
  induction n with
  | zero => intro t acc ca h; simp [chals] at h
  | succ n ih =>
    intro t acc ca h
    unfold chals at h
    split at h
    · cases h; omega
    · split at h
      · cases h
      · rename_i h2
        split at h
        · cases h
        · rename_i tk ps rest hbd
          have g1 := (body_suffix _ _ _ _ hbd).length_le
          have g2 := dropWhile_len_lt tch (t.dropWhile spc) (by simpa using h2)
          have g3 := dropWhile_len_le spc t
          have := ih _ _ _ h
          rw [List.length_append, List.length_singleton] at this
          omega

/-- THE PLAIN LAW: two lines that parse alone parse, joined, to the one list behind the other. -/
theorem joined (a b : List UInt8) (ca cb : List Chal) (ha : chals (a.length + 1) a [] = some ca) (hb : chals (b.length + 1) b [] = some cb) :
    chals ((a ++ jn b).length + 1) (a ++ jn b) [] = some (ca ++ cb) := by
  rw [chals_jn b (noPar_of b _ _ _ hb) _ a [] ca ha ((a ++ jn b).length + 1) (b.length + 1) (by omega) (by omega), chals_acc, hb]
  rfl
theorem chained (b : List UInt8) (ca cb : List Chal) (hb : chals (b.length + 1) b [] = some cb) : chals (b.length + 1) b ca = some (ca ++ cb) := by
  rw [chals_acc, hb]; rfl
end Go.Proofs.Qxb6613049aFmt
