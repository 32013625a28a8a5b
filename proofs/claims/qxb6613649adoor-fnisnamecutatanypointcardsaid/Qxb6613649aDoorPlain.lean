import Derived.Test.Qxb6613649aDoorKit
import Derived.Lib.Replace
import Derived.Lib.Strings
namespace Go.Proofs.Qxb6613649aDoor
open Go.Lib

def D : List UInt8 := [36, 36]
def isName (l : List UInt8) : Bool := !l.isEmpty && nameLen l == l.length
def esc : List UInt8 → List UInt8
  | [] => []
  | [c] => [c]
  | c :: d :: t => if c = 36 ∧ d = 36 then 36 :: 36 :: 36 :: 36 :: esc t else c :: esc (d :: t)
def nod : List UInt8 → Bool
  | [] => true
  | [_] => true
  | c :: d :: t => !(c == 36 && d == 36) && nod (d :: t)

theorem nod_two (c d : UInt8) (t : List UInt8) : nod (c :: d :: t) = true ↔ ¬(c = 36 ∧ d = 36) ∧ nod (d :: t) = true := by
  rw [nod, Bool.and_eq_true]
  refine and_congr ?_ Iff.rfl
  rw [Bool.not_eq_true', Bool.and_eq_false_iff, beq_eq_false_iff_ne, beq_eq_false_iff_ne]
  constructor
  · rintro (h | h) ⟨h1, h2⟩
    · exact h h1
    · exact h h2
  · intro h
    by_cases h1 : c = 36
    · exact .inr fun h2 => h ⟨h1, h2⟩
    · exact .inl h1
theorem pre_D (c d : UInt8) (t : List UInt8) : D.isPrefixOf (c :: d :: t) = decide (c = 36 ∧ d = 36) := by
  rw [Bool.eq_iff_iff, decide_eq_true_iff]
  show ((36 : UInt8) == c && ((36 : UInt8) == d && true)) = true ↔ _
  rw [Bool.and_true, Bool.and_eq_true, beq_iff_eq, beq_iff_eq, eq_comm, @eq_comm _ _ d]
theorem index_cases : ∀ s : List UInt8, (index s D = -1 ∧ nod s = true) ∨ ∃ b a, index s D = (b.length : Nat) ∧ s = b ++ D ++ a ∧ nod (b ++ [36]) = true
  | [] => .inl ⟨by simp [index, D], rfl⟩
  | [c] => .inl ⟨by simp [index, D, List.isPrefixOf], rfl⟩
  | c :: d :: t => by
    by_cases h : c = 36 ∧ d = 36
    · obtain ⟨rfl, rfl⟩ := h
      exact .inr ⟨[], t, by rw [index, pre_D]; simp, rfl, rfl⟩
    · have hx : index (c :: d :: t) D = if index (d :: t) D == -1 then -1 else index (d :: t) D + 1 := by
        rw [index, pre_D, decide_eq_false h]; rfl
      rcases index_cases (d :: t) with ⟨h1, h2⟩ | ⟨b, a, h1, h2, h3⟩
      · exact .inl ⟨by rw [hx, h1]; rfl, (nod_two _ _ _).2 ⟨h, h2⟩⟩
      · refine .inr ⟨c :: b, a, ?_, by rw [h2]; rfl, ?_⟩
        · have hf : (((b.length : Nat) : Int) == -1) = false := by rw [beq_eq_false_iff_ne]; omega
          rw [hx, h1, hf]
          simp
        · cases b with
          | nil =>
            have hd : d = 36 := by
              have := congrArg List.head? h2
              simpa [D] using this
            exact (nod_two _ _ _).2 ⟨fun hc => h ⟨hc.1, hd⟩, rfl⟩
          | cons e b' =>
            have hd : d = e := by
              have := congrArg List.head? h2
              simpa [D] using this
            subst hd
            exact (nod_two _ _ _).2 ⟨h, h3⟩
theorem cut_cases (s : List UInt8) : (cut s D = (s, [], false) ∧ nod s = true) ∨ ∃ b a, cut s D = (b, a, true) ∧ s = b ++ D ++ a ∧ nod (b ++ [36]) = true := by
  rcases index_cases s with ⟨h1, h2⟩ | ⟨b, a, h1, h2, h3⟩
  · exact .inl ⟨by unfold cut; rw [h1]; rfl, h2⟩
  · refine .inr ⟨b, a, ?_, h2, h3⟩
    unfold cut
    rw [h1, if_pos (by omega)]
    simp only [Int.toNat_natCast]
    rw [h2, List.append_assoc, List.take_left, ← List.append_assoc, ← List.length_append, List.drop_left]
theorem nod_left : ∀ b : List UInt8, nod (b ++ [36]) = true → nod b = true
  | [], _ => rfl
  | [_], _ => rfl
  | c :: d :: t, h => by
    have h' := (nod_two c d (t ++ [36])).1 (by simpa using h)
    exact (nod_two _ _ _).2 ⟨h'.1, nod_left (d :: t) h'.2⟩
theorem esc_two (c d : UInt8) (t : List UInt8) (h : ¬(c = 36 ∧ d = 36)) : esc (c :: d :: t) = c :: esc (d :: t) := by
  rw [esc, if_neg h]
theorem esc_nod : ∀ s : List UInt8, nod s = true → esc s = s
  | [], _ => rfl
  | [_], _ => rfl
  | c :: d :: t, h => by
    have h' := (nod_two c d t).1 h
    rw [esc_two _ _ _ h'.1, esc_nod (d :: t) h'.2]
def Cl (l : List UInt8) : Prop := ∀ x, esc (l ++ x) = esc l ++ esc x
theorem Cl.nil : Cl [] := fun _ => rfl
theorem Cl.nod : ∀ b : List UInt8, nod (b ++ [36]) = true → Cl b
  | [], _ => Cl.nil
  | [c], h => fun x => by
    have hc : ¬ c = 36 := fun hc => ((nod_two c 36 []).1 h).1 ⟨hc, rfl⟩
    cases x with
    | nil => rfl
    | cons d t =>
      show esc (c :: d :: t) = _
      rw [esc_two _ _ _ (fun h => hc h.1)]; rfl
  | c :: d :: t, h => fun x => by
    have h' := (nod_two c d (t ++ [36])).1 (by simpa using h)
    show esc (c :: d :: (t ++ x)) = _
    rw [esc_two _ _ _ h'.1, esc_two _ _ _ h'.1]
    exact congrArg (c :: ·) (Cl.nod (d :: t) h'.2 x)
theorem Cl.D : Cl D := fun x => by
  show esc (36 :: 36 :: x) = esc [36, 36] ++ esc x
  rw [esc, esc, if_pos ⟨rfl, rfl⟩, if_pos ⟨rfl, rfl⟩]; rfl
theorem Cl.append {a b : List UInt8} (ha : Cl a) (hb : Cl b) : Cl (a ++ b) := fun x => by
  rw [List.append_assoc, ha, hb, ha, List.append_assoc]
theorem esc_D : esc D = D ++ D := by
  show esc [36, 36] = _
  rw [esc, if_pos ⟨rfl, rfl⟩]; rfl

theorem esc_cut (b a : List UInt8) (h : nod (b ++ [36]) = true) : esc (b ++ D ++ a) = b ++ (D ++ D) ++ esc a := by
  rw [List.append_assoc, Cl.nod b h, esc_nod b (nod_left b h), Cl.D a, esc_D]
  simp [List.append_assoc]
/-- strings.ReplaceAll(s, "$$", "$$$$"). -/
theorem replaceAll_D (s : List UInt8) : replaceAll s D (D ++ D) = esc s := by
  have hne : (D == D ++ D) = false := by decide
  unfold replaceAll replace
  rw [hne]
  simp only [Bool.false_eq_true, if_false]
  have : replaceNum s D (-1) = count s D := by unfold replaceNum; rw [if_pos (Or.inl (by omega))]
  rw [this]
  have main : ∀ (n : Nat) (s : List UInt8), s.length ≤ n → replaceK D (D ++ D) (count s D) s = esc s := by
    intro n
    induction n with
    | zero =>
      intro s hs
      have : s = [] := List.eq_nil_of_length_eq_zero (by omega)
      subst this
      rw [count_miss (by simp [index, D])]; rfl
    | succ n ih =>
      intro s hs
      rcases index_cases s with ⟨h1, h2⟩ | ⟨b, a, h1, h2, h3⟩
      · rw [count_miss h1, esc_nod s h2]; rfl
      · rw [count_hit (by simp [D]) h1, Nat.add_comm, replaceK_hit _ _ _ _ _ h1]
        have e1 : s.take b.length = b := by rw [h2, List.append_assoc, List.take_left]
        have e2 : s.drop (b.length + D.length) = a := by rw [h2, ← List.length_append, List.drop_left]
        rw [e1, e2, ih a (by rw [h2] at hs; simp [D] at hs; omega), h2, esc_cut b a h3]
  exact main _ s (Nat.le_refl _)

/-! parts -/
abbrev Pt := List UInt8 × List UInt8
def rend (p : Pt) : List UInt8 := if p.2.isEmpty then esc p.1 else D ++ p.2 ++ D
def rendAll (ps : List Pt) : List UInt8 := (ps.map rend).flatten
theorem rendAll_append (a b : List Pt) : rendAll (a ++ b) = rendAll a ++ rendAll b := by simp [rendAll]
theorem rendAll_one (p : Pt) : rendAll [p] = rend p := by simp [rendAll]
theorem rendAll_nil : rendAll [] = [] := rfl
/-- The parts behind the literal that is laid ahead of a placeholder. -/
def flush (ps : List Pt) (l : List UInt8) : List Pt := if l.isEmpty then ps else ps ++ [(l, [])]
theorem rendAll_flush (ps : List Pt) (l : List UInt8) : rendAll (flush ps l) = rendAll ps ++ esc l := by
  unfold flush
  cases l with
  | nil => simp [esc]
  | cons c t => simp [rendAll_append, rendAll_one, rend]
theorem flush_len (ps : List Pt) (l : List UInt8) : (flush ps l).length ≤ ps.length + l.length := by
  unfold flush
  cases l <;> simp

theorem nameLen_cons (c : UInt8) (t : List UInt8) : nameLen (c :: t) = if letter c = true then 1 + (t.takeWhile nch).length else 0 := rfl
theorem isName_cons (c : UInt8) (t : List UInt8) : isName (c :: t) = (letter c && t.all nch) := by
  have key : ∀ t : List UInt8, (t.takeWhile nch).length ≤ t.length ∧ ((t.takeWhile nch).length == t.length) = t.all nch := by
    intro t
    induction t with
    | nil => simp
    | cons d t ih =>
      cases hd : nch d
      · rw [List.takeWhile_cons_of_neg (by simp [hd])]; simp [hd]
      · rw [List.takeWhile_cons_of_pos hd]
        simp [hd]
        refine ⟨ih.1, ?_⟩
        have := ih.2
        rw [Bool.eq_iff_iff] at this ⊢
        simpa using this
  unfold isName
  rw [nameLen_cons]
  cases letter c
  · simp
  · have := (key t).2
    rw [if_pos rfl]
    simp only [List.isEmpty_cons, Bool.not_false, Bool.true_and, List.length_cons]
    rw [← this, Bool.eq_iff_iff]
    simp
    omega
theorem isName_append (a b : List UInt8) (h : a ≠ []) : isName (a ++ b) = (isName a && isName (a.take 1 ++ b)) := by
  cases a with
  | nil => exact absurd rfl h
  | cons c t =>
    show isName (c :: (t ++ b)) = (isName (c :: t) && isName (c :: b))
    rw [isName_cons, isName_cons, isName_cons, List.all_append]
    cases letter c <;> simp
theorem isName_take (a : List UInt8) (h : nameLen a ≠ 0) : isName (a.take (nameLen a)) = true := by
  cases a with
  | nil => exact absurd rfl h
  | cons c t =>
    rw [nameLen_cons] at h ⊢
    by_cases hc : letter c = true
    · rw [if_pos hc, Nat.add_comm, List.take_succ_cons, isName_cons, hc, Bool.true_and]
      have : t.take (t.takeWhile nch).length = t.takeWhile nch := by
        have h2 := List.takeWhile_append_dropWhile (p := nch) (l := t)
        conv => lhs; rw [← h2]
        rw [show (t.takeWhile nch ++ t.dropWhile nch).takeWhile nch = t.takeWhile nch by rw [h2]]
        rw [List.take_left]
      rw [this]
      simp
    · rw [if_neg hc] at h; exact absurd rfl h
theorem nameLen_name (x : List UInt8) (h : isName x = true) (r : List UInt8) (hr : r.head? = some 36) : nameLen (x ++ r) = x.length := by
  cases x with
  | nil => simp [isName] at h
  | cons c t =>
    rw [isName_cons, Bool.and_eq_true] at h
    show (if letter c = true then 1 + ((t ++ r).takeWhile nch).length else 0) = _
    rw [if_pos h.1, List.takeWhile_append_of_pos (fun a ha => List.all_eq_true.1 h.2 a ha)]
    cases r with
    | nil => simp at hr
    | cons d r =>
      have hd : d = 36 := by simpa using hr
      subst hd
      rw [List.takeWhile_cons_of_neg (by decide)]
      simp [Nat.add_comm]
theorem nameLen_le (a : List UInt8) : nameLen a ≤ a.length := by
  cases a with
  | nil => exact Nat.le_refl _
  | cons c t =>
    rw [nameLen_cons]
    split
    · have := (List.takeWhile_prefix (p := nch) (l := t)).length_le
      simp; omega
    · simp
theorem pre_split {p s : List UInt8} (h : hasPrefix s p = true) : s = p ++ s.drop p.length := by
  unfold hasPrefix at h
  obtain ⟨t, rfl⟩ := List.isPrefixOf_iff_prefix.1 h
  rw [List.drop_left]
theorem pre_append (p t : List UInt8) : hasPrefix (p ++ t) p = true := by
  unfold hasPrefix
  exact List.isPrefixOf_iff_prefix.2 ⟨t, rfl⟩

/-- What holds ahead of each round of the parse of src; x is the text between the two marks. -/
structure Inv (x src : List UInt8) (ps : List Pt) (lit s : List UInt8) : Prop where
  whole : rendAll ps ++ esc lit ++ s = src
  cl : Cl lit
  names : ∀ p ∈ ps, p.2 = [] ∨ isName p.2 = true
  room : ps.length + lit.length + s.length ≤ src.length
  one : isName x = true → src = D ++ x ++ D → (ps = [] ∧ lit = [] ∧ s = src) ∨ (ps = [([], x)] ∧ lit = [] ∧ s = [])
theorem Inv.start (x src : List UInt8) : Inv x src [] [] src :=
  ⟨rfl, Cl.nil, by simp, by simp, fun _ _ => .inl ⟨rfl, rfl, rfl⟩⟩
theorem cut_one (x : List UInt8) : cut (D ++ x ++ D) D = ([], x ++ D, true) := by
  unfold cut
  have : index (D ++ x ++ D) D = 0 := by
    show index (36 :: 36 :: (x ++ D)) D = 0
    rw [index, pre_D]; simp
  rw [this]
  simp [D]
theorem cut_nil : cut [] D = ([], [], false) := by simp [cut, index, D]
theorem name_not_D (x : List UInt8) (h : isName x = true) : hasPrefix (x ++ D) D = false := by
  cases x with
  | nil => simp [isName] at h
  | cons c t =>
    rw [isName_cons, Bool.and_eq_true] at h
    cases hp : hasPrefix (c :: t ++ D) D with
    | false => rfl
    | true =>
      have := pre_split hp
      have hc : c = 36 := by
        have := congrArg List.head? this
        simpa [D] using this
      subst hc
      exact absurd h.1 (by decide)
theorem Inv.escd {x src : List UInt8} {ps : List Pt} {lit s b a : List UInt8} (I : Inv x src ps lit s) (hc : cut s D = (b, a, true)) (hp : hasPrefix a D = true) : Inv x src ps (lit ++ b ++ D) (a.drop 2) := by
  rcases cut_cases s with ⟨h1, _⟩ | ⟨b', a', h1, h2, h3⟩
  · rw [h1] at hc; simp at hc
  · rw [h1] at hc
    obtain ⟨rfl, rfl⟩ : b' = b ∧ a' = a := by simpa using hc
    have ha := pre_split hp
    have hl : a'.length = 2 + (a'.drop 2).length := by
      conv => lhs; rw [ha]
      simp [D]; omega
    refine ⟨?_, (I.cl.append (Cl.nod b' h3)).append Cl.D, I.names, ?_, ?_⟩
    · rw [List.append_assoc lit, I.cl, Cl.nod b' h3, esc_nod b' (nod_left b' h3), esc_D, ← I.whole]
      rw [h2]
      conv => rhs; rw [ha]
      simp [List.append_assoc, D]
    · have := I.room
      rw [h2] at this
      simp [D] at this ⊢
      have h4 : (a'.drop 2).length = a'.length - 2 := by simp
      omega
    · intro hx hs
      rcases I.one hx hs with ⟨_, _, h⟩ | ⟨_, _, h⟩
      · rw [h, hs, cut_one] at h1
        have : x ++ D = a' := by simpa using (congrArg (fun z => z.2.1) h1)
        rw [← this, name_not_D x hx] at hp
        cases hp
      · rw [h, cut_nil] at h1
        simp at h1
theorem Inv.var {x src : List UInt8} {ps : List Pt} {lit s b a : List UInt8} (I : Inv x src ps lit s) (hc : cut s D = (b, a, true)) (hn : nameLen a ≠ 0) (hp : hasPrefix (a.drop (nameLen a)) D = true) :
    Inv x src (flush ps (lit ++ b) ++ [([], a.take (nameLen a))]) [] (a.drop (nameLen a + 2)) := by
  have hin := isName_take a hn
  have hle := nameLen_le a
  rcases cut_cases s with ⟨h1, _⟩ | ⟨b', a', h1, h2, h3⟩
  · rw [h1] at hc; simp at hc
  · rw [h1] at hc
    obtain ⟨rfl, rfl⟩ : b' = b ∧ a' = a := by simpa using hc
    have ha := pre_split hp
    have hd : (a'.drop (nameLen a')).drop D.length = a'.drop (nameLen a' + 2) := by rw [List.drop_drop]; rfl
    rw [hd] at ha
    have ha2 : a' = a'.take (nameLen a') ++ D ++ a'.drop (nameLen a' + 2) := by
      conv => lhs; rw [← List.take_append_drop (nameLen a') a', ha]
      simp [List.append_assoc]
    have hne : (a'.take (nameLen a')).isEmpty = false := by
      cases h : a'.take (nameLen a') with
      | nil => rw [h] at hin; simp [isName] at hin
      | cons _ _ => rfl
    refine ⟨?_, Cl.nil, ?_, ?_, ?_⟩
    · rw [rendAll_append, rendAll_flush, rendAll_one, I.cl, esc_nod b' (nod_left b' h3), ← I.whole]
      unfold rend
      rw [hne]
      conv => rhs; rw [h2, ha2]
      simp [List.append_assoc, esc]
    · intro p hp
      rcases List.mem_append.1 hp with hp | hp
      · unfold flush at hp
        split at hp
        · exact I.names p hp
        · rcases List.mem_append.1 hp with hp | hp
          · exact I.names p hp
          · rw [List.mem_singleton.1 hp]; exact .inl rfl
      · rw [List.mem_singleton.1 hp]; exact .inr hin
    · have h1 := I.room
      have h2' := flush_len ps (lit ++ b')
      have h3' : a'.length = (a'.take (nameLen a')).length + 2 + (a'.drop (nameLen a' + 2)).length := by
        conv => lhs; rw [ha2]
        simp [D]; omega
      rw [h2] at h1
      simp [D] at h1 h2' h3' ⊢
      omega
    · intro hx hs
      rcases I.one hx hs with ⟨h4, h5, h⟩ | ⟨_, _, h⟩
      · rw [h, hs, cut_one] at h1
        obtain ⟨h6, h7⟩ : [] = b' ∧ x ++ D = a' := by simpa using h1
        subst h6
        rw [← h7, nameLen_name x hx D rfl, h4, h5]
        refine .inr ⟨?_, rfl, ?_⟩
        · simp [flush]
        · rw [List.drop_eq_nil_of_le (by simp [D])]
      · rw [h, cut_nil] at h1
        simp at h1
theorem Inv.bad {x src : List UInt8} {ps : List Pt} {lit s b a : List UInt8} (I : Inv x src ps lit s) (hc : cut s D = (b, a, true)) (hs : src = D ++ x ++ D) (hp : nameLen a = 0 ∨ hasPrefix (a.drop (nameLen a)) D = false) : isName x = false := by
  cases hx : isName x with
  | false => rfl
  | true =>
    rcases I.one hx hs with ⟨h4, h5, h⟩ | ⟨_, _, h⟩
    · rw [h, hs, cut_one] at hc
      obtain ⟨_, h7⟩ : [] = b ∧ x ++ D = a := by simpa using hc
      rw [← h7, nameLen_name x hx D rfl] at hp
      rcases hp with hp | hp
      · have : x = [] := List.eq_nil_of_length_eq_zero hp
        subst this
        simp [isName] at hx
      · rw [List.drop_left] at hp
        exact absurd hp (by decide)
    · rw [h, cut_nil] at hc
      simp at hc
theorem Inv.done {x src : List UInt8} {ps : List Pt} {lit s b a : List UInt8} (I : Inv x src ps lit s) (hc : cut s D = (b, a, false)) :
    b = s ∧ rendAll (flush ps (lit ++ b)) = src ∧ (∀ p ∈ flush ps (lit ++ b), p.2 = [] ∨ isName p.2 = true) ∧ (isName x = true → src = D ++ x ++ D → flush ps (lit ++ b) = [([], x)]) ∧ (flush ps (lit ++ b)).length ≤ src.length := by
  rcases cut_cases s with ⟨h1, h2⟩ | ⟨b', a', h1, h2, h3⟩
  · rw [h1] at hc
    obtain ⟨rfl, _⟩ : s = b ∧ [] = a := by simpa using hc
    refine ⟨rfl, ?_, ?_, ?_, ?_⟩
    · rw [rendAll_flush, I.cl, esc_nod s h2, ← I.whole, List.append_assoc]
    · intro p hp
      unfold flush at hp
      split at hp
      · exact I.names p hp
      · rcases List.mem_append.1 hp with hp | hp
        · exact I.names p hp
        · rw [List.mem_singleton.1 hp]; exact .inl rfl
    · intro hx hs
      rcases I.one hx hs with ⟨_, _, h⟩ | ⟨h4, h5, h⟩
      · rw [h, hs, cut_one] at h1
        simp at h1
      · rw [h, h4, h5]; rfl
    · have := I.room
      have h3 := flush_len ps (lit ++ s)
      simp at h3
      omega
  · rw [h1] at hc; simp at hc

/-- Vars: each variable once, in the order of the parts. -/
def addVar (acc : List (List UInt8)) (p : Pt) : List (List UInt8) := if p.2.isEmpty || acc.contains p.2 then acc else acc ++ [p.2]
def varsOf (ps : List Pt) : List (List UInt8) := ps.foldl addVar []
theorem mem_addVar (acc : List (List UInt8)) (p : Pt) (v : List UInt8) (h : v ∈ addVar acc p) : v ∈ acc ∨ (v = p.2 ∧ p.2 ≠ []) := by
  unfold addVar at h
  split at h
  · exact .inl h
  · rename_i hc
    rcases List.mem_append.1 h with h | h
    · exact .inl h
    · refine .inr ⟨List.mem_singleton.1 h, fun he => hc ?_⟩
      rw [he]; rfl
theorem mem_foldVar : ∀ (ps : List Pt) (acc : List (List UInt8)) (v : List UInt8), v ∈ ps.foldl addVar acc → v ∈ acc ∨ ∃ p ∈ ps, v = p.2 ∧ p.2 ≠ []
  | [], _, _, h => .inl h
  | p :: ps, acc, v, h => by
    rcases mem_foldVar ps (addVar acc p) v h with h | ⟨q, hq, h1⟩
    · rcases mem_addVar acc p v h with h | h
      · exact .inl h
      · exact .inr ⟨p, by simp, h⟩
    · exact .inr ⟨q, by simp [hq], h1⟩
theorem vars_law (x : List UInt8) (ps : List Pt) (h1 : ∀ p ∈ ps, p.2 = [] ∨ isName p.2 = true) (h2 : isName x = true → ps = [([], x)]) : decide (varsOf ps = [x]) = isName x := by
  cases hx : isName x with
  | true =>
    rw [h2 hx]
    have : x.isEmpty = false := by
      cases x with
      | nil => simp [isName] at hx
      | cons _ _ => rfl
    simp [varsOf, addVar, this]
  | false =>
    rw [decide_eq_false_iff_not]
    intro hv
    have hm : x ∈ varsOf ps := by rw [hv]; simp
    rcases mem_foldVar ps [] x hm with h | ⟨p, hp, h3, h4⟩
    · simp at h
    · rcases h1 p hp with h | h
      · exact h4 h
      · rw [← h3, hx] at h; cases h
end Go.Proofs.Qxb6613649aDoor
