import Derived.Test.Qxb6613649aDoorW4
import Derived.Deep.RegionLaw
namespace Go.Proofs.Qxb6613649aDoor
open Go.RowKit

def ptCells (ps : List Pt) : List Value := ps.flatMap fun p => [.string ⟨p.1.toArray⟩, .string ⟨p.2.toArray⟩]
theorem ptCells_snoc (ps : List Pt) (q : Pt) : ptCells (ps ++ [q]) = ptCells ps ++ [.string ⟨q.1.toArray⟩, .string ⟨q.2.toArray⟩] := by simp [ptCells]
theorem ptCells_len (ps : List Pt) : (ptCells ps).length = ps.length * 2 := by
  induction ps with
  | nil => rfl
  | cons a t ih =>
    have : ptCells (a :: t) = [.string ⟨a.1.toArray⟩, .string ⟨a.2.toArray⟩] ++ ptCells t := rfl
    rw [this, List.length_append, ih]
    simp; omega

/-- append to a row of the call's own, as one step of a region that draws. -/
theorem step_append_own {P : Program} {ops : Array Oper} {o : Oper} {a : Act} {w : World} {K : Act → World → Prop} {Q : Exit → Act → World → Prop} {E : Prop}
    (hg : o.guard = none) (s x : Operand) (t : TypeId) (hop : o.op = Op.call { callee := Callee.builtin Builtin.append, args := #[s, x], argTypes := #[t, t] })
    (base : Nat) (e : TypeId) (i : TypeInfo) (z : Value) (size bytes : Nat) (ht : P.underlying t = some (.slice e)) (hi : P.info? e = some i) (hz : i.zero = some z)
    (hsize : i.size = size) (hby : i.bytes = bytes) (hzs : z.cells.size = size) (hsz : 0 < size)
    (v : Value) (n : Nat) (xs : List Value) (hs : a.eval s = v) (hown : w.ownsRow base e size v n xs)
    (ad : Addr) (m c : Nat) (news : List Value) (hx : a.eval x = .slice (some ad) m c) (hl : news.length = m * size) (hnews : ∀ j u, news[j]? = some u → w.cell? (ad.add j) = some u) (h1 : ∀ u ∈ news, u.oneCell' = true)
    (h63 : n + m ≤ maxLen) (hbytes : (n + m) * bytes ≤ 140737488355328) (hbase : base ≤ w.heap.size)
    (h : ∀ v' w', w'.ownsRow base e size v' (n + m) (xs ++ news) → w.grownBy w' v.ownBlock → (v' = .slice none 0 0 ↔ v = .slice none 0 0 ∧ m = 0) → K (a.put o.dst v') w') :
    if Region.wanted o (yielded ops a.tmps) = true then Oper.wp P o a w K Q else E := by
  have hw : Region.wanted o (yielded ops a.tmps) = true := by simp [Region.wanted, hg]
  rw [if_pos hw]
  exact wp_append_own w s x t hop base e i z size bytes ht hi hz hsize hby hzs hsz v n xs hs hown ad m c news hx hl hnews h1 h63 hbytes hbase h

/-- The blocks of template's own. -/
def TW (n tb p : Nat) (src : ByteArray) (ps : List Pt) (lit : List UInt8) (v : Value) (ln : Int) (W : World) : Prop :=
  n + 2 ≤ tb ∧
  W.heap[n]? = some (.cells #[.string src, .slice (some ⟨p, 0, none⟩) 1 1] 44 (0, 0)) ∧
  W.heap[n + 1]? = some (.cells #[.slice none 0 0, .int .i64 0] 31 (0, 0)) ∧
  W.heap[tb]? = some (.cells #[v, .int .i64 ln] 31 (0, 0)) ∧
  W.ownsRow n 62 2 v ps.length (ptCells ps) ∧
  Lib.IsBuilderF 60 5 n (tb + 1) (Lib.byteCells lit) W

theorem TW.cells {n tb p : Nat} {src : ByteArray} {ps : List Pt} {lit : List UInt8} {v : Value} {ln : Int} {W : World} (h : TW n tb p src ps lit v ln W) :
    W.cell? ⟨n, 0, none⟩ = some (.string src) ∧ W.cell? ⟨n, 1, none⟩ = some (.slice (some ⟨p, 0, none⟩) 1 1) ∧
    W.cell? ⟨n + 1, 0, none⟩ = some (.slice none 0 0) ∧ W.cell? ⟨n + 1, 1, none⟩ = some (.int .i64 0) ∧ W.frozen? ⟨n + 1, 0, none⟩ = false ∧ W.frozen? ⟨n + 1, 1, none⟩ = false ∧
    W.cell? ⟨tb, 0, none⟩ = some v ∧ W.cell? ⟨tb, 1, none⟩ = some (.int .i64 ln) ∧ W.frozen? ⟨tb, 0, none⟩ = false := by
  obtain ⟨_, h1, h2, h3, _⟩ := h
  exact ⟨by simp [World.cell?, h1], by simp [World.cell?, h1], by simp [World.cell?, h2], by simp [World.cell?, h2], by simp [World.frozen?, h2], by simp [World.frozen?, h2], by simp [World.cell?, h3], by simp [World.cell?, h3], by simp [World.frozen?, h3]⟩

theorem builderAt_block {n b : Nat} {bs : List Value} {W : World} (h : Lib.IsBuilderF 60 5 n b bs W) : n ≤ b ∧ ∃ q v, W.heap[b]? = some (.cells #[q, v] 60 (0, 0)) := by
  rcases h with ⟨hB, v, hb, _⟩ | ⟨hB, v, hb, _⟩
  · exact ⟨hB, _, v, hb⟩
  · exact ⟨hB, _, v, hb⟩

theorem builder_move {n b : Nat} {bs : List Value} {W W' : World} (h : Lib.IsBuilderF 60 5 n b bs W) (hk : ∀ (k : Nat) (c : Array Value) (t : TypeId) (fz : Nat × Nat), W.heap[k]? = some (Obj.cells c t fz) → t = 60 ∨ t = 5 → W'.heap[k]? = some (Obj.cells c t fz)) : Lib.IsBuilderF 60 5 n b bs W' := by
  have key : ∀ p, Lib.BuilderAtF 60 5 n b p bs W → Lib.BuilderAtF 60 5 n b p bs W' := by
    rintro p ⟨hB, v, hb, ⟨hl, hown⟩, hne⟩
    refine ⟨hB, v, hk b _ _ _ hb (.inl rfl), ⟨hl, ?_⟩, hne⟩
    rcases hown with h1 | ⟨g, cap, cur, fz, h1, h2, h3, h4⟩
    · exact .inl h1
    · exact .inr ⟨g, cap, cur, fz, h1, h2, hk g _ _ _ h3 (.inr rfl), h4⟩
  exact h.elim (fun h => .inl (key _ h)) (fun h => .inr (key _ h))

theorem row_move {n k : Nat} {v : Value} {xs : List Value} {W W' : World} (h : W.ownsRow n 62 2 v k xs) (hk : ∀ (k : Nat) (c : Array Value) (fz : Nat × Nat), W.heap[k]? = some (Obj.cells c 62 fz) → W'.heap[k]? = some (Obj.cells c 62 fz)) : W'.ownsRow n 62 2 v k xs := by
  obtain ⟨h1, h2⟩ := h
  refine ⟨h1, ?_⟩
  rcases h2 with h2 | ⟨g, cap, cur, h3, h4, h5, h6⟩
  · exact .inl h2
  · exact .inr ⟨g, cap, cur, h3, h4, hk g _ _ h5, h6⟩

theorem TW.built {n tb p : Nat} {src : ByteArray} {ps : List Pt} {lit lit' : List UInt8} {v : Value} {ln : Int} {W W' : World} (h : TW n tb p src ps lit v ln W)
    (hb : Lib.IsBuilderF 60 5 n (tb + 1) (Lib.byteCells lit') W') (hk : Lib.OthersKept 5 (some (tb + 1)) W W') : TW n tb p src ps lit' v ln W' := by
  obtain ⟨h0, h1, h2, h3, h4, h5⟩ := h
  obtain ⟨_, q, u, hq⟩ := builderAt_block h5
  refine ⟨h0, hk _ _ h1 (by intro e; cases e; omega) (by intro c fz e; cases e), hk _ _ h2 (by intro e; cases e; omega) (by intro c fz e; cases e), hk _ _ h3 (by intro e; injection e with e; omega) (by intro c fz e; cases e), row_move h4 ?_, hb⟩
  intro k c fz hc
  refine hk _ _ hc ?_ (by intro c fz e; cases e)
  intro e
  injection e with e
  subst e
  rw [hq] at hc
  cases hc

theorem cells_new2 (w : World) (t : TypeId) (a b : Value) : ∀ (j : Nat) (u : Value), ([a, b] : List Value)[j]? = some u → (w.alloc (.cells #[a, b] t)).cell? ((⟨w.heap.size, 0, none⟩ : Addr).add j) = some u := by
  intro j u h
  have hb : (w.alloc (.cells #[a, b] t)).heap[w.heap.size]? = some (.cells #[a, b] t (0, 0)) := Array.getElem?_push_size
  generalize w.alloc (.cells #[a, b] t) = W at *
  match j, h with
  | 0, h => cases h; simp [World.cell?, Addr.add, hb]
  | 1, h => cases h; simp [World.cell?, Addr.add, hb]
  | j + 2, h => simp at h

theorem TW.grown {n tb p : Nat} {src : ByteArray} {ps : List Pt} {lit : List UInt8} {v v' : Value} {ln : Int} {W w9 : World} (h : TW n tb p src ps lit v ln W) (q : Pt)
    (ho : w9.ownsRow n 62 2 v' (ps.length + 1) (ptCells ps ++ [.string ⟨q.1.toArray⟩, .string ⟨q.2.toArray⟩])) (hg : (W.alloc (.cells #[.string ⟨q.1.toArray⟩, .string ⟨q.2.toArray⟩] 62)).grownBy w9 v.ownBlock) :
    (∃ g c, v' = .slice (some ⟨g, 0, none⟩) (ps.length + 1) c) ∧ w9.cell? ⟨tb, 0, none⟩ = some v ∧ w9.frozen? ⟨tb, 0, none⟩ = false ∧ TW n tb p src (ps ++ [q]) lit v' ln (w9.setCell ⟨tb, 0, none⟩ v') ∧ Below n W (w9.setCell ⟨tb, 0, none⟩ v') := by
  obtain ⟨h0, h1, h2, h3, h4, h5⟩ := h
  have hrow : ∀ j, v.ownBlock = some j → n ≤ j ∧ ∃ c, W.heap[j]? = some (.cells c 62 (0, 0)) := by
    intro j hj
    rcases h4.2 with ⟨e, _⟩ | ⟨g, cap, cur, e, hb, hc, _⟩
    · rw [e] at hj; cases hj
    · rw [e] at hj; cases hj; exact ⟨hb, cur, hc⟩
  have hlt : ∀ (k : Nat) (o : Obj), W.heap[k]? = some o → k < W.heap.size := fun k o h => (Array.getElem?_eq_some_iff.1 h).1
  have hk : ∀ (k : Nat) (o : Obj), W.heap[k]? = some o → (∀ c : Array Value, o ≠ Obj.cells c 62 (0, 0)) → w9.heap[k]? = some o := by
    intro k o hko hno
    rw [hg.block k (by simp; have := hlt k o hko; omega) (fun e => by
      obtain ⟨_, c, hc⟩ := hrow k e.symm
      rw [hko] at hc
      cases hc
      exact hno c rfl), Below.heap_alloc _ _ _ (hlt k o hko)]
    exact hko
  have e3 : w9.heap[tb]? = some (.cells #[v, .int .i64 ln] 31 (0, 0)) := hk tb _ h3 (by intro c e; cases e)
  have hset : ∀ (k : Nat) (o : Obj), k ≠ tb → w9.heap[k]? = some o → (w9.setCell ⟨tb, 0, none⟩ v').heap[k]? = some o := fun k o hne hko => by
    rw [Below.heap_setCell _ _ _ _ hne]; exact hko
  have hsv : ∃ g c, v' = .slice (some ⟨g, 0, none⟩) (ps.length + 1) c := by
    rcases ho.2 with ⟨_, e⟩ | ⟨g, cap, cur, e, _⟩
    · cases e
    · exact ⟨g, cap, e⟩
  have hnlt : n ≤ W.heap.size := Nat.le_of_lt (hlt n _ h1)
  refine ⟨hsv, by simp [World.cell?, e3], by simp [World.frozen?, e3], ⟨h0, hset _ _ (by omega) (hk _ _ h1 (by intro c e; cases e)), hset _ _ (by omega) (hk _ _ h2 (by intro c e; cases e)), ?_, ?_, ?_⟩, ?_⟩
  · simp [World.setCell, Array.getElem?_modify, e3]
  · rw [ptCells_snoc]
    have : (ps ++ [q]).length = ps.length + 1 := by simp
    rw [this]
    refine row_move ho ?_
    intro k c fz hc
    refine hset _ _ ?_ hc
    intro e
    subst e
    rw [e3] at hc
    cases hc
  · refine builder_move h5 ?_
    intro k c t fz hc ht
    refine hset _ _ ?_ (hk _ _ hc ?_)
    · intro e
      subst e
      rw [h3] at hc
      cases hc
      rcases ht with ht | ht <;> cases ht
    · intro c' e
      cases e
      rcases ht with ht | ht <;> cases ht
  · refine Below.setCell ?_ (by show n ≤ tb; omega) _
    exact ((Below.refl n W).alloc hnlt _).grown hg (by simp; omega) (fun k hk => (hrow k hk).1)

theorem reset_any (n b : Nat) (bs : List Value) (w : World) (h : Lib.IsBuilderF 60 5 n b bs w) :
    Calls Tryd.prog 26 #[.pointer (some ⟨b, 0, none⟩)] w fun e w' => e = .returned (.tuple #[]) ∧ w' = (w.setCell ⟨b, 0, none⟩ (.pointer none)).setCell ⟨b, 1, none⟩ (.slice none 0 0) := by
  obtain ⟨_, q, v, hb⟩ := builderAt_block h
  have hq : (q = .pointer none ∨ q = .pointer (some ⟨b, 0, none⟩)) ∧ (∃ x m c, v = .slice x m c) := by
    rcases h with ⟨_, u, hb', hown, _⟩ | ⟨_, u, hb', hown, _⟩
    · rw [hb] at hb'; cases hb'
      refine ⟨.inl rfl, ?_⟩
      rcases hown.2 with ⟨e, _⟩ | ⟨g, cap, cur, fz, e, _⟩
      · exact ⟨_, _, _, e⟩
      · exact ⟨_, _, _, e⟩
    · rw [hb] at hb'; cases hb'
      refine ⟨.inr rfl, ?_⟩
      rcases hown.2 with ⟨e, _⟩ | ⟨g, cap, cur, fz, e, _⟩
      · exact ⟨_, _, _, e⟩
      · exact ⟨_, _, _, e⟩
  obtain ⟨c0, c1, f0, f1⟩ : w.cell? ⟨b, 0, none⟩ = some q ∧ w.cell? ⟨b, 1, none⟩ = some v ∧ w.frozen? ⟨b, 0, none⟩ = false ∧ w.frozen? ⟨b, 1, none⟩ = false := by
    exact ⟨by simp [World.cell?, hb], by simp [World.cell?, hb], by simp [World.frozen?, hb], by simp [World.frozen?, hb]⟩
  obtain ⟨hq, x, mm, c, rfl⟩ := hq
  clear h hb
  rcases hq with rfl | rfl
  · go_enter Tryd.func26, Tryd.ntmps26
    go_wp2_with fail
    go_end0
    exact ⟨rfl, rfl⟩
  · go_enter Tryd.func26, Tryd.ntmps26
    go_wp2_with fail
    go_end0
    exact ⟨rfl, rfl⟩

theorem TW.reset {n tb p : Nat} {src : ByteArray} {ps : List Pt} {lit : List UInt8} {v : Value} {ln : Int} {W : World} (h : TW n tb p src ps lit v ln W) :
    TW n tb p src ps [] v ln ((W.setCell ⟨tb + 1, 0, none⟩ (.pointer none)).setCell ⟨tb + 1, 1, none⟩ (.slice none 0 0)) ∧ Below n W ((W.setCell ⟨tb + 1, 0, none⟩ (.pointer none)).setCell ⟨tb + 1, 1, none⟩ (.slice none 0 0)) := by
  obtain ⟨h0, h1, h2, h3, h4, h5⟩ := h
  obtain ⟨_, q, u, hq⟩ := builderAt_block h5
  have hset : ∀ (k : Nat) (o : Obj), k ≠ tb + 1 → W.heap[k]? = some o → ((W.setCell ⟨tb + 1, 0, none⟩ (.pointer none)).setCell ⟨tb + 1, 1, none⟩ (.slice none 0 0)).heap[k]? = some o := fun k o hne hko => by
    rw [Below.heap_setCell _ _ _ _ hne, Below.heap_setCell _ _ _ _ hne]; exact hko
  refine ⟨⟨h0, hset _ _ (by omega) h1, hset _ _ (by omega) h2, hset _ _ (by omega) h3, row_move h4 ?_, .inl ⟨by omega, .slice none 0 0, set2_block hq _ _, World.ownsRowF_nil _ _ _ _, by simp [Value.ownBlock]⟩⟩, ?_⟩
  · intro k c fz hc
    refine hset _ _ ?_ hc
    intro e
    subst e
    rw [hq] at hc
    cases hc
  · exact ((Below.refl _ _).setCell (by show n ≤ tb + 1; omega) _).setCell (by show n ≤ tb + 1; omega) _
end Go.Proofs.Qxb6613649aDoor
