/- LawS194126B: appends onto the call's own rows; the model's side in memory. -/
import Derived.Test.YbulkexpikA2b
namespace Go.Proofs.Ybulkexpik
open Go.RowKit

theorem cell_at {W : World} {b : Nat} {c : Array Value} {t : TypeId} {fz : Nat × Nat} (h : W.heap[b]? = some (.cells c t fz)) (i : Nat) : W.cell? ⟨b, i, none⟩ = c[i]? := by simp [World.cell?, h]

theorem size_set (W : World) (a : Addr) (v : Value) : (W.setCell a v).heap.size = W.heap.size := by show (W.heap.modify _ _).size = _; simp
theorem size_alloc (W : World) (o : Obj) : (W.alloc o).heap.size = W.heap.size + 1 := Array.size_push _
theorem heap_new (W : World) (o : Obj) : (W.alloc o).heap[W.heap.size]? = some o := by show (W.heap.push o)[W.heap.size]? = _; simp
def ints (l : List Nat) : List Value := l.map fun (k : Nat) => Value.int .i64 (k : Int)
def kOf (f : Nat → Nat) (j : Nat) : List Nat := (List.range j).map f
theorem kOf_len (f : Nat → Nat) (j : Nat) : (kOf f j).length = j := by simp [kOf]
theorem ints_succ (f : Nat → Nat) (j : Nat) : ints (kOf f (j + 1)) = ints (kOf f j) ++ [.int .i64 ((f j : Nat) : Int)] := by simp [ints, kOf, List.range_succ]
theorem ifcs_succ (gp : Nat) (f : Nat → Nat) (j : Nat) : ifcs gp (kOf f (j + 1)) = ifcs gp (kOf f j) ++ [ifc gp (f j)] := by simp [ifcs, kOf, List.range_succ]

/-- What an append onto one of the call's own rows leaves. -/
theorem app_fx {wr w1 : World} {B e n : Nat} {x v v' : Value} {xs : List Value} (hr : wr.ownsRow B e 1 v n xs) (hg : (wr.alloc (.cells #[x] e)).grownBy w1 v.ownBlock) (hat : v'.ownBlock = v.ownBlock ∨ v'.ownBlock = some (wr.alloc (.cells #[x] e)).heap.size) (hB : B ≤ wr.heap.size) (hs : v.ownBlock ≠ none) :
    Kt [e] wr w1 ∧ Below B wr w1 ∧ v'.ownBlock ≠ none ∧ ∀ q o, wr.heap[q]? = some o → some q ≠ v.ownBlock → w1.heap[q]? = some o ∧ some q ≠ v'.ownBlock := by
  have hsz : (wr.alloc (.cells #[x] e)).heap.size = wr.heap.size + 1 := Array.size_push _
  refine ⟨Kt.grown ((Kt.refl _ _).alloc _) (row_alloc hr _) (by simp) hg, ((Below.refl B wr).alloc hB _).grown hg (by omega) (fun k hk => ?_), ?_, fun q o hq hne => ⟨?_, ?_⟩⟩
  · rcases hr.2 with ⟨e', _⟩ | ⟨g', cap', cur', e', hBg, _⟩
    · rw [e'] at hk; cases hk
    · rw [e'] at hk; cases hk; exact hBg
  · rcases hat with e' | e'
    · rw [e']; exact hs
    · rw [e']; intro h; cases h
  · have hql := lt_of_block hq
    rw [hg.block q (by omega) hne, Below.heap_alloc _ _ _ hql]
    exact hq
  · rcases hat with e' | e'
    · rw [e']; exact hne
    · rw [e', hsz]
      intro h
      cases h
      exact absurd (lt_of_block hq) (by omega)
theorem row_blk {wr w1 : World} {B e n : Nat} {v u u' : Value} {xs : List Value} (hr : wr.ownsRow B e 1 v n xs) (hs : v.ownBlock ≠ none) (hne : v.ownBlock ≠ u.ownBlock) (hk : ∀ q o, wr.heap[q]? = some o → some q ≠ u.ownBlock → w1.heap[q]? = some o ∧ some q ≠ u'.ownBlock) : w1.ownsRow B e 1 v n xs ∧ v.ownBlock ≠ u'.ownBlock := by
  rcases hr.2 with ⟨rfl, _⟩ | ⟨g, cap, cur, rfl, h2, h3, h4⟩
  · exact absurd rfl hs
  · obtain ⟨k1, k2⟩ := hk g _ h3 hne
    exact ⟨⟨hr.1, .inr ⟨g, cap, cur, rfl, h2, k1, h4⟩⟩, k2⟩

theorem row_at {W W' : World} {B e n g c : Nat} {xs : List Value} (hr : W.ownsRow B e 1 (.slice (some ⟨g, 0, none⟩) n c) n xs) (h : W'.heap[g]? = W.heap[g]?) : W'.ownsRow B e 1 (.slice (some ⟨g, 0, none⟩) n c) n xs := by
  refine ⟨hr.1, ?_⟩
  rcases hr.2 with ⟨h', _⟩ | ⟨g', cap, cur, h', h2, h3, h4⟩
  · cases h'
  · cases h'
    exact .inr ⟨g, c, cur, rfl, h2, h.trans h3, h4⟩
theorem row_len {W : World} {B e n k : Nat} {v : Value} {xs : List Value} (h : W.ownsRow B e 1 v n xs) (hk : k = n) : W.ownsRow B e 1 v k xs := by rw [hk]; exact h

/-- The model's side in memory: the stamps' row, the two expected rows. -/
structure MD (D : Dat) (gse B : Nat) (s : St) (W : World) (vO vC : Value) : Prop where
  seen : ∃ cur, W.heap[gse]? = some (.cells cur 3 (0, 0)) ∧ cur.size = D.n ∧ ∀ j, j < D.n → cur[j]? = some (.int .i64 (s.seen j))
  rO : W.ownsRow B 3 1 vO s.on.length (ints s.on)
  rC : W.ownsRow B 3 1 vC s.ch.length (ints s.ch)
  ne : vO.ownBlock ≠ vC.ownBlock
  nO : some gse ≠ vO.ownBlock
  nC : some gse ≠ vC.ownBlock
  sO : vO.ownBlock ≠ none
  sC : vC.ownBlock ≠ none
theorem row_set_ne {W : World} {base e n b i : Nat} {v u : Value} {xs : List Value} (hr : W.ownsRow base e 1 v n xs) (hne : some b ≠ v.ownBlock) : (W.setCell ⟨b, i, none⟩ u).ownsRow base e 1 v n xs := by
  refine ⟨hr.1, ?_⟩
  rcases hr.2 with h' | ⟨g, cap, cur, rfl, h2, h3, h4⟩
  · exact .inl h'
  · refine .inr ⟨g, cap, cur, rfl, h2, (Below.heap_setCell W _ u g (fun e' => ?_)).trans h3, h4⟩
    simp only at e'
    exact hne (by rw [← e']; rfl)
theorem MD.set {D : Dat} {gse B k : Nat} {s : St} {W : World} {vO vC : Value} (h : MD D gse B s W vO vC) (hk : k < D.n) (x : Int) : MD D gse B ⟨put s.seen k x, s.chosen, s.on, s.ch⟩ (W.setCell ⟨gse, k, none⟩ (.int .i64 x)) vO vC := by
  obtain ⟨cur, hc, hz, hr⟩ := h.seen
  refine ⟨⟨_, heap_set_same hc, by simp [hz], fun j hj => ?_⟩, row_set_ne h.rO h.nO, row_set_ne h.rC h.nC, h.ne, h.nO, h.nC, h.sO, h.sC⟩
  by_cases e : j = k
  · subst e
    rw [set_get (by omega)]
    show _ = some (Value.int .i64 (put s.seen j x j))
    rw [put_same]
  · rw [set_other (fun e' => e e'.symm)]
    show _ = some (Value.int .i64 (put s.seen k x j))
    rw [put_other e]
    exact hr j hj
theorem MD.pushO {D : Dat} {gse B k : Nat} {s : St} {W w1 : World} {vO vC v' : Value} (h : MD D gse B s W vO vC) (ho : w1.ownsRow B 3 1 v' (s.on.length + 1) (ints s.on ++ [.int .i64 (k : Int)])) (hs : v'.ownBlock ≠ none) (hq : ∀ q o, W.heap[q]? = some o → some q ≠ vO.ownBlock → w1.heap[q]? = some o ∧ some q ≠ v'.ownBlock) : MD D gse B ⟨s.seen, s.chosen, s.on ++ [k], s.ch⟩ w1 v' vC := by
  obtain ⟨cur, hc, hr⟩ := h.seen
  obtain ⟨k1, k2⟩ := hq gse _ hc h.nO
  obtain ⟨c1, c2⟩ := row_blk h.rC h.sC (fun e => h.ne e.symm) hq
  exact ⟨⟨cur, k1, hr⟩, by simpa [ints] using ho, c1, fun e => c2 e.symm, k2, h.nC, hs, h.sC⟩
theorem MD.pushC {D : Dat} {gse B k : Nat} {s : St} {W w1 : World} {vO vC v' : Value} (h : MD D gse B s W vO vC) (ho : w1.ownsRow B 3 1 v' (s.ch.length + 1) (ints s.ch ++ [.int .i64 (k : Int)])) (hs : v'.ownBlock ≠ none) (hq : ∀ q o, W.heap[q]? = some o → some q ≠ vC.ownBlock → w1.heap[q]? = some o ∧ some q ≠ v'.ownBlock) : MD D gse B ⟨s.seen, s.chosen, s.on, s.ch ++ [k]⟩ w1 vO v' := by
  obtain ⟨cur, hc, hr⟩ := h.seen
  obtain ⟨k1, k2⟩ := hq gse _ hc h.nC
  obtain ⟨c1, c2⟩ := row_blk h.rO h.sO h.ne hq
  exact ⟨⟨cur, k1, hr⟩, c1, by simpa [ints] using ho, c2, h.nO, k2, h.sO, hs⟩
theorem MD.kt {D : Dat} {gse B : Nat} {s : St} {W W' : World} {vO vC : Value} {ts : List TypeId} (h : MD D gse B s W vO vC) (hk : Kt ts W W') (ht : 3 ∉ ts) : MD D gse B s W' vO vC := by
  obtain ⟨cur, hc, hr⟩ := h.seen
  exact ⟨⟨cur, hk _ _ _ _ ht hc, hr⟩, hk.row h.rO ht, hk.row h.rC ht, h.ne, h.nO, h.nC, h.sO, h.sC⟩
theorem MD.get {D : Dat} {gse B j : Nat} {s : St} {W : World} {vO vC : Value} (h : MD D gse B s W vO vC) (hj : j < D.n) : W.cell? ⟨gse, j, none⟩ = some (.int .i64 (s.seen j)) ∧ W.frozen? ⟨gse, j, none⟩ = false := by
  obtain ⟨cur, hc, _, hr⟩ := h.seen
  exact ⟨(cell_at hc j).trans (hr j hj), by simp [World.frozen?, hc]⟩
end Go.Proofs.Ybulkexpik
