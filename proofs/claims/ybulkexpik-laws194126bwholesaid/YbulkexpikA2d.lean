/- LawS194126B: what the comparisons at the end read. -/
import Derived.Test.YbulkexpikA2c
import Derived.LaidEql
import Derived.WalkSmall
namespace Go.Proofs.Ybulkexpik
open Go.RowKit

theorem ptr28 : (Yba.prog.info? 28).map (fun i => i.comparable) = some true := by kernel_rfl
theorem ptr33 : (Yba.prog.info? 33).isSome = true := by kernel_rfl
/-- A pointer in an interface is itself. -/
theorem run_neq_ifc (a : Addr) (w : World) : (binOp .neq 38 (.iface 28 (.pointer (some a))) (.iface 28 (.pointer (some a)))).run Yba.prog w = .ok (.bool false) w := by
  obtain ⟨i, hi, hc⟩ : ∃ i, Yba.prog.info? 28 = some i ∧ i.comparable = true := by
    have h := ptr28
    cases e : Yba.prog.info? 28 with
    | none => rw [e] at h; cases h
    | some i => rw [e] at h; exact ⟨i, rfl, by simpa using h⟩
  obtain ⟨j, hj⟩ := Option.isSome_iff_exists.1 ptr33
  simp only [binOp]
  simp [Op.equal, Op.maxDepth, run_equalIn_iface_ptr_same w 9998 a Yba.underlying38 Yba.underlying28 hi hc hj]

theorem MD.cho {D : Dat} {gse B : Nat} {s : St} {W : World} {vO vC : Value} (h : MD D gse B s W vO vC) (c : Bool) : MD D gse B ⟨s.seen, c, s.on, s.ch⟩ W vO vC := ⟨h.seen, h.rO, h.rC, h.ne, h.nO, h.nC, h.sO, h.sC⟩
theorem NW.kt {D : Dat} {gp gw B : Nat} {vs : Value} {noted : Bool} {s : St} {W W' : World} {vL vH : Value} {ts : List TypeId} (h : NW D gp gw B vs noted s W vL vH) (hk : Kt ts W W') (h3 : 33 ∉ ts) (h8 : 38 ∉ ts) (h2 : 62 ∉ ts) : NW D gp gw B vs noted s W' vL vH := by
  obtain ⟨cur, hc, hr⟩ := h.wrt
  exact ⟨fun k hk' => hk _ _ _ _ h3 (h.pcs k hk'), ⟨cur, hk _ _ _ _ h2 hc, hr⟩, hk.row h.rL h8, hk.row h.rH h8, h.ne, h.sL, h.sH⟩

theorem row_get {W : World} {B e g c n j : Nat} {xs : List Value} {u : Value} (h : W.ownsRow B e 1 (.slice (some ⟨g, 0, none⟩) n c) n xs) (hu : xs[j]? = some u) : W.cell? ⟨g, j, none⟩ = some u := by
  rcases h.2 with ⟨h', _⟩ | ⟨g', cap, cur, h', h2, h3, h4, h5, h6, h7⟩
  · cases h'
  · cases h'
    rw [cell_at h3, ← Array.getElem?_toList]
    rw [← h7, List.getElem?_take] at hu
    split at hu
    · exact hu
    · cases hu

theorem ints_at {l : List Nat} {j : Nat} (h : j < l.length) : (ints l)[j]? = some (.int .i64 ((l[j] : Nat) : Int)) := by simp [ints, h]
theorem ifcs_at {gp : Nat} {l : List Nat} {j : Nat} (h : j < l.length) : (ifcs gp l)[j]? = some (ifc gp l[j]) := by simp [ifcs, h]

/-- Every row of the model names a piece. -/
def Lt (D : Dat) (s : St) : Prop := (∀ k ∈ s.on, k < D.n) ∧ ∀ k ∈ s.ch, k < D.n
theorem addIf_lt {b : Bool} {l : List Nat} {k n : Nat} (h : ∀ j ∈ l, j < n) (hk : k < n) : ∀ j ∈ addIf b l k, j < n := fun j hj => by
  unfold addIf at hj
  split at hj
  · rcases List.mem_append.1 hj with h' | h'
    · exact h j h'
    · rw [List.mem_singleton.1 h']; exact hk
  · exact h j hj
theorem run_lt {D : Dat} : ∀ (m : Nat) (s : St), (∀ i, i < m → D.Fp i < D.n) → Lt D s → Lt D (run D m s)
  | 0, _, _, h => h
  | i + 1, s, hF, h => by
    by_cases e : s.seen (D.Fp i) = D.stamp
    · rw [run_stop e]; exact h
    · rw [run_step e]
      exact run_lt i _ (fun j hj => hF j (by omega)) ⟨addIf_lt h.1 (hF i (by omega)), addIf_lt h.2 (hF i (by omega))⟩
theorem run_len {D : Dat} : ∀ (m : Nat) (s : St), (run D m s).on.length ≤ s.on.length + m ∧ (run D m s).ch.length ≤ s.ch.length + m
  | 0, _ => ⟨Nat.le_refl _, Nat.le_refl _⟩
  | i + 1, s => by
    by_cases e : s.seen (D.Fp i) = D.stamp
    · rw [run_stop e]; omega
    · rw [run_step e]
      have h := run_len (D := D) i (step D i s)
      have l1 : (step D i s).on.length ≤ s.on.length + 1 := addIf_len _ _ _
      have l2 : (step D i s).ch.length ≤ s.ch.length + 1 := addIf_len _ _ _
      omega
theorem kOf_lt {f : Nat → Nat} {n : Nat} (h : ∀ i, f i < n) (j : Nat) : ∀ k ∈ kOf f j, k < n := fun k hk => by
  obtain ⟨i, _, rfl⟩ := List.mem_map.1 hk
  exact h i

/-- The same memory. -/
def Sm (W W' : World) : Prop := (∀ a, W'.cell? a = W.cell? a) ∧ Below W.heap.size W W'
theorem Sm.refl (W : World) : Sm W W := ⟨fun _ => rfl, Below.refl _ _⟩
theorem Sm.drewN {W W' : World} (h : Sm W W') (n : Nat) : Sm W (W'.drewN n) := ⟨h.1, below_drewN h.2 n⟩
theorem Sm.drew {W W' : World} (h : Sm W W') : Sm W W'.drew := ⟨h.1, h.2.drew⟩
end Go.Proofs.Ybulkexpik
