/- THE ROW OF LawS194121CWhole. -/
import Derived.Test.YbulkexpfsRows
import Derived.Test.YbulkexpfsLaw
import Derived.ProofKit
import Derived.OpenShut
import Derived.ShutString
import Derived.ChangeOld
import Derived.Deep.Slices
namespace Go.Proofs.Ybulkexpfs
open Go.ChangeShapes Go.WideShapes Go.ChangeAt Go.RowKit
set_option linter.unusedVariables false

theorem own : ownKnob Yba.prog.godebug = none := by kernel_rfl
theorem laidOut : laidOutB Yba.prog = true := by kernel_rfl
theorem cells23 : Yba.prog.cellsOf 23 = 1 := by kernel_rfl

theorem trod_float {H : Type} {enc : TypeId × Value → H} {P : Program} {w : World} {base : Nat} {spare : Nat → Bool} {held : Bool} {t : TypeId} {k : FloatKind} {fuel : Nat} {cs : List Value} {x : DataW H × List MemPlace}
    (ht : P.underlying t = some (.float k)) (h : DataW.trod enc P w base spare held fuel t cs = some x) : ∃ b, cs = [.float k b] := by
  cases fuel with
  | zero => simp [DataW.trod] at h
  | succ n =>
    simp only [DataW.trod, ht] at h
    split at h <;> first | (simp at h; done) | skip
    all_goals simp_all

/-- WHAT THE WALK IS TOLD OF THE SLICE. -/
def IsRowF (w : World) (a : Option Addr) (len : Nat) (zs : List Nat) : Prop :=
  (a = none ∧ len = 0) ∨ ∃ x : Addr, a = some x ∧ zs.length = len ∧ ∀ i, i < len → w.cell? (x.add i) = some (.float .f64 (zs[i]?.getD 0))

theorem cell_lt {w : World} {b o : Nat} {s : Option Nat} {v : Value} (h : w.cell? ⟨b, o, none⟩ = some v) : b < w.heap.size := by
  rcases Nat.lt_or_ge b w.heap.size with h' | h'
  · exact h'
  · simp [World.cell?, Array.getElem?_eq_none h'] at h

theorem walk (a0 : Option Addr) (len0 cap0 : Nat) (z0 : List Nat) (w : World) (w0 : IsRowF w a0 len0 z0) :
    Calls Yba.prog 3 #[.slice a0 len0 cap0] w fun e w' => e = .returned (.bool true) ∧ Below w.heap.size w w' := by
  by_cases h0 : len0 = 0
  · subst h0; exact law_zero _ _ _
  by_cases h1 : 4096 < len0
  · exact law_many _ _ _ h1 _
  rcases w0 with ⟨rfl, rfl⟩ | ⟨x, rfl, hl, hcell⟩
  · exact absurd rfl h0
  · obtain ⟨b, off, spot⟩ := x
    have hc := hcell 0 (by omega)
    have hspot : spot = none := by simpa [Addr.add] using World.cell?_spot hc
    subst hspot
    have hI : ∀ j, j < z0.length → w.cell? ⟨b, off + j, none⟩ = some (.float .f64 (z0[j]?.getD 0)) := fun j hj => by
      have := hcell j (by omega)
      have e2 : Addr.add ⟨b, off, none⟩ j = ⟨b, off + j, none⟩ := by unfold Addr.add; split <;> simp_all
      rwa [e2] at this
    subst hl
    exact law_any b off cap0 z0 (by omega) (by omega) w (cell_lt (s := none) (hI 0 (by omega))) hI

set_option maxRecDepth 100000 in
theorem lifted (os : Os) (started : os.Started) (H : Type) (enc : TypeId × Value → H) :
    ReturnsInHanded {} Yba.checked os 3 .any (Rows.lawS194121CWholeSpec.pre6 enc Yba.prog Yba.f3 Rows.lawS194121CWholeRow.domain false) (Rows.lawS194121CWholeSpec.post enc Yba.prog Yba.f3 false true false false) := by
  refine returnsInHanded_of_change (C := Yba.checked) own started (by kernel_rfl) Yba.func3
    (ChangeSpec.witness6 (enc := enc) (C := Yba.checked) false ⟨#[], #[.slice none 0 0], []⟩ 8 (by kernel_rfl) (by kernel_rfl) (by kernel_rfl) (by kernel_rfl)) ?_
  intro W base args ds gs before hval0 hW hcnd _
  have hval : ∀ (j : Nat) t v, Yba.f3.params[j]? = some t → args[j]? = some v → Value.okWide Yba.prog W .any base t v := hval0
  have hW' := hW
  obtain ⟨p, q, hA0, hV, rfl, hfz, hnd⟩ := hW
  have hA : DataW.TrodAll enc Yba.prog W 0 (fun _ => true) true Yba.f3.params.toList args.toList ds p := hA0
  rw [Yba.params3] at hA hval
  obtain ⟨v0, vs0, d0, ds0, p0, q0, hargs, rfl, rfl, h0, r0⟩ := trodAll_cons hA
  obtain ⟨rfl, rfl, rfl⟩ := trodAll_nil r0
  obtain rfl : args = #[v0] := by cases args; simp_all
  obtain ⟨rfl, rfl⟩ := trodVars_none hV
  obtain ⟨a0, len0, cap0, rfl⟩ := okWide_slice Yba.underlying22 (hval 0 22 v0 rfl rfl)
  have k0 := h0
  have lt0 : ∀ x ∈ p0, x.block < W.heap.size := by obtain ⟨m, hm⟩ := k0; exact DataW.trod_lt m _ _ _ hm
  obtain ⟨z0, w0⟩ : ∃ zs, IsRowF W a0 len0 zs := by
    obtain ⟨fuel, hf⟩ := h0
    rcases Go.Deep.open_slice Yba.underlying22 hf with ⟨hcs, _⟩ | ⟨x, l, c, m, n, D, Pl, hcs, _, hl, hm, hmm, _, hel⟩
    · simp [Value.cells] at hcs
      obtain ⟨rfl, rfl, rfl⟩ := hcs
      exact ⟨[], .inl ⟨rfl, rfl⟩⟩
    · simp [Value.cells] at hcs
      obtain ⟨rfl, rfl, rfl⟩ := hcs
      have hlm : len0 ≤ m := by simp at hmm; omega
      have each : ∀ i, i < len0 → ∃ b : Nat, W.cell? (x.add i) = some (.float .f64 b) := fun i hi => by
        obtain ⟨cs', hc', ht'⟩ := hel i (by omega)
        obtain ⟨b, rfl⟩ := trod_float Yba.underlying23 ht'
        rw [cells23, Nat.mul_one] at hc'
        exact ⟨b, cell_of_cells?_one hc'⟩
      obtain ⟨f, hf'⟩ := Go.Deep.choose_lt each
      exact ⟨(List.range len0).map f, .inr ⟨x, rfl, by simp, fun i hi => by rw [hf' i hi]; simp [hi]⟩⟩
  clear hA0 hval0
  refine (walk a0 len0 cap0 z0 W w0).mono fun e W' ⟨he, bel⟩ => ?_
  subst he
  exact ⟨_, rfl, _, _, _, [], _, [], hW', trodAll_mk1 (shut_bool Yba.underlying4 _), (trodAll_cons_mk (Below.trod laidOut (by kernel_rfl) (of_decide_eq_true (by kernel_rfl)) k0 bel lt0) trodAll_mk0), rfl, bel.frame _, fun h => by cases h⟩

theorem over : Rows.lawS194121CWholeRow.holds Yba.pinned (OpenSpec.ofChange Rows.lawS194121CWholeSpec) :=
  OpenClaim.holds_of_wide 3 Yba.f3 rfl rfl rfl rfl rfl rfl rfl ⟨rfl, rfl, rfl, rfl, rfl⟩ rfl rfl rfl rfl rfl (by kernel_rfl) Yba.func3 (by kernel_rfl)
    (of_decide_eq_true (by kernel_rfl)) (by unfold Func.isWrapper; first | (rw [if_pos (by decide +kernel)]; kernel_rfl) | (rw [if_neg (by decide +kernel)]; exact ⟨rfl, rfl⟩))
    (fun os started H enc _ => lifted os started H enc)

/-- THE STATEMENT. -/
theorem proved : Rows.LawS194121CWholeSaid := over
end Go.Proofs.Ybulkexpfs
