/- THE ROW OF LawS194126BWhole. -/
import Derived.Test.YbulkexpikRows
import Derived.Test.YbulkexpikA3
import Derived.ProofKit
import Derived.OpenShut
import Derived.ShutString
import Derived.ChangeOld
import Derived.Deep.Slices
import Derived.Deep.Strs
namespace Go.Proofs.Ybulkexpik
open Go.ChangeShapes Go.WideShapes Go.ChangeAt Go.RowKit
set_option linter.unusedVariables false

theorem own : ownKnob Yba.prog.godebug = none := by kernel_rfl
theorem laidOut : laidOutB Yba.prog = true := by kernel_rfl
theorem cells26 : Yba.prog.cellsOf 26 = 3 := by kernel_rfl
theorem cells36 : Yba.prog.cellsOf 36 = 3 := by kernel_rfl
theorem cells3 : Yba.prog.cellsOf 3 = 1 := by kernel_rfl
theorem cells4 : Yba.prog.cellsOf 4 = 1 := by kernel_rfl
theorem cells5 : Yba.prog.cellsOf 5 = 1 := by kernel_rfl

theorem cell_lt {w : World} {b o : Nat} {v : Value} (h : w.cell? ⟨b, o, none⟩ = some v) : b < w.heap.size := by
  rcases Nat.lt_or_ge b w.heap.size with h' | h'
  · exact h'
  · simp [World.cell?, Array.getElem?_eq_none h'] at h
theorem wf_u8 {z : Int} (h : (Lit.int .u8 z).wf = true) : 0 ≤ z ∧ z ≤ 255 := by
  have e1 : IntKind.u8.min = 0 := by decide
  have e2 : IntKind.u8.max = 255 := by decide
  simpa [Lit.wf, e1, e2] using h
theorem add_none (b o i : Nat) : Addr.add ⟨b, o, none⟩ i = ⟨b, o + i, none⟩ := by unfold Addr.add; split <;> simp_all

/-- A slice whose elements are of three cells. -/
theorem open_three {H : Type} {enc : TypeId × Value → H} {W : World} {sp : Nat → Bool} {t e : TypeId} {a : Option Addr} {len cap : Nat} {d : DataW H} {ps : List MemPlace} (ht : Yba.prog.underlying t = some (.slice e)) (hc : Yba.prog.cellsOf e = 3)
    (h : DataW.Trod enc Yba.prog W 0 sp true t (.slice a len cap) d ps) : ∀ i, i < len → ∃ ab ao v0 v1 v2 n x, a = some ⟨ab, ao, none⟩ ∧ ab < W.heap.size ∧ W.cell? ⟨ab, ao + i * 3, none⟩ = some v0 ∧ W.cell? ⟨ab, ao + i * 3 + 1, none⟩ = some v1 ∧ W.cell? ⟨ab, ao + i * 3 + 2, none⟩ = some v2 ∧ DataW.trod enc Yba.prog W 0 sp true n e [v0, v1, v2] = some x := fun i hi => by
  obtain ⟨fuel, hf⟩ := h
  rcases Go.Deep.open_slice ht hf with ⟨hcs, _⟩ | ⟨x, l, c, m, n, D, Pl, hcs, _, hl, hm, hmm, _, hel⟩
  · simp [Value.cells] at hcs
    omega
  · simp [Value.cells] at hcs
    obtain ⟨rfl, rfl, rfl⟩ := hcs
    have hlm : len ≤ m := by rw [hmm]; split <;> omega
    obtain ⟨cs', hc', ht'⟩ := hel i (by omega)
    rw [hc] at hc'
    obtain ⟨_, hlen, hcell⟩ := World.cells?_some hc'
    match cs', hlen with
    | [v0, v1, v2], _ =>
      obtain ⟨b, off, spot⟩ := x
      have q0 := hcell 0 (by omega)
      have q1 := hcell 1 (by omega)
      have q2 := hcell 2 (by omega)
      have hspot : spot = none := by
        obtain ⟨cs0, hc0, _⟩ := hel 0 (by omega)
        rw [hc] at hc0
        obtain ⟨_, hlen0, hcell0⟩ := World.cells?_some hc0
        have q := hcell0 0 (by omega)
        rw [List.getElem?_eq_getElem (by omega)] at q
        simpa [Addr.add] using World.cell?_spot q
      subst hspot
      rw [add_none, add_none] at q0 q1 q2
      exact ⟨b, off, v0, v1, v2, n, _, rfl, cell_lt q0, q0, q1, q2, ht'⟩
theorem open_u8s {H : Type} {enc : TypeId × Value → H} {W : World} {sp : Nat → Bool} {a : Option Addr} {len cap : Nat} {d : DataW H} {ps : List MemPlace} (h : DataW.Trod enc Yba.prog W 0 sp true 24 (.slice a len cap) d ps) :
    ∃ Z : Nat → Int, Byt len a W.heap.size Z W ∧ ∀ i, 0 ≤ Z i ∧ Z i ≤ 255 := by
  have each : ∀ i, i < len → ∃ z : Int, (0 ≤ z ∧ z ≤ 255) ∧ ∃ ab ao, a = some ⟨ab, ao, none⟩ ∧ ab < W.heap.size ∧ W.cell? ⟨ab, ao + i, none⟩ = some (.int .u8 z) := fun i hi => by
    obtain ⟨fuel, hf⟩ := h
    rcases Go.Deep.open_slice1 Yba.underlying24 cells5 hf with ⟨hcs, _⟩ | ⟨x, l, c, m, n, V, D, Pl, hcs, _, hl, hm, hmm, _, hel⟩
    · simp [Value.cells] at hcs
      omega
    · simp [Value.cells] at hcs
      obtain ⟨rfl, rfl, rfl⟩ := hcs
      have hlm : len ≤ m := by rw [hmm]; split <;> omega
      obtain ⟨q, ht'⟩ := hel i (by omega)
      have q0 := (hel 0 (by omega)).1
      obtain ⟨z, e, _, hw⟩ := DataW.trod_int Yba.underlying5 ht'
      obtain ⟨b, off, spot⟩ := x
      have hspot : spot = none := by simpa [Addr.add] using World.cell?_spot q0
      subst hspot
      rw [List.singleton_inj.1 e, add_none] at q
      exact ⟨z, wf_u8 hw, b, off, rfl, cell_lt q, q⟩
  obtain ⟨f, hf⟩ := Go.Deep.choose_lt each
  refine ⟨fun i => if i < len then f i else 0, fun i hi => ?_, fun i => ?_⟩
  · simp only [if_pos hi]; exact (hf i hi).2
  · by_cases hi : i < len
    · simp only [if_pos hi]; exact (hf i hi).1
    · simp only [if_neg hi]; omega
theorem open_pieces {H : Type} {enc : TypeId × Value → H} {W : World} {sp : Nat → Bool} {a : Option Addr} {len cap : Nat} {d : DataW H} {ps : List MemPlace} (h : DataW.Trod enc Yba.prog W 0 sp true 22 (.slice a len cap) d ps) :
    ∃ (S N : Nat → Int) (B : Nat → Bool), ∀ k, k < len → ∃ ab ao, a = some ⟨ab, ao, none⟩ ∧ ab < W.heap.size ∧ W.cell? ⟨ab, ao + k * 3, none⟩ = some (.int .i64 (S k)) ∧ W.cell? ⟨ab, ao + k * 3 + 1, none⟩ = some (.int .i64 (N k)) ∧ W.cell? ⟨ab, ao + k * 3 + 2, none⟩ = some (.bool (B k)) := by
  have each : ∀ k, k < len → ∃ t : Int × Int × Bool, ∃ ab ao, a = some ⟨ab, ao, none⟩ ∧ ab < W.heap.size ∧ W.cell? ⟨ab, ao + k * 3, none⟩ = some (.int .i64 t.1) ∧ W.cell? ⟨ab, ao + k * 3 + 1, none⟩ = some (.int .i64 t.2.1) ∧ W.cell? ⟨ab, ao + k * 3 + 2, none⟩ = some (.bool t.2.2) := fun k hk => by
    obtain ⟨ab, ao, v0, v1, v2, n, x, ha, hl, q0, q1, q2, hy⟩ := open_three Yba.underlying22 cells26 h k hk
    obtain ⟨y0, y1, y2, n', _, _, t0, t1, t2⟩ := Go.Deep.trod_struct3 Yba.underlying26 hy
    simp only [cells3, cells4, List.drop, List.take] at t0 t1 t2
    obtain ⟨z0, e0, _, _⟩ := DataW.trod_int Yba.underlying3 t0
    obtain ⟨z1, e1, _, _⟩ := DataW.trod_int Yba.underlying3 t1
    obtain ⟨z2, e2, _⟩ := DataW.trod_bool Yba.underlying4 t2
    cases e0; cases e1; cases e2
    exact ⟨(z0, z1, z2), ab, ao, ha, hl, q0, q1, q2⟩
  obtain ⟨f, hf⟩ := Go.Deep.choose_lt each
  exact ⟨fun k => (f k).1, fun k => (f k).2.1, fun k => (f k).2.2, hf⟩
theorem open_frames {H : Type} {enc : TypeId × Value → H} {W : World} {sp : Nat → Bool} {a : Option Addr} {len cap : Nat} {d : DataW H} {ps : List MemPlace} (h : DataW.Trod enc Yba.prog W 0 sp true 23 (.slice a len cap) d ps) :
    ∃ (Z : Nat → Int) (Fz Fs : Nat → Bool), Frm len a W.heap.size Z Fz Fs W ∧ ∀ i, 0 ≤ Z i ∧ Z i ≤ 255 := by
  have each : ∀ k, k < len → ∃ t : Int × Bool × Bool, (0 ≤ t.1 ∧ t.1 ≤ 255) ∧ ∃ ab ao, a = some ⟨ab, ao, none⟩ ∧ ab < W.heap.size ∧ W.cell? ⟨ab, ao + k * 3, none⟩ = some (.int .u8 t.1) ∧ W.cell? ⟨ab, ao + k * 3 + 1, none⟩ = some (.bool t.2.1) ∧ W.cell? ⟨ab, ao + k * 3 + 2, none⟩ = some (.bool t.2.2) := fun k hk => by
    obtain ⟨ab, ao, v0, v1, v2, n, x, ha, hl, q0, q1, q2, hy⟩ := open_three Yba.underlying23 cells36 h k hk
    obtain ⟨y0, y1, y2, n', _, _, t0, t1, t2⟩ := Go.Deep.trod_struct3 Yba.underlying36 hy
    simp only [cells5, cells4, List.drop, List.take] at t0 t1 t2
    obtain ⟨z0, e0, _, hw⟩ := DataW.trod_int Yba.underlying5 t0
    obtain ⟨z1, e1, _⟩ := DataW.trod_bool Yba.underlying4 t1
    obtain ⟨z2, e2, _⟩ := DataW.trod_bool Yba.underlying4 t2
    cases e0; cases e1; cases e2
    exact ⟨(z0, z1, z2), wf_u8 hw, ab, ao, ha, hl, q0, q1, q2⟩
  obtain ⟨f, hf⟩ := Go.Deep.choose_lt each
  refine ⟨fun i => if i < len then (f i).1 else 0, fun k => (f k).2.1, fun k => (f k).2.2, fun i hi => ?_, fun i => ?_⟩
  · simp only [if_pos hi]; exact (hf i hi).2
  · by_cases hi : i < len
    · simp only [if_pos hi]; exact (hf i hi).1
    · simp only [if_neg hi]; omega

set_option maxRecDepth 100000 in
theorem lifted (os : Os) (started : os.Started) (H : Type) (enc : TypeId × Value → H) :
    ReturnsInHanded {} Yba.checked os 3 .any (Rows.lawS194126BWholeSpec.pre6 enc Yba.prog Yba.f3 Rows.lawS194126BWholeRow.domain false) (Rows.lawS194126BWholeSpec.post enc Yba.prog Yba.f3 false true false false) := by
  refine returnsInHanded_of_change (C := Yba.checked) own started (by kernel_rfl) Yba.func3
    (ChangeSpec.witness6 (enc := enc) (C := Yba.checked) false ⟨#[], #[.slice none 0 0, .slice none 0 0, .slice none 0 0, .slice none 0 0, .int .i64 0, .bool false, .bool false, .bool false], []⟩ 8 (by kernel_rfl) (by kernel_rfl) (by kernel_rfl) (by kernel_rfl)) ?_
  intro W base args ds gs before hval0 hW hcnd _
  have hval : ∀ (j : Nat) t v, Yba.f3.params[j]? = some t → args[j]? = some v → Value.okWide Yba.prog W .any base t v := hval0
  have hW' := hW
  obtain ⟨p, q, hA0, hV, rfl, hfz, hnd⟩ := hW
  have hA : DataW.TrodAll enc Yba.prog W 0 (fun _ => true) true Yba.f3.params.toList args.toList ds p := hA0
  rw [Yba.params3] at hA hval
  obtain ⟨v0, vs0, d0, ds0, p0, q0, hargs, rfl, rfl, h0, r0⟩ := trodAll_cons hA
  obtain ⟨v1, vs1, d1, ds1, p1, q1, rfl, rfl, rfl, h1, r1⟩ := trodAll_cons r0
  obtain ⟨v2, vs2, d2, ds2, p2, q2, rfl, rfl, rfl, h2, r2⟩ := trodAll_cons r1
  obtain ⟨v3, vs3, d3, ds3, p3, q3, rfl, rfl, rfl, h3, r3⟩ := trodAll_cons r2
  obtain ⟨v4, vs4, d4, ds4, p4, q4, rfl, rfl, rfl, h4, r4⟩ := trodAll_cons r3
  obtain ⟨v5, vs5, d5, ds5, p5, q5, rfl, rfl, rfl, h5, r5⟩ := trodAll_cons r4
  obtain ⟨v6, vs6, d6, ds6, p6, q6, rfl, rfl, rfl, h6, r6⟩ := trodAll_cons r5
  obtain ⟨v7, vs7, d7, ds7, p7, q7, rfl, rfl, rfl, h7, r7⟩ := trodAll_cons r6
  obtain ⟨rfl, rfl, rfl⟩ := trodAll_nil r7
  obtain rfl : args = #[v0, v1, v2, v3, v4, v5, v6, v7] := by cases args; simp_all
  obtain ⟨rfl, rfl⟩ := trodVars_none hV
  obtain ⟨a0, len0, cap0, rfl⟩ := okWide_slice Yba.underlying22 (hval 0 22 v0 rfl rfl)
  obtain ⟨a1, len1, cap1, rfl⟩ := okWide_slice Yba.underlying23 (hval 1 23 v1 rfl rfl)
  obtain ⟨a2, len2, cap2, rfl⟩ := okWide_slice Yba.underlying24 (hval 2 24 v2 rfl rfl)
  obtain ⟨a3, len3, cap3, rfl⟩ := okWide_slice Yba.underlying24 (hval 3 24 v3 rfl rfl)
  obtain ⟨a4, rfl, rfl, rfl, w4⟩ := open_int Yba.underlying3 (hval 4 3 v4 rfl rfl) h4
  obtain ⟨a5, rfl, rfl, rfl⟩ := open_bool Yba.underlying4 (hval 5 4 v5 rfl rfl) h5
  obtain ⟨a6, rfl, rfl, rfl⟩ := open_bool Yba.underlying4 (hval 6 4 v6 rfl rfl) h6
  obtain ⟨a7, rfl, rfl, rfl⟩ := open_bool Yba.underlying4 (hval 7 4 v7 rfl rfl) h7
  have lt0 : ∀ x ∈ p0, x.block < W.heap.size := by obtain ⟨m, hm⟩ := h0; exact DataW.trod_lt m _ _ _ hm
  have lt1 : ∀ x ∈ p1, x.block < W.heap.size := by obtain ⟨m, hm⟩ := h1; exact DataW.trod_lt m _ _ _ hm
  have lt2 : ∀ x ∈ p2, x.block < W.heap.size := by obtain ⟨m, hm⟩ := h2; exact DataW.trod_lt m _ _ _ hm
  have lt3 : ∀ x ∈ p3, x.block < W.heap.size := by obtain ⟨m, hm⟩ := h3; exact DataW.trod_lt m _ _ _ hm
  obtain ⟨S, N, B, w0⟩ := open_pieces h0
  obtain ⟨Z, Fz, Fs, w1, z1⟩ := open_frames h1
  obtain ⟨ZO, w2, z2⟩ := open_u8s h2
  obtain ⟨ZC, w3, z3⟩ := open_u8s h3
  clear hA0 hval0
  refine (law_any a0 a1 a2 a3 len0 len1 len2 len3 cap0 cap1 cap2 cap3 S N Z ZO ZC B Fz Fs a4 a5 a6 a7 W w0 w1 w2 w3 z1 z2 z3).mono fun e W' ⟨he, bel⟩ => ?_
  subst he
  exact ⟨_, rfl, _, _, _, [], _, [], hW', trodAll_mk1 (shut_bool Yba.underlying4 _),
    (trodAll_cons_mk (Below.trod laidOut (by kernel_rfl) (of_decide_eq_true (by kernel_rfl)) h0 bel lt0)
    (trodAll_cons_mk (Below.trod laidOut (by kernel_rfl) (of_decide_eq_true (by kernel_rfl)) h1 bel lt1)
    (trodAll_cons_mk (Below.trod laidOut (by kernel_rfl) (of_decide_eq_true (by kernel_rfl)) h2 bel lt2)
    (trodAll_cons_mk (Below.trod laidOut (by kernel_rfl) (of_decide_eq_true (by kernel_rfl)) h3 bel lt3)
    (trodAll_cons_mk (shut_int Yba.underlying3 w4)
    (trodAll_cons_mk (shut_bool Yba.underlying4 _)
    (trodAll_cons_mk (shut_bool Yba.underlying4 _)
    (trodAll_cons_mk (shut_bool Yba.underlying4 _) trodAll_mk0)))))))), rfl, bel.frame _, fun h => by cases h⟩

theorem over : Rows.lawS194126BWholeRow.holds Yba.pinned (OpenSpec.ofChange Rows.lawS194126BWholeSpec) :=
  OpenClaim.holds_of_wide 3 Yba.f3 rfl rfl rfl rfl rfl rfl rfl ⟨rfl, rfl, rfl, rfl, rfl⟩ rfl rfl rfl rfl rfl (by kernel_rfl) Yba.func3 (by kernel_rfl)
    (of_decide_eq_true (by kernel_rfl)) (by unfold Func.isWrapper; first | (rw [if_pos (by decide +kernel)]; kernel_rfl) | (rw [if_neg (by decide +kernel)]; exact ⟨rfl, rfl⟩))
    (fun os started H enc _ => lifted os started H enc)

/-- THE STATEMENT. -/
theorem proved : Rows.LawS194126BWholeSaid := over
end Go.Proofs.Ybulkexpik
