/- LawS194123C: what the two closures and the chain keep of the world; the closures' contracts. -/
import Derived.Test.YbulkexpguProg
import Derived.WalkKit
import Derived.WalkSpells
import Derived.WalkLawsBesides
import Derived.RangeFuncBox
import Derived.Deep.QuietTactic
import Derived.BigQuiet
namespace Go.Proofs.Ybulkexpgu
open Go.RowKit

def intOf : Value → Int | .int _ q => q | _ => 0

/-- Every block of cells whose type is none of 3 (int), 29 ([]byte), 5 (byte) lies as it lay. -/
def KT (W W' : World) : Prop := ∀ (q : Nat) (c : Array Value) (T : TypeId), T ≠ 3 → T ≠ 29 → T ≠ 5 → W.heap[q]? = some (.cells c T (0, 0)) → W'.heap[q]? = some (.cells c T (0, 0))

theorem KT.refl (W : World) : KT W W := fun _ _ _ _ _ _ h => h
theorem KT.trans {A B C : World} (h : KT A B) (k : KT B C) : KT A C := fun q c T h1 h2 h3 h4 => k q c T h1 h2 h3 (h q c T h1 h2 h3 h4)
theorem KT.alloc {A W : World} (h : KT A W) (o : Obj) : KT A (W.alloc o) := fun q c T h1 h2 h3 h4 => by
  have := h q c T h1 h2 h3 h4
  rw [Below.heap_alloc W o q (lt_of_block this)]; exact this
theorem KT.drew {A W : World} (h : KT A W) : KT A W.drew := h
theorem KT.drewN {A W : World} (h : KT A W) (n : Nat) : KT A (W.drewN n) := h
theorem KT.setBox {A W : World} (h : KT A W) {b : Nat} {t : TypeId} {v : Value} (hb : Boxed W b t v) (ht : t = 3 ∨ t = 29 ∨ t = 5) (u : Value) : KT A (W.setCell ⟨b, 0, none⟩ u) := fun q c T h1 h2 h3 h4 => by
  have := h q c T h1 h2 h3 h4
  rw [Below.heap_setCell _ _ _ q (fun e => ?_)]
  · exact this
  · simp only at e; subst e
    rw [show W.heap[q]? = _ from hb] at this
    cases this
    rcases ht with h | h | h
    · exact h1 h
    · exact h2 h
    · exact h3 h
theorem KT.grown {A W W' : World} (h : KT A W) {v : Value} {base n : Nat} {xs : List Value} (hr : W.ownsRow base 5 1 v n xs) (hg : W.grownBy W' v.ownBlock) : KT A W' := fun q c T h1 h2 h3 h4 => by
  have := h q c T h1 h2 h3 h4
  rw [hg.block q (lt_of_block this) (fun e => ?_)]
  · exact this
  · rcases hr.2 with ⟨rfl, _⟩ | ⟨g, cap, cur, rfl, _, hgb, _⟩
    · simp [Value.ownBlock] at e
    · obtain rfl : q = g := by simpa [Value.ownBlock] using e
      rw [hgb] at this; cases this; exact h3 rfl

/-- The log's bytes when t calls have been made. -/
def altv (t : Nat) : List Value := (List.range t).map fun i => Value.int .u8 (if i % 2 = 0 then 110 else 111)
theorem altv_succ (t : Nat) : altv (t + 1) = altv t ++ [Value.int .u8 (if t % 2 = 0 then 110 else 111)] := by simp [altv, List.range_succ]
theorem altv_length (t : Nat) : (altv t).length = t := by simp [altv]

abbrev sent (B : Nat) : Value := .iface 142 (.pointer (some ⟨B + 2, 0, none⟩))

/-- The law's own variables when t calls, j of 'next' and k of 'op', have been made. -/
structure CInv (a : Option Addr) (len cap : Nat) (failAt : Int) (w W : World) (t j k : Nat) : Prop where
  bel : Below w.heap.size w W
  bO : Boxed W w.heap.size 49 (.slice a len cap)
  bF : Boxed W (w.heap.size + 1) 3 (.int .i64 failAt)
  bS : Boxed W (w.heap.size + 3) 51 (sent w.heap.size)
  log : ∃ v, Boxed W (w.heap.size + 4) 29 v ∧ W.ownsRow w.heap.size 5 1 v t (altv t)
  bJ : Boxed W (w.heap.size + 5) 3 (.int .i64 j)
  bK : Boxed W (w.heap.size + 6) 3 (.int .i64 k)

theorem info5 : (Yba.prog.info? 5).map (fun i => (i.zero, i.size, i.bytes)) = some (some (.int .u8 0), 1, 1) := by kernel_rfl

/-- A store into one box leaves another. -/
theorem Boxed.setOther {W : World} {B b : Nat} {t : TypeId} {v : Value} (h : Boxed W B t v) (hne : B ≠ b) (u : Value) : Boxed (W.setCell ⟨b, 0, none⟩ u) B t v :=
  (Below.heap_setCell _ _ _ B (by simpa using hne)).trans h

theorem CInv.alloc {a : Option Addr} {len cap : Nat} {failAt : Int} {w W : World} {t j k : Nat} (h : CInv a len cap failAt w W t j k) (o : Obj) : CInv a len cap failAt w (W.alloc o) t j k := by
  obtain ⟨v, hL, hr⟩ := h.log
  exact ⟨h.bel.alloc h.bel.size o, h.bO.alloc o, h.bF.alloc o, h.bS.alloc o, ⟨v, hL.alloc o, hr.alloc o⟩, h.bJ.alloc o, h.bK.alloc o⟩
theorem CInv.drewN {a : Option Addr} {len cap : Nat} {failAt : Int} {w W : World} {t j k : Nat} (h : CInv a len cap failAt w W t j k) (n : Nat) : CInv a len cap failAt w (W.drewN n) t j k :=
  ⟨below_drewN h.bel n, h.bO, h.bF, h.bS, h.log, h.bJ, h.bK⟩
theorem CInv.incJ {a : Option Addr} {len cap : Nat} {failAt : Int} {w W : World} {t j k : Nat} (h : CInv a len cap failAt w W t j k) : CInv a len cap failAt w (W.setCell ⟨w.heap.size + 5, 0, none⟩ (.int .i64 ((j : Int) + 1))) t (j + 1) k := by
  obtain ⟨v, hL, hr⟩ := h.log
  exact ⟨h.bel.setCell (by simp) _, Boxed.setOther h.bO (by omega) _, Boxed.setOther h.bF (by omega) _, Boxed.setOther h.bS (by omega) _, ⟨v, Boxed.setOther hL (by omega) _, ownsRow_setCell_other hr (fun e => h.bJ.not_row (by decide) hr e.symm) _⟩,
    by have := h.bJ.set (.int .i64 ((j : Int) + 1)); simpa using this, Boxed.setOther h.bK (by omega) _⟩
theorem CInv.incK {a : Option Addr} {len cap : Nat} {failAt : Int} {w W : World} {t j k : Nat} (h : CInv a len cap failAt w W t j k) : CInv a len cap failAt w (W.setCell ⟨w.heap.size + 6, 0, none⟩ (.int .i64 ((k : Int) + 1))) t j (k + 1) := by
  obtain ⟨v, hL, hr⟩ := h.log
  exact ⟨h.bel.setCell (by simp) _, Boxed.setOther h.bO (by omega) _, Boxed.setOther h.bF (by omega) _, Boxed.setOther h.bS (by omega) _, ⟨v, Boxed.setOther hL (by omega) _, ownsRow_setCell_other hr (fun e => h.bK.not_row (by decide) hr e.symm) _⟩,
    Boxed.setOther h.bJ (by omega) _, by have := h.bK.set (.int .i64 ((k : Int) + 1)); simpa using this⟩

/-- WHAT IS BEHIND 'log = append(log, c)'. -/
theorem CInv.app {a : Option Addr} {len cap : Nat} {failAt : Int} {w W w1 : World} {t j k : Nat} (h : CInv a len cap failAt w W t j k) {v v' c : Value} {tmp : Obj} (hL : Boxed W (w.heap.size + 4) 29 v) (hrow : W.ownsRow w.heap.size 5 1 v t (altv t))
    (hc : c = .int .u8 (if t % 2 = 0 then 110 else 111)) (hown' : w1.ownsRow w.heap.size 5 1 v' (t + 1) (altv t ++ [c])) (hgrow : (W.alloc tmp).grownBy w1 v.ownBlock) :
    Boxed w1 w.heap.size 49 (.slice a len cap) ∧ Boxed w1 (w.heap.size + 1) 3 (.int .i64 failAt) ∧ Boxed w1 (w.heap.size + 3) 51 (sent w.heap.size) ∧ Boxed w1 (w.heap.size + 4) 29 v ∧
    CInv a len cap failAt w (w1.setCell ⟨w.heap.size + 4, 0, none⟩ v') (t + 1) j k ∧ KT W (w1.setCell ⟨w.heap.size + 4, 0, none⟩ v') := by
  have kO := (h.bO.alloc tmp).kept hgrow (h.bO.not_row (by decide) hrow)
  have kF := (h.bF.alloc tmp).kept hgrow (h.bF.not_row (by decide) hrow)
  have kS := (h.bS.alloc tmp).kept hgrow (h.bS.not_row (by decide) hrow)
  have kJ := (h.bJ.alloc tmp).kept hgrow (h.bJ.not_row (by decide) hrow)
  have kK := (h.bK.alloc tmp).kept hgrow (h.bK.not_row (by decide) hrow)
  obtain ⟨hv1, hv2, hr2, _, hb2⟩ := hL.appended (by decide) hrow h.bel.size (by omega) hown' hgrow
  subst hc
  rw [← altv_succ] at hr2
  refine ⟨kO, kF, kS, hv1, ⟨h.bel.trans hb2, Boxed.setOther kO (by omega) _, Boxed.setOther kF (by omega) _, Boxed.setOther kS (by omega) _, ⟨v', hv2, hr2⟩, Boxed.setOther kJ (by omega) _, Boxed.setOther kK (by omega) _⟩, ?_⟩
  exact (((KT.refl W).alloc tmp).grown (hrow.alloc tmp) hgrow).setBox hv1 (.inr (.inl rfl)) v'

set_option maxHeartbeats 1000000 in
theorem next_ok (a : Option Addr) (len cap : Nat) (failAt : Int) (w W : World) (j : Nat) (hj : j ≤ 65536) (h : CInv a len cap failAt w W (2 * j) j j) (hne : ((j : Int) == failAt) = false) :
    Calls Yba.prog 11 #[.pointer (some ⟨w.heap.size + 5, 0, none⟩), .pointer (some ⟨w.heap.size + 4, 0, none⟩), .pointer (some ⟨w.heap.size + 1, 0, none⟩), .pointer (some ⟨w.heap.size + 3, 0, none⟩)] W fun e W' =>
      ∃ nb, e = .returned (.tuple #[.iface 55 (.pointer (some ⟨nb, 0, none⟩)), .nilIface]) ∧ CInv a len cap failAt w W' (2 * j + 1) (j + 1) j ∧ KT W W' ∧ W'.heap[nb]? = some (.cells #[.int .i64 j] 57 (0, 0)) := by
  obtain ⟨i0, hi, hz0, hz1, hz2⟩ := info_parts info5
  have h1 := h.incJ
  have kt1 : KT W (W.setCell ⟨w.heap.size + 5, 0, none⟩ (.int .i64 ((j : Int) + 1))) := (KT.refl W).setBox h.bJ (.inl rfl) _
  obtain ⟨v, hL0, hrow0⟩ := h.log
  have hL := Boxed.setOther hL0 (b := w.heap.size + 5) (by omega) (.int .i64 ((j : Int) + 1))
  have hrow : (W.setCell ⟨w.heap.size + 5, 0, none⟩ (.int .i64 ((j : Int) + 1))).ownsRow w.heap.size 5 1 v (2 * j) (altv (2 * j)) := ownsRow_setCell_other hrow0 (fun e => h.bJ.not_row (by decide) hrow0 e.symm) _
  have hb := h1.bel.size
  have c1 := h.bF.cell
  have c3 := h.bS.cell
  have c4 := hL0.cell
  have c5 := h.bJ.cell
  have f5 := h.bJ.frozen
  go_enter Yba.func11, Yba.ntmps11
  go_wp2_with (first
    | (at_builtin; refine wpList_append_own _ rfl _ _ 29 rfl w.heap.size 5 i0 (.int .u8 0) 1 1 Yba.underlying29 hi hz0 hz1 hz2 rfl (by decide) _ _ _ rfl (hrow.alloc _) ⟨W.heap.size, 0, none⟩ 1 1 [.int .u8 110] rfl rfl (by simpa using cell_one_new (W.setCell ⟨w.heap.size + 5, 0, none⟩ (.int .i64 ((j : Int) + 1))) (.int .u8 110) 5) (by simp [Value.oneCell']) (by unfold maxLen; omega) (by omega) (by simp at hb ⊢; omega) ?_; intro v' w1 hown' hgrow _; obtain ⟨g', cap', rfl⟩ := ownsRow_succ hown'; obtain ⟨kO, kF, kS, kL, hC, hT⟩ := h1.app hL hrow (by simp) hown' hgrow; have d1 := kF.cell; have d3 := kS.cell; have d4 := kL.cell; have e4 := kL.frozen))
  go_ret2
  refine ⟨w1.heap.size, rfl, hC.alloc _, (kt1.trans hT).alloc _, ?_⟩
  have := World.alloc_heap_new (w1.setCell ⟨w.heap.size + 4, 0, none⟩ (.slice (some ⟨g', 0, none⟩) (2 * j + 1) cap')) (.cells #[.int .i64 (j : Int)] 57)
  simpa using this

set_option maxHeartbeats 1000000 in
theorem next_fail (a : Option Addr) (len cap : Nat) (failAt : Int) (w W : World) (j : Nat) (hj : j ≤ 65536) (h : CInv a len cap failAt w W (2 * j) j j) (hne : ((j : Int) == failAt) = true) :
    Calls Yba.prog 11 #[.pointer (some ⟨w.heap.size + 5, 0, none⟩), .pointer (some ⟨w.heap.size + 4, 0, none⟩), .pointer (some ⟨w.heap.size + 1, 0, none⟩), .pointer (some ⟨w.heap.size + 3, 0, none⟩)] W fun e W' =>
      ∃ x, e = .returned (.tuple #[x, sent w.heap.size]) ∧ CInv a len cap failAt w W' (2 * j + 1) (j + 1) j ∧ KT W W' := by
  obtain ⟨i0, hi, hz0, hz1, hz2⟩ := info_parts info5
  have h1 := h.incJ
  have kt1 : KT W (W.setCell ⟨w.heap.size + 5, 0, none⟩ (.int .i64 ((j : Int) + 1))) := (KT.refl W).setBox h.bJ (.inl rfl) _
  obtain ⟨v, hL0, hrow0⟩ := h.log
  have hL := Boxed.setOther hL0 (b := w.heap.size + 5) (by omega) (.int .i64 ((j : Int) + 1))
  have hrow : (W.setCell ⟨w.heap.size + 5, 0, none⟩ (.int .i64 ((j : Int) + 1))).ownsRow w.heap.size 5 1 v (2 * j) (altv (2 * j)) := ownsRow_setCell_other hrow0 (fun e => h.bJ.not_row (by decide) hrow0 e.symm) _
  have hb := h1.bel.size
  have c1 := h.bF.cell
  have c3 := h.bS.cell
  have c4 := hL0.cell
  have c5 := h.bJ.cell
  have f5 := h.bJ.frozen
  go_enter Yba.func11, Yba.ntmps11
  go_wp2_with (first
    | (at_builtin; refine wpList_append_own _ rfl _ _ 29 rfl w.heap.size 5 i0 (.int .u8 0) 1 1 Yba.underlying29 hi hz0 hz1 hz2 rfl (by decide) _ _ _ rfl (hrow.alloc _) ⟨W.heap.size, 0, none⟩ 1 1 [.int .u8 110] rfl rfl (by simpa using cell_one_new (W.setCell ⟨w.heap.size + 5, 0, none⟩ (.int .i64 ((j : Int) + 1))) (.int .u8 110) 5) (by simp [Value.oneCell']) (by unfold maxLen; omega) (by omega) (by simp at hb ⊢; omega) ?_; intro v' w1 hown' hgrow _; obtain ⟨g', cap', rfl⟩ := ownsRow_succ hown'; obtain ⟨kO, kF, kS, kL, hC, hT⟩ := h1.app hL hrow (by simp) hown' hgrow; have d1 := kF.cell; have d3 := kS.cell; have d4 := kL.cell; have e4 := kL.frozen; have l3 := kS.lt; have l4 := kL.lt))
  go_region
  all_goals go_wp2
  go_ret2
  exact ⟨_, rfl, (hC.alloc _).drewN 1, ((kt1.trans hT).alloc _).drew⟩

set_option maxHeartbeats 1000000 in
theorem op_some (ab ao : Nat) (len cap : Nat) (failAt : Int) (w W : World) (k : Nat) (hlen : len ≤ 65536) (hk : k < len) (S : ByteArray) (hab : ab < w.heap.size) (hS : w.cell? ⟨ab, ao + k, none⟩ = some (.string S)) (h : CInv (some ⟨ab, ao, none⟩) len cap failAt w W (2 * k + 1) (k + 1) k) :
    Calls Yba.prog 12 #[.pointer (some ⟨w.heap.size + 6, 0, none⟩), .pointer (some ⟨w.heap.size + 4, 0, none⟩), .pointer (some ⟨w.heap.size, 0, none⟩)] W fun e W' =>
      e = .returned (.string S) ∧ CInv (some ⟨ab, ao, none⟩) len cap failAt w W' (2 * k + 2) (k + 1) (k + 1) ∧ KT W W' := by
  obtain ⟨i0, hi, hz0, hz1, hz2⟩ := info_parts info5
  have h1 := h.incK
  have kt1 : KT W (W.setCell ⟨w.heap.size + 6, 0, none⟩ (.int .i64 ((k : Int) + 1))) := (KT.refl W).setBox h.bK (.inl rfl) _
  obtain ⟨v, hL0, hrow0⟩ := h.log
  have hL := Boxed.setOther hL0 (b := w.heap.size + 6) (by omega) (.int .i64 ((k : Int) + 1))
  have hrow : (W.setCell ⟨w.heap.size + 6, 0, none⟩ (.int .i64 ((k : Int) + 1))).ownsRow w.heap.size 5 1 v (2 * k + 1) (altv (2 * k + 1)) := ownsRow_setCell_other hrow0 (fun e => h.bK.not_row (by decide) hrow0 e.symm) _
  have hb := h1.bel.size
  have c0 := h.bO.cell
  have c4 := hL0.cell
  have c6 := h.bK.cell
  have f6 := h.bK.frozen
  go_enter Yba.func12, Yba.ntmps12
  go_wp2_with (first
    | (at_builtin; refine wpList_append_own _ rfl _ _ 29 rfl w.heap.size 5 i0 (.int .u8 0) 1 1 Yba.underlying29 hi hz0 hz1 hz2 rfl (by decide) _ _ _ rfl (hrow.alloc _) ⟨W.heap.size, 0, none⟩ 1 1 [.int .u8 111] rfl rfl (by simpa using cell_one_new (W.setCell ⟨w.heap.size + 6, 0, none⟩ (.int .i64 ((k : Int) + 1))) (.int .u8 111) 5) (by simp [Value.oneCell']) (by unfold maxLen; omega) (by omega) (by simp at hb ⊢; omega) ?_; intro v' w1 hown' hgrow _; obtain ⟨g', cap', rfl⟩ := ownsRow_succ hown'; obtain ⟨kO, kF, kS, kL, hC, hT⟩ := h1.app hL hrow (by rw [if_neg (by omega)]) hown' hgrow; have d0 := kO.cell; have dS := (hC.bel.cell (p := ⟨ab, ao + k, none⟩) hab).trans hS; have d4 := kL.cell; have e4 := kL.frozen))
  go_ret
  exact ⟨rfl, hC, kt1.trans hT⟩

set_option maxHeartbeats 1000000 in
theorem op_none (a : Option Addr) (len cap : Nat) (failAt : Int) (w W : World) (k : Nat) (hlen : len ≤ 65536) (hk : k = len) (h : CInv a len cap failAt w W (2 * k + 1) (k + 1) k) :
    Calls Yba.prog 12 #[.pointer (some ⟨w.heap.size + 6, 0, none⟩), .pointer (some ⟨w.heap.size + 4, 0, none⟩), .pointer (some ⟨w.heap.size, 0, none⟩)] W fun e W' =>
      e = .returned (.string ⟨#[]⟩) ∧ CInv a len cap failAt w W' (2 * k + 2) (k + 1) (k + 1) ∧ KT W W' := by
  subst hk
  obtain ⟨i0, hi, hz0, hz1, hz2⟩ := info_parts info5
  have h1 := h.incK
  have kt1 : KT W (W.setCell ⟨w.heap.size + 6, 0, none⟩ (.int .i64 ((k : Int) + 1))) := (KT.refl W).setBox h.bK (.inl rfl) _
  obtain ⟨v, hL0, hrow0⟩ := h.log
  have hL := Boxed.setOther hL0 (b := w.heap.size + 6) (by omega) (.int .i64 ((k : Int) + 1))
  have hrow : (W.setCell ⟨w.heap.size + 6, 0, none⟩ (.int .i64 ((k : Int) + 1))).ownsRow w.heap.size 5 1 v (2 * k + 1) (altv (2 * k + 1)) := ownsRow_setCell_other hrow0 (fun e => h.bK.not_row (by decide) hrow0 e.symm) _
  have hb := h1.bel.size
  have c0 := h.bO.cell
  have c4 := hL0.cell
  have c6 := h.bK.cell
  have f6 := h.bK.frozen
  go_enter Yba.func12, Yba.ntmps12
  go_wp2_with (first
    | (at_builtin; refine wpList_append_own _ rfl _ _ 29 rfl w.heap.size 5 i0 (.int .u8 0) 1 1 Yba.underlying29 hi hz0 hz1 hz2 rfl (by decide) _ _ _ rfl (hrow.alloc _) ⟨W.heap.size, 0, none⟩ 1 1 [.int .u8 111] rfl rfl (by simpa using cell_one_new (W.setCell ⟨w.heap.size + 6, 0, none⟩ (.int .i64 ((k : Int) + 1))) (.int .u8 111) 5) (by simp [Value.oneCell']) (by unfold maxLen; omega) (by omega) (by simp at hb ⊢; omega) ?_; intro v' w1 hown' hgrow _; obtain ⟨g', cap', rfl⟩ := ownsRow_succ hown'; obtain ⟨kO, kF, kS, kL, hC, hT⟩ := h1.app hL hrow (by rw [if_neg (by omega)]) hown' hgrow; have d0 := kO.cell; have d4 := kL.cell; have e4 := kL.frozen))
  go_ret
  exact ⟨rfl, hC, kt1.trans hT⟩
end Go.Proofs.Ybulkexpgu
