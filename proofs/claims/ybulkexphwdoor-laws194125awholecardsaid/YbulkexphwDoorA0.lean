/- LawS194125A: rows of bytes that the call makes; the two helpers of the law; bytes.Equal. -/
import Derived.Test.YbulkexphwDoorProg
import Derived.WalkKit
import Derived.WalkSpells
import Derived.WalkLawsBesides
import Derived.Laws.BytesArg
import Derived.Deep.LoopGhost
namespace Go.Proofs.YbulkexphwDoor
open Go.RowKit

def intOf : Value → Int | .int _ q => q | _ => 0

/-- Block g is a row of the bytes ys. -/
def IsRow (W : World) (g : Nat) (ys : List Int) : Prop := W.heap[g]? = some (.cells (ys.map (Value.int .u8)).toArray 5 (0, 0))
/-- Every number is a byte's. -/
def Bts (ys : List Int) : Prop := ∀ y ∈ ys, 0 ≤ y ∧ y ≤ 255

theorem IsRow.lt {W : World} {g : Nat} {ys : List Int} (h : IsRow W g ys) : g < W.heap.size := lt_of_block h
theorem IsRow.cell {W : World} {g : Nat} {ys : List Int} (h : IsRow W g ys) {i : Nat} (hi : i < ys.length) : W.cell? ⟨g, i, none⟩ = some (.int .u8 (ys[i]?.getD 0)) := by
  simp [World.cell?, show W.heap[g]? = _ from h, hi]
theorem IsRow.free {W : World} {g : Nat} {ys : List Int} (h : IsRow W g ys) (i : Nat) : W.frozen? ⟨g, i, none⟩ = false := by
  simp [World.frozen?, show W.heap[g]? = _ from h]
theorem IsRow.below {W W' : World} {g B : Nat} {ys : List Int} (h : IsRow W g ys) (hb : Below B W W') (hg : g < B) : IsRow W' g ys := (hb.block g hg).trans h
theorem IsRow.set {W : World} {g : Nat} {ys : List Int} (h : IsRow W g ys) (i : Nat) (y : Int) : IsRow (W.setCell ⟨g, i, none⟩ (.int .u8 y)) g (ys.set i y) := by
  obtain ⟨hlt, hk⟩ := Array.getElem?_eq_some_iff.1 h
  show (W.heap.modify g _)[g]? = _
  rw [Array.getElem?_eq_getElem (by rw [Array.size_modify]; exact hlt), Array.getElem_modify_self, hk]
  simp [List.map_set]
theorem Bts.set {ys : List Int} (h : Bts ys) (i : Nat) {y : Int} (h0 : 0 ≤ y) (h1 : y ≤ 255) : Bts (ys.set i y) := by
  intro z hz
  rcases List.mem_or_eq_of_mem_set hz with h' | rfl
  · exact h z h'
  · exact ⟨h0, h1⟩
theorem byte_le (u : UInt8) : ((u.toNat : Nat) : Int) ≤ 255 := by have := UInt8.toNat_lt u; omega
theorem Bts.at {ys : List Int} (h : Bts ys) (i : Nat) : 0 ≤ ys[i]?.getD 0 ∧ ys[i]?.getD 0 ≤ 255 := by
  by_cases hi : i < ys.length
  · rw [List.getElem?_eq_getElem hi]; exact h _ (List.getElem_mem hi)
  · rw [List.getElem?_eq_none (by omega)]; exact ⟨by decide, by decide⟩

/-- A slice of bytes that lies below B, or has none. -/
def IsBytes (W : World) (B : Nat) (a : Option Addr) (xs : List Int) : Prop :=
  ∀ i, i < xs.length → ∃ ab ao, a = some ⟨ab, ao, none⟩ ∧ ab < B ∧ W.cell? ⟨ab, ao + i, none⟩ = some (.int .u8 (xs[i]?.getD 0))
theorem IsBytes.below {W W' : World} {B : Nat} {a : Option Addr} {xs : List Int} (h : IsBytes W B a xs) (hb : Below B W W') : IsBytes W' B a xs := fun i hi => by
  obtain ⟨ab, ao, e, hl, hc⟩ := h i hi
  exact ⟨ab, ao, e, hl, (hb.cell (p := ⟨ab, ao + i, none⟩) hl).trans hc⟩

theorem info5 : (Ybad.prog.info? 5).map (fun i => (i.zero, i.size, i.bytes)) = some (some (.int .u8 0), 1, 1) := by kernel_rfl

theorem made_row {w w1 : World} {n : Nat} (hown : w1.ownsRow w.heap.size 5 1 (.slice (some ⟨w.heap.size, 0, none⟩) n n) n (madeCells (Value.int .u8 0).cells (n * 1)).toList) (hgrow : w.grownBy w1 none) :
    IsRow w1 w.heap.size (List.replicate n 0) ∧ Below w.heap.size w w1 := by
  rcases hown.2 with ⟨h, _⟩ | ⟨g, cap, cur, hv, hb, hc, h1, h2, h3, h4⟩
  · cases h
  · cases hv
    refine ⟨?_, (Below.refl _ _).grown hgrow (Nat.le_refl _) (fun k e => by cases e)⟩
    have e : cur = ((List.replicate n (0 : Int)).map (Value.int .u8)).toArray := by
      apply Array.ext'
      have h5 : cur.toList = (madeCells (Value.int .u8 0).cells (n * 1)).toList := by
        rw [← h4, List.take_of_length_le (by simp [h3])]
      rw [h5]
      apply List.ext_getElem
      · simp [size_madeCells]
      · intro i h6 h7
        simp [madeCells, Value.cells, Nat.mod_one]
    rw [IsRow, ← e]
    exact hc

set_option maxHeartbeats 1000000 in
set_option maxRecDepth 100000 in
theorem copy_any (a : Option Addr) (cap : Nat) (xs : List Int) (w : World) (hx : IsBytes w w.heap.size a xs) (hb : Bts xs) (hlen : xs.length ≤ 1048576) :
    Calls Ybad.prog 5 #[.slice a xs.length cap] w fun e w' => e = .returned (.slice (some ⟨w.heap.size, 0, none⟩) xs.length xs.length) ∧ IsRow w' w.heap.size xs ∧ Below w.heap.size w w' := by
  obtain ⟨i0, hi, hz0, hz1, hz2⟩ := info_parts info5
  go_enter Ybad.func5, Ybad.ntmps5
  go_wp2_with (first
    | (at_make; refine wpList_make_full _ rfl _ _ 22 rfl w.heap.size 5 i0 (.int .u8 0) 1 Ybad.underlying22 hi hz0 hz1 _ _ _ _ xs.length rfl rfl rfl rfl (by rw [hz2]; omega) (by unfold maxLen; omega) (Nat.le_refl _) ?_; intro w1 hown hgrow; obtain ⟨hr1, hb1⟩ := made_row hown hgrow; clear hown hgrow))
  clear hi hz0 hz1 hz2
  go_loopw [4] (fun vi wr => ∃ (k : Nat) (ys : List Int), vi = .int .i64 k ∧ k ≤ xs.length ∧ ys.length = xs.length ∧ IsRow wr w.heap.size ys ∧ Hid (ys.take k = xs.take k) ∧ Below w.heap.size w wr) (fun vi _ => xs.length - (intOf vi).toNat)
  case atStart => exact ⟨0, _, rfl, Nat.zero_le _, by simp, hr1, (show _ = _ by simp), hb1⟩
  case round =>
    obtain ⟨k, ys, rfl, hk, hl, hr, HT, hbw⟩ := hrel
    by_cases hlt : k < xs.length
    · obtain ⟨ab, ao, rfl, hab, hc⟩ := hx k hlt
      have c1 := (hbw.cell (p := ⟨ab, ao + k, none⟩) hab).trans hc
      have c2 := hr.cell (i := k) (by omega)
      have f2 := hr.free k
      have hb0 := hb.at k
      obtain ⟨x, hxk⟩ : ∃ x, x = xs[k]?.getD 0 := ⟨_, rfl⟩
      rw [← hxk] at c1 hb0
      have HX : Hid (x = xs[k]?.getD 0) := hxk
      clear hc hxk
      go_wp2_with fail
      go_roundw
      case rel =>
        refine ⟨k + 1, ys.set k x, by go_num, by omega, by simp [hl], hr.set k x, ?_, hbw.setCell (by simp) _⟩
        show _ = _
        rw [List.take_succ_eq_append_getElem (by simp; omega), List.take_succ_eq_append_getElem hlt, List.take_set_of_le (by omega), HT.out]
        simp [HX.out, hlt]
      case measure => simp [intOf]; omega
    · go_wp2_with fail
      go_ret
      have e : ys = xs := by
        have := HT.out
        rwa [List.take_of_length_le (by omega), List.take_of_length_le (by omega)] at this
      subst e
      exact ⟨rfl, hr, hbw⟩

set_option maxHeartbeats 1000000 in
set_option maxRecDepth 100000 in
theorem win_any (a : Option Addr) (cap : Nat) (xs : List Int) (m : Bool) (w : World) (hx : IsBytes w w.heap.size a xs) (hb : Bts xs) (hlen : xs.length ≤ 1048576) :
    Calls Ybad.prog 4 #[.slice a xs.length cap, .bool m] w fun e w' => ∃ ys, e = .returned (.slice (some ⟨w.heap.size, 0, none⟩) ys.length ys.length) ∧ ys.length = xs.length ∧ IsRow w' w.heap.size ys ∧ Bts ys ∧ Below w.heap.size w w' := by
  obtain ⟨i0, hi, hz0, hz1, hz2⟩ := info_parts info5
  go_enter Ybad.func4, Ybad.ntmps4
  go_wp2_with (first
    | (at_make; refine wpList_make_full _ rfl _ _ 22 rfl w.heap.size 5 i0 (.int .u8 0) 1 Ybad.underlying22 hi hz0 hz1 _ _ _ _ xs.length rfl rfl rfl rfl (by rw [hz2]; omega) (by unfold maxLen; omega) (Nat.le_refl _) ?_; intro w1 hown hgrow; obtain ⟨hr1, hb1⟩ := made_row hown hgrow; clear hown hgrow))
  clear hi hz0 hz1 hz2
  go_loopw [6] (fun vi wr => ∃ (k : Nat) (ys : List Int), vi = .int .i64 k ∧ k ≤ xs.length ∧ ys.length = xs.length ∧ IsRow wr w.heap.size ys ∧ Bts ys ∧ Below w.heap.size w wr) (fun vi _ => xs.length - (intOf vi).toNat)
  case atStart => exact ⟨0, _, rfl, Nat.zero_le _, by simp, hr1, fun y hy => by rw [List.eq_of_mem_replicate hy]; exact ⟨by decide, by decide⟩, hb1⟩
  case round =>
    obtain ⟨k, ys, rfl, hk, hl, hr, hby, hbw⟩ := hrel
    by_cases hlt : k < xs.length
    · obtain ⟨ab, ao, rfl, hab, hc⟩ := hx k hlt
      have c1 := (hbw.cell (p := ⟨ab, ao + k, none⟩) hab).trans hc
      have c2 := hr.cell (i := k) (by omega)
      have f2 := hr.free k
      obtain ⟨hb0, hb9⟩ := hb.at k
      generalize xs[k]?.getD 0 = x at c1 hb0 hb9
      clear hc
      cases m
      · go_wp2_with fail
        go_roundw
        case rel => exact ⟨k + 1, ys.set k x, by go_num, by omega, by simp [hl], hr.set k x, hby.set k hb0 hb9, hbw.setCell (by simp) _⟩
        case measure => simp [intOf]; omega
      · go_wp2_with fail
        go_roundw
        case rel => exact ⟨k + 1, ys.set k _, by go_num, by omega, by simp [hl], hr.set k _, hby.set k (Int.natCast_nonneg _) (byte_le _), hbw.setCell (by simp) _⟩
        case measure => simp [intOf]; omega
    · go_wp2_with fail
      go_ret
      exact ⟨ys, by rw [hl]; rfl, hl, hr, hby, hbw⟩

/-- What 'string(..)' of a slice of bytes gives. -/
theorem conv_bytes (W : World) (B : Nat) (a : Option Addr) (cap : Nat) (xs : List Int) (h : IsBytes W B a xs) : (convert 22 9 (.slice a xs.length cap)).run Ybad.prog W = .ok (.string (strOfNums xs)) W := by
  by_cases h0 : xs.length = 0
  · obtain rfl : xs = [] := List.eq_nil_of_length_eq_zero h0
    cases a with
    | none => exact (run_convert_bytes_nil W 22 5 Ybad.underlying22 Ybad.underlying5 0 cap 9 Ybad.underlying9).trans rfl
    | some ad =>
      rw [run_convert_bytes_string W 22 9 5 _ _ _ Ybad.underlying22 Ybad.underlying5 Ybad.underlying9]
      simp [Conv.bytesToString, strOfNums, loadCells]
      rfl
  · obtain ⟨ab, ao, rfl, _, _⟩ := h 0 (by omega)
    refine run_convert_bytes_arg W 22 5 Ybad.underlying22 Ybad.underlying5 ab ao xs.length cap xs rfl (fun i hi => ?_) 9 Ybad.underlying9
    obtain ⟨_, _, e, _, hc⟩ := h i hi
    cases e
    simpa using hc

theorem strOfNums_inj {xs ys : List Int} (hx : Bts xs) (hy : Bts ys) (h : strOfNums xs = strOfNums ys) : xs = ys := by
  have h1 : (strOfNums xs).data.toList = (strOfNums ys).data.toList := by rw [h]
  rw [strOfNums_data, strOfNums_data] at h1
  have hl : xs.length = ys.length := by simpa using congrArg List.length h1
  apply List.ext_getElem hl
  intro i h2 h3
  have h4 : (xs.map fun n => UInt8.ofNat n.toNat)[i]? = (ys.map fun n => UInt8.ofNat n.toNat)[i]? := by rw [h1]
  simp [h2, h3] at h4
  have a := hx _ (List.getElem_mem h2)
  have b := hy _ (List.getElem_mem h3)
  have h5 := congrArg UInt8.toNat h4
  simp at h5
  omega

set_option maxHeartbeats 400000 in
theorem equal_same (a b : Option Addr) (ca cb : Nat) (xs : List Int) (w : World) (B C : Nat) (hx : IsBytes w B a xs) (hy : IsBytes w C b xs) :
    Calls Ybad.prog 8 #[.slice a xs.length ca, .slice b xs.length cb] w fun e w' => e = .returned (.bool true) ∧ w' = w := by
  have h1 := conv_bytes w B a ca xs hx
  have h2 := conv_bytes w C b cb xs hy
  generalize strOfNums xs = s at h1 h2
  go_enter Ybad.func8, Ybad.ntmps8
  go_wp2
  go_ret
  exact ⟨by simp, rfl⟩
end Go.Proofs.YbulkexphwDoor
