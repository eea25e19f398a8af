/- LawS194125A: advance, shortInt. -/
import Derived.Test.YbulkexphwDoorA0
import Derived.Test.YbulkexphwDoorM
import Derived.Test.YbulkexphwDoorShelf
import Derived.Deep.RegionWith
import Derived.BigRegion
import Derived.Deep.DeepCutAuto
import Derived.Deep.CutBlock
namespace Go.Proofs.YbulkexphwDoor
open Go.RowKit

/-- The scanner's cells. -/
def scn (win : Value) (held col read : Int) (minus : Bool) (zeros : Int) (tee : Value) : Array Value :=
  #[.pointer none, .string ⟨#[102]⟩, win, .int .i64 held, .int .i64 7, .int .i64 col, .int .u8 83, .int .i64 3, .int .i64 read, .bool minus, .int .i64 zeros, tee, .nilFunc, .int .i64 11]
def IsScn (W : World) (b : Nat) (win : Value) (held col read : Int) (minus : Bool) (zeros : Int) (tee : Value) : Prop :=
  W.heap[b]? = some (.cells (scn win held col read minus zeros tee) 40 (0, 0))

theorem IsScn.cell {W : World} {b : Nat} {win : Value} {held col read : Int} {minus : Bool} {zeros : Int} {tee : Value} (h : IsScn W b win held col read minus zeros tee) (i : Nat) : W.cell? ⟨b, i, none⟩ = (scn win held col read minus zeros tee)[i]? := by
  simp [World.cell?, show W.heap[b]? = _ from h]
theorem IsScn.free {W : World} {b : Nat} {win : Value} {held col read : Int} {minus : Bool} {zeros : Int} {tee : Value} (h : IsScn W b win held col read minus zeros tee) (i : Nat) : W.frozen? ⟨b, i, none⟩ = false := by
  simp [World.frozen?, show W.heap[b]? = _ from h]
theorem scn_set {W : World} {b : Nat} {cs : Array Value} (h : W.heap[b]? = some (.cells cs 40 (0, 0))) (i : Nat) (v : Value) : (W.setCell ⟨b, i, none⟩ v).heap[b]? = some (.cells (cs.setIfInBounds i v) 40 (0, 0)) := by
  simp [World.setCell, Array.getElem?_modify, h]

set_option maxHeartbeats 2000000 in
set_option maxRecDepth 100000 in
theorem advance_any (bs g n cap J : Nat) (held col read : Int) (minus : Bool) (zeros : Int) (tee : Value) (w : World) (hJ : J < n) (hcap : n ≤ cap) (h : IsScn w bs (.slice (some ⟨g, 0, none⟩) n cap) held col read minus zeros tee) :
    Calls Ybad.prog 12 #[.pointer (some ⟨bs, 0, none⟩), .int .i64 J] w fun e w' => e = .returned (.tuple #[]) ∧ IsScn w' bs (.slice (some ⟨g, J, none⟩) (n - J) (cap - J)) (wrap64 (held + J)) (wrap64 (col + J)) read minus zeros tee ∧ Below bs w w' ∧ ∀ k, k ≠ bs → w'.heap[k]? = w.heap[k]? := by
  have c2 : w.cell? ⟨bs, 2, none⟩ = some (.slice (some ⟨g, 0, none⟩) n cap) := (h.cell 2).trans rfl
  have c3 : w.cell? ⟨bs, 3, none⟩ = some (.int .i64 held) := (h.cell 3).trans rfl
  have c5 : w.cell? ⟨bs, 5, none⟩ = some (.int .i64 col) := (h.cell 5).trans rfl
  have f2 := h.free 2
  have f3 := h.free 3
  have f5 := h.free 5
  have z1 : (J : Int) < (n : Int) := by omega
  have z2 : (n : Int) ≤ (cap : Int) := by omega
  go_enter Ybad.func12, Ybad.ntmps12
  go_wp2
  go_region
  all_goals go_wp2
  go_end0
  refine ⟨rfl, ?_, ((((Below.refl bs w).setCell (p := ⟨bs, 2, none⟩) (Nat.le_refl _) _).setCell (p := ⟨bs, 3, none⟩) (Nat.le_refl _) _).setCell (p := ⟨bs, 5, none⟩) (Nat.le_refl _) _).drew, fun k hk => ?_⟩
  · have := scn_set (scn_set (scn_set h 2 (.slice (some ⟨g, J, none⟩) (n - J) (cap - J))) 3 (.int .i64 (wrap64 (held + J)))) 5 (.int .i64 (wrap64 (col + J)))
    exact this
  · show (((w.setCell _ _).setCell _ _).setCell _ _).heap[k]? = _
    simp [World.setCell, Array.getElem?_modify, Ne.symm hk]

/-- The walk's own tests at the loop's end. -/
theorem dig_end {Z : Nat → Int} {n J : Nat} (h : Dig Z n J) (hJ : J < n) : J = 18 ∨ (J < 18 ∧ Z J < 48) ∨ (J < 18 ∧ 48 ≤ Z J ∧ 57 < Z J) := by
  by_cases h18 : J < 18
  · have := h.stop hJ h18
    by_cases h48 : 48 ≤ Z J
    · exact .inr (.inr ⟨h18, h48, by omega⟩)
    · exact .inr (.inl ⟨h18, by omega⟩)
  · exact .inl (by have := h.le18; omega)

/-- The window is refused. -/
def Refused (Z : Nat → Int) (n J : Nat) : Prop := J = 0 ∨ J = n ∨ (Z J ≠ 32 ∧ Z J ≠ 10)

/-- The zeros that are noted. -/
def zfin (Z : Nat → Int) (J : Nat) : Int := if val Z J = 0 then zer Z J - 1 else zer Z J

/-- What becomes of the tee: none; or a buffer, which has taken the digits. -/
def TeeOk (B : Nat) (bb : List Value) (tee : Value) (W : World) : Prop :=
  tee = .pointer none ∨ ∃ bt R, tee = .pointer (some ⟨bt, 0, none⟩) ∧ LibA.IsBuffer 29 R 5 B bt 0 bb W

theorem TeeOk.kept {B bs : Nat} {bb : List Value} {tee : Value} {W W' : World} {c : Array Value} (h : TeeOk B bb tee W) (hs : W.heap[bs]? = some (.cells c 40 (0, 0))) (hk : ∀ k, k ≠ bs → W'.heap[k]? = W.heap[k]?) : TeeOk B bb tee W' := by
  rcases h with h | ⟨bt, R, e, hB, v, lr, h3, ⟨hl, ho⟩, hne⟩
  · exact .inl h
  · have hbt : bt ≠ bs := fun e' => by
      subst e'
      have := h3.tag hs
      cases this
    refine .inr ⟨bt, R, e, hB, v, lr, h3.of_heap (hk bt hbt), ⟨hl, ?_⟩, hne⟩
    rcases ho with ho | ⟨g, cap, cur, h1, h2, h4, h5⟩
    · exact .inl ho
    · refine .inr ⟨g, cap, cur, h1, h2, (hk g fun e' => ?_).trans h4, h5⟩
      subst e'
      rw [h4] at hs
      cases hs

def digCells (xs : List Int) (J : Nat) : List Value := (xs.take J).map (Value.int .u8)

set_option maxHeartbeats 2000000 in
set_option maxRecDepth 100000 in
theorem short_any (B bs g : Nat) (xs : List Int) (J : Nat) (held col read : Int) (minus : Bool) (zeros : Int) (tee : Value) (bb : List Value) (w : World) (hn : xs.length ≤ 1048576) (hbt : Bts xs) (hr : IsRow w g xs) (hgB : g < B) (hBs : B ≤ bs) (hbl : bb.length ≤ 1048576) (hb1 : ∀ v ∈ bb, v.oneCell' = true)
    (h : IsScn w bs (.slice (some ⟨g, 0, none⟩) xs.length xs.length) held col read minus zeros tee) (hT : TeeOk B bb tee w) (hD : Dig (fun i => xs[i]?.getD 0) xs.length J) :
    Calls Ybad.prog 7 #[.pointer (some ⟨bs, 0, none⟩)] w fun e w' =>
      (Refused (fun i => xs[i]?.getD 0) xs.length J ∧ e = .returned (.tuple #[.int .i64 0, .bool false]) ∧ w' = w) ∨
      (¬ Refused (fun i => xs[i]?.getD 0) xs.length J ∧ e = .returned (.tuple #[.int .i64 (val (fun i => xs[i]?.getD 0) J), .bool true]) ∧
        IsScn w' bs (.slice (some ⟨g, J, none⟩) (xs.length - J) (xs.length - J)) (wrap64 (held + J)) (wrap64 (col + J)) (wrap64 (read + 1)) false (zfin (fun i => xs[i]?.getD 0) J) tee ∧
        TeeOk B (bb ++ digCells xs J) tee w' ∧ Below B w w') := by
  have c2 : w.cell? ⟨bs, 2, none⟩ = some (.slice (some ⟨g, 0, none⟩) xs.length xs.length) := (h.cell 2).trans rfl
  have hle := hD.le
  have hle18 := hD.le18
  obtain ⟨Z, hZ⟩ : ∃ Z : Nat → Int, Z = fun i => xs[i]?.getD 0 := ⟨_, rfl⟩
  have hcz : ∀ i, i < xs.length → w.cell? ⟨g, i, none⟩ = some (.int .u8 (Z i)) := fun i hi => by rw [hZ]; exact hr.cell hi
  have hbz : ∀ i, 0 ≤ Z i ∧ Z i ≤ 255 := fun i => by rw [hZ]; exact hbt.at i
  rw [← hZ] at hD ⊢
  have HC : Hid (∀ i, i < xs.length → w.cell? ⟨g, i, none⟩ = some (.int .u8 (Z i))) := hcz
  have HB : Hid (∀ i, 0 ≤ Z i ∧ Z i ≤ 255) := hbz
  clear hZ hcz hbz
  go_enter Ybad.func7, Ybad.ntmps7
  go_upto_block 0 with fail
  go_cut [2, 5, 6] (fun s2 s5 s6 wx => s2 = .int .i64 (val Z J) ∧ s5 = .int .i64 J ∧ s6 = .int .i64 (zer Z J) ∧ wx = w)
  case first =>
    go_wp2_with fail
    go_loopg [2, 5, 6] J (fun gh v2 v5 v6 wr => ∃ j : Nat, j ≤ J ∧ gh = J - j ∧ v2 = .int .i64 (val Z j) ∧ v5 = .int .i64 j ∧ v6 = .int .i64 (zer Z j) ∧ wr = w)
    case atStart => exact ⟨0, Nat.zero_le _, rfl, rfl, rfl, rfl, rfl⟩
    case round =>
      obtain ⟨j, hj, rfl, rfl, rfl, rfl, hwr⟩ := hrel
      obtain rfl := hwr.symm
      by_cases hlt : j < J
      · obtain ⟨d0, d1⟩ := hD.dig j hlt
        obtain ⟨v0, v1⟩ := val_lt hD j hlt
        obtain ⟨z0, z1⟩ := zer_bd Z j
        have cj := HC.out j (by omega)
        have hV : Hid (val Z (j + 1) = val Z j * 10 + (Z j - 48)) := rfl
        have hE : Hid (zer Z (j + 1) = zer Z j + if val Z j = 0 ∧ Z j = 48 then 1 else 0) := rfl
        generalize val Z j = V at *
        generalize zer Z j = E at *
        generalize Z j = z at *
        by_cases hv : V = 0
        · have b1 : (V == 0) = true := by simp [hv]
          by_cases hz : z = 48
          · have b2 : (z == 48) = true := by simp [hz]
            have HE : Hid (E + 1 = zer Z (j + 1)) := by show _ = _; rw [hE.out, if_pos ⟨hv, hz⟩]
            clear hv hz
            go_wp2_with fail
            go_roundg (J - (j + 1))
            case measure => omega
            case rel => exact ⟨j + 1, by omega, rfl, by rw [hV.out], by go_num, by rw [HE.out], by trivial⟩
          · have b2 : (z == 48) = false := by simp [hz]
            have HE : Hid (E = zer Z (j + 1)) := by show _ = _; rw [hE.out, if_neg (fun e => hz e.2)]; omega
            clear hv hz
            go_wp2_with fail
            go_roundg (J - (j + 1))
            case measure => omega
            case rel => exact ⟨j + 1, by omega, rfl, by rw [hV.out], by go_num, by rw [← HE.out], by trivial⟩
        · have b1 : (V == 0) = false := by simp [hv]
          have HE : Hid (E = zer Z (j + 1)) := by show _ = _; rw [hE.out, if_neg (fun e => hv e.1)]; omega
          clear hv
          go_wp2_with fail
          go_roundg (J - (j + 1))
          case measure => omega
          case rel => exact ⟨j + 1, by omega, rfl, by rw [hV.out], by go_num, by rw [← HE.out], by trivial⟩
      · obtain rfl : j = J := by omega
        by_cases hjn : j < xs.length
        · have cj := HC.out j hjn
          rcases dig_end hD hjn with e | ⟨e1, e2⟩ | ⟨e1, e2, e3⟩
          · have q : ¬ (j : Int) < 18 := by omega
            clear e hle18
            go_wp2_with fail
            go_meet
            case rel => exact ⟨rfl, rfl, rfl, rfl⟩
          · generalize Z j = z at cj e2
            go_wp2_with fail
            go_meet
            case rel => exact ⟨rfl, rfl, rfl, rfl⟩
          · generalize Z j = z at cj e2 e3
            go_wp2_with fail
            go_meet
            case rel => exact ⟨rfl, rfl, rfl, rfl⟩
        · go_wp2_with fail
          go_meet
          case rel => exact ⟨rfl, rfl, rfl, rfl⟩
  case rest =>
    obtain ⟨rfl, rfl, rfl, hwc⟩ := hcut
    obtain rfl := hwc.symm
    by_cases hJ0 : J = 0
    · have b0 : ((J : Int) == 0) = true := by simp [hJ0]
      have HR : Hid (Refused Z xs.length J) := .inl hJ0
      clear hJ0
      go_wp2_with fail
      go_ret2
      exact .inl ⟨HR.out, rfl, rfl⟩
    have b0 : ((J : Int) == 0) = false := by simp; omega
    by_cases hJn : J = xs.length
    · have b1 : ((J : Int) == (xs.length : Int)) = true := by simp [hJn]
      have HR : Hid (Refused Z xs.length J) := .inr (.inl hJn)
      clear hJn
      go_wp2_with fail
      go_ret2
      exact .inl ⟨HR.out, rfl, rfl⟩
    have b1 : ((J : Int) == (xs.length : Int)) = false := by simp; omega
    have hJl : J < xs.length := by omega
    have cJ := HC.out J hJl
    have hJz : (J : Int) < (xs.length : Int) := by omega
    by_cases hac : Z J = 32 ∨ Z J = 10
    · have HR : Hid (¬ Refused Z xs.length J) := by
        rintro (h' | h' | ⟨h1', h2'⟩)
        · exact hJ0 h'
        · exact hJn h'
        · rcases hac with h' | h'
          · exact h1' h'
          · exact h2' h'
      have hsp : (Z J != 32) = false ∨ ((Z J != 32) = true ∧ (Z J != 10) = false) := by
        rcases hac with h' | h' <;> rw [h']
        · exact .inl rfl
        · exact .inr ⟨rfl, rfl⟩
      generalize Z J = z at cJ hsp
      clear hac
      go_upto_region 8 with fail
      go_cut [76] (fun s76 wx => s76 = .bool false ∧ wx = w)
      case first =>
        rcases hsp with b2 | ⟨b2, b3⟩
        · go_wp2_with fail
          go_meet
          case rel => exact ⟨rfl, rfl⟩
        · go_wp2_with fail
          go_meet
          case rel => exact ⟨rfl, rfl⟩
      case rest =>
        obtain ⟨rfl, hwc⟩ := hcut
        obtain rfl := hwc.symm
        obtain ⟨z0, z1⟩ := zer_bd Z J
        go_upto_if 78 with fail
        go_cut [6] (fun s6 wx => s6 = .int .i64 (zfin Z J) ∧ wx = w)
        case first =>
          by_cases hv : val Z J = 0
          · have b4 : (val Z J == 0) = true := by simp [hv]
            have HE : Hid (zfin Z J = zer Z J - 1) := if_pos hv
            clear hv
            go_wp2_with fail
            go_meet
            case rel => exact ⟨by rw [HE.out], rfl⟩
          · have b4 : (val Z J == 0) = false := by simp [hv]
            have HE : Hid (zfin Z J = zer Z J) := if_neg hv
            clear hv
            go_wp2_with fail
            go_meet
            case rel => exact ⟨by rw [HE.out], rfl⟩
        case rest =>
          obtain ⟨rfl, hwc⟩ := hcut
          obtain rfl := hwc.symm
          rcases hT with rfl | ⟨bt, R, rfl, hB⟩
          · have c11 : w.cell? ⟨bs, 11, none⟩ = some (.pointer none) := (h.cell 11).trans rfl
            have hT1 : TeeOk B (bb ++ digCells xs J) (.pointer none) w := .inl rfl
            go_wp2_with (go_at_call 12; refine (advance_any bs g xs.length xs.length J held col read minus zeros _ w hJl (Nat.le_refl _) h).mono ?_; rintro e w2 ⟨rfl, h2, hbw2, hk2⟩; have c8 : w2.cell? ⟨bs, 8, none⟩ = some (.int .i64 read) := (h2.cell 8).trans rfl; have c9 : w2.cell? ⟨bs, 9, none⟩ = some (.bool minus) := (h2.cell 9).trans rfl; have c10 : w2.cell? ⟨bs, 10, none⟩ = some (.int .i64 zeros) := (h2.cell 10).trans rfl; have f8 := h2.free 8; have f9 := h2.free 9; have f10 := h2.free 10)
            go_ret2
            refine .inr ⟨HR.out, rfl, scn_set (scn_set (scn_set h2 8 (.int .i64 (wrap64 (read + 1)))) 9 (.bool false)) 10 (.int .i64 (zfin Z J)), hT1.kept h (fun k hk => ?_), ((Below.refl B w).trans (hbw2.mono hBs)).trans ((((Below.refl B w2).setCell (p := ⟨bs, 8, none⟩) hBs _).setCell (p := ⟨bs, 9, none⟩) hBs _).setCell (p := ⟨bs, 10, none⟩) hBs _)⟩
            refine Eq.trans ?_ (hk2 k hk)
            show (((w2.setCell _ _).setCell _ _).setCell _ _).heap[k]? = _
            simp [World.setCell, Array.getElem?_modify, Ne.symm hk]
          · have c11 : w.cell? ⟨bs, 11, none⟩ = some (.pointer (some ⟨bt, 0, none⟩)) := (h.cell 11).trans rfl
            go_upto_region 13 with fail
            go_cut [5] (fun s5 wx => s5 = .int .i64 J ∧ IsScn wx bs (.slice (some ⟨g, 0, none⟩) xs.length xs.length) held col read minus zeros (.pointer (some ⟨bt, 0, none⟩)) ∧ TeeOk B (bb ++ digCells xs J) (.pointer (some ⟨bt, 0, none⟩)) wx ∧ Below B w wx)
            case first =>
              have hgb : g ≠ bt := by have := hB.1; omega
              have hsrc : ∀ j v, (digCells xs J)[j]? = some v → w.cell? ((⟨g, 0, none⟩ : Addr).add j) = some v := by
                intro j v hv
                have hj : j < J := by
                  have h' := (List.getElem?_eq_some_iff.1 hv).1
                  simp [digCells] at h'
                  omega
                have e : (digCells xs J)[j]? = some (.int .u8 (xs[j]?.getD 0)) := by
                  have hjx : j < xs.length := by omega
                  simp [digCells, hj, hjx]
                rw [e] at hv
                cases hv
                have ha : (⟨g, 0, none⟩ : Addr).add j = ⟨g, j, none⟩ := by simp [Addr.add]; exact Eq.symm
                rw [ha]
                exact hr.cell (by omega)
              have hlenc : (digCells xs J).length = J := by simp [digCells]; omega
              have h1c : ∀ v ∈ digCells xs J, v.oneCell' = true := by
                intro v hv
                obtain ⟨a, _, rfl⟩ := List.mem_map.1 hv
                rfl
              have hc := Ybad.Buffer_Write_at 29 R B bt 0 bb (digCells xs J) ⟨g, 0, none⟩ J xs.length w.drew hB (by have := hB.lt; have := hB.1; show B ≤ w.heap.size; omega) hb1 hlenc hgb hsrc h1c (by omega)
              have hbne : bs ≠ bt := by
                rintro rfl
                obtain ⟨_, v, lr, h3, _⟩ := hB
                have := h3.tag h
                cases this
              clear hgb hsrc hlenc h1c
              go_region_with (go_at_call 6; refine hc.mono ?_; rintro e w1 ⟨rfl, hB1, hbw1, hk1⟩)
              all_goals go_wp2_with fail
              all_goals go_meet
              case rel =>
                refine ⟨rfl, hk1 bs _ h (fun e => hbne (by injection e)) (fun c fz e => by cases e), .inr ⟨bt, R, rfl, hB1⟩, (Below.refl B w).drew.trans hbw1⟩
            case rest =>
              obtain ⟨rfl, h1, hT1, hbw1⟩ := hcut
              go_wp2_with (go_at_call 12; refine (advance_any bs g xs.length xs.length J held col read minus zeros _ wc hJl (Nat.le_refl _) h1).mono ?_; rintro e w2 ⟨rfl, h2, hbw2, hk2⟩; have c8 : w2.cell? ⟨bs, 8, none⟩ = some (.int .i64 read) := (h2.cell 8).trans rfl; have c9 : w2.cell? ⟨bs, 9, none⟩ = some (.bool minus) := (h2.cell 9).trans rfl; have c10 : w2.cell? ⟨bs, 10, none⟩ = some (.int .i64 zeros) := (h2.cell 10).trans rfl; have f8 := h2.free 8; have f9 := h2.free 9; have f10 := h2.free 10)
              go_ret2
              refine .inr ⟨HR.out, rfl, scn_set (scn_set (scn_set h2 8 (.int .i64 (wrap64 (read + 1)))) 9 (.bool false)) 10 (.int .i64 (zfin Z J)), hT1.kept h1 (fun k hk => ?_), (hbw1.trans (hbw2.mono hBs)).trans ((((Below.refl B w2).setCell (p := ⟨bs, 8, none⟩) hBs _).setCell (p := ⟨bs, 9, none⟩) hBs _).setCell (p := ⟨bs, 10, none⟩) hBs _)⟩
              refine Eq.trans ?_ (hk2 k hk)
              show (((w2.setCell _ _).setCell _ _).setCell _ _).heap[k]? = _
              simp [World.setCell, Array.getElem?_modify, Ne.symm hk]
    have h32 : Z J ≠ 32 := fun e => hac (.inl e)
    have h10 : Z J ≠ 10 := fun e => hac (.inr e)
    clear hac
    have HR : Hid (Refused Z xs.length J) := .inr (.inr ⟨h32, h10⟩)
    have b2 : (Z J != 32) = true := by simp [h32]
    have b3 : (Z J != 10) = true := by simp [h10]
    generalize Z J = z at cJ b2 b3
    clear h32 h10
    go_wp2_with fail
    go_ret2
    exact .inl ⟨HR.out, rfl, rfl⟩
end Go.Proofs.YbulkexphwDoor
