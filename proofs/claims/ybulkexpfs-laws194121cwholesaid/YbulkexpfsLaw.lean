/- The law over the callees' contracts. -/
import Derived.Test.YbulkexpfsMed
import Derived.Laws.CopyOwn
import Derived.WalkLawsBesides
import Derived.Deep.QuietTactic
import Derived.BigQuiet
namespace Go.Proofs.Ybulkexpfs
open Go.RowKit Go.Shelf Go.Sort
attribute [local go_sem] run_store_float

theorem size23 : (Yba.prog.info? 23).map (·.size) = some 1 := by kernel_rfl

theorem run_bits (x : Nat) (w : World) : (callFunc 5 #[.float .f64 x]).run Yba.prog w = .ok (.value (.int .u64 x)) w :=
  (run_callFunc_extern Yba.func5 (by kernel_rfl) (by kernel_rfl) (by kernel_rfl) (e := Extern.MathFloatBits.float64bits) (by kernel_rfl) _ _).trans rfl

theorem countP_snoc (p : Nat → Bool) (zs : List Nat) (k : Nat) (h : k < zs.length) : (zs.take (k + 1)).countP p = (zs.take k).countP p + if p (zs[k]?.getD 0) = true then 1 else 0 := by
  rw [List.take_succ_eq_append_getElem h, List.countP_append]
  simp [List.countP_cons, h]

theorem countP_take_le (p : Nat → Bool) (zs : List Nat) (k : Nat) : (zs.take k).countP p ≤ k := Nat.le_trans List.countP_le_length (List.length_take_le _ _)

theorem made_row {w w1 : World} {n : Nat} {xs : List Value} (hown : w1.ownsRow w.heap.size 23 1 (.slice (some ⟨w.heap.size, 0, none⟩) n n) n xs) (hgrow : w.grownBy w1 none) :
    ∃ cur : List Value, w1.heap[w.heap.size]? = some (.cells cur.toArray 23 (0, 0)) ∧ cur.length = n ∧ RowKit.Below w.heap.size w w1 := by
  rcases hown.2 with ⟨h, _⟩ | ⟨g, cap, cur, hv, hb, hc, h1, h2, h3, h4⟩
  · cases h
  · cases hv
    exact ⟨cur.toList, by simpa using hc, by simpa using h3, (Below.refl _ _).grown hgrow (Nat.le_refl _) (fun k e => by cases e)⟩

theorem src_cells {b off : Nat} {zs : List Nat} {cs : List Value} {w w1 : World} (hb : b < w.heap.size) (hcs : cs = zs.map encF) (hI : ∀ j, j < zs.length → w.cell? ⟨b, off + j, none⟩ = some (.float .f64 (zs[j]?.getD 0))) (hbl : RowKit.Below w.heap.size w w1) :
    ∀ j v, cs[j]? = some v → w1.cell? (Addr.add ⟨b, off, none⟩ j) = some v := by
  intro j v hv
  subst hcs
  obtain ⟨hj, e⟩ := List.getElem?_eq_some_iff.1 hv
  have hj' : j < zs.length := by simpa using hj
  have h1 := (hbl.cell (p := ⟨b, off + j, none⟩) hb).trans (hI j hj')
  have e2 : Addr.add ⟨b, off, none⟩ j = ⟨b, off + j, none⟩ := by unfold Addr.add; split <;> simp_all
  rw [e2, h1, ← e]
  simp [hj']

theorem flts_oneCell (zs : List Nat) : ∀ v ∈ zs.map encF, v.oneCell' = true := by
  intro v hv
  obtain ⟨x, _, rfl⟩ := List.mem_map.1 hv
  rfl

theorem copy_run {b off cap : Nat} {zs : List Nat} {cur : List Value} {w w1 : World} (hb : b < w.heap.size) (hcur : w1.heap[w.heap.size]? = some (.cells cur.toArray 23 (0, 0))) (hsz : cur.length = zs.length) (hbl : RowKit.Below w.heap.size w w1)
    (hI : ∀ j, j < zs.length → w.cell? ⟨b, off + j, none⟩ = some (.float .f64 (zs[j]?.getD 0))) :
    ∃ w2, (Builtin.copy_ #[22, 22] 3 #[.slice (some ⟨w.heap.size, 0, none⟩) zs.length zs.length, .slice (some ⟨b, off, none⟩) zs.length cap]).run Yba.prog w1 = .ok (.int .i64 zs.length) w2 ∧
      (∀ j, j < zs.length → w2.cell? ⟨w.heap.size, j, none⟩ = some (.float .f64 (zs[j]?.getD 0))) ∧ RowKit.Below w.heap.size w w2 := by
  have h := run_copy_row (P := Yba.prog) w1 22 22 3 23 w.heap.size 0 zs.length zs.length ⟨b, off, none⟩ zs.length cap cur.toArray 23 (zs.map encF) Yba.underlying22 size23 hcur (by simp) (src_cells hb rfl hI hbl) (by simp; omega) (flts_oneCell zs)
  refine ⟨_, h.trans (by simp [goInt]; rfl), fun j hj => ?_, below_setRow hbl (Nat.le_refl _) _⟩
  have h2 := setRow_heap w1 w.heap.size cur.toArray (zs.map encF ++ cur.drop zs.length).toArray 23 _ hcur
  simp only [World.cell?, h2]
  simp [hj, List.getElem?_append_left]

set_option maxHeartbeats 1000000 in
set_option maxRecDepth 100000 in
theorem law_any (b off cap : Nat) (zs : List Nat) (h0 : 0 < zs.length) (hlen : zs.length ≤ 4096) (w : World) (hb : b < w.heap.size)
    (hI : ∀ j, j < zs.length → w.cell? ⟨b, off + j, none⟩ = some (.float .f64 (zs[j]?.getD 0))) :
    Calls Yba.prog 3 #[.slice (some ⟨b, off, none⟩) zs.length cap] w fun e W' => e = .returned (.bool true) ∧ RowKit.Below w.heap.size w W' := by
  obtain ⟨i0, hi, hz0, hz1, hz2⟩ := info_parts info23
  have t1 : ((zs.length : Int) == 0) = false := by simp; intro h; simp [h] at h0
  obtain ⟨K, hK⟩ : ∃ K : Nat, K = (zs.length - 1) / 2 := ⟨_, rfl⟩
  have eK : ((zs.length : Int) - 1) / 2 = (K : Int) := by omega
  have hKl : K < zs.length := by omega
  have HK : Hid (K = (zs.length - 1) / 2) := hK
  have HI : Hid (∀ j, j < zs.length → w.cell? ⟨b, off + j, none⟩ = some (.float .f64 (zs[j]?.getD 0))) := hI
  clear hI hK
  have hbits := run_bits
  go_enter Yba.func3, Yba.ntmps3
  go_wp2_with (first
    | (at_make; refine wpList_make_full _ rfl _ _ 22 rfl w.heap.size 23 i0 (.float .f64 0) 1 Yba.underlying22 hi hz0 hz1 _ _ _ _ zs.length rfl rfl rfl rfl (by rw [hz2]; omega) (by unfold maxLen; omega) (Nat.le_refl _) ?_; intro w1 hown hgrow; obtain ⟨cur, hcur, hsz, hbl1⟩ := made_row hown hgrow; obtain ⟨w2, hrun, hO2, hb2⟩ := copy_run (cap := cap) hb hcur hsz hbl1 HI.out; have HO : Hid (∀ j, j < zs.length → w2.cell? ⟨w.heap.size, j, none⟩ = some (.float .f64 (zs[j]?.getD 0))) := hO2; clear hO2 hcur hsz hown hgrow))
  have hM := Median_any b off cap zs h0 hlen w2 (Nat.lt_of_lt_of_le hb hb2.size) (fun j hj => (hb2.cell (p := ⟨b, off + j, none⟩) hb).trans (HI.out j hj))
  refine hM.mono ?_
  rintro e w3 ⟨ys, rfl, hp, hs, hb3⟩
  have hl : ys.length = zs.length := hp.length_eq
  have hKy : K < ys.length := by omega
  have eM : ys.toArray[(zs.length - 1) / 2]! = ys[K] := by
    rw [← HK.out, getElem!_pos _ K (by simpa using hKy)]; simp
  rw [eM]
  have hgs : w.heap.size < w2.heap.size := by
    have := HO.out 0 h0
    rcases Nat.lt_or_ge w.heap.size w2.heap.size with h | h
    · exact h
    · simp [World.cell?, Array.getElem?_eq_none h] at this
  obtain ⟨Z, hZ⟩ : ∃ Z : Nat → Nat, ∀ j, Z j = zs[j]?.getD 0 := ⟨fun j => zs[j]?.getD 0, fun _ => rfl⟩
  have HA : Hid (∀ j, j < zs.length → w3.cell? ⟨b, off + j, none⟩ = some (.float .f64 (Z j))) := fun j hj => by
    rw [hZ]; exact (hb3.cell (p := ⟨b, off + j, none⟩) (Nat.lt_of_lt_of_le hb hb2.size)).trans ((hb2.cell (p := ⟨b, off + j, none⟩) hb).trans (HI.out j hj))
  have HB : Hid (∀ j, j < zs.length → w3.cell? ⟨w.heap.size, j, none⟩ = some (.float .f64 (Z j))) := fun j hj => by
    rw [hZ]; exact (hb3.cell (p := ⟨w.heap.size, j, none⟩) hgs).trans (HO.out j hj)
  have hbw : RowKit.Below w.heap.size w w3 := hb2.trans (hb3.mono (by omega))
  have HZ : Hid (∀ j, Z j = zs[j]?.getD 0) := hZ
  have F1 : Hid (K < nans zs ↔ fnan ys[K] = true) := med_nan hp hs hKy
  have F2 : Hid (∀ x, ¬ K < nans zs → fnan x = false → lessN x zs ≤ K - nans zs → K - nans zs < leN x zs → feq ys[K] x = true) := fun x a b c d => med_hit hp hs hKy x a b c d
  have F3 : Hid (¬ K < nans zs → ∃ i, i < zs.length ∧ fnan (Z i) = false ∧ lessN (Z i) zs ≤ K - nans zs ∧ K - nans zs < leN (Z i) zs) := fun hn => by
    obtain ⟨i, hi', h⟩ := med_some hp hs hKy hn
    refine ⟨i, hi', ?_⟩
    rw [hZ]; simpa [hi'] using h
  generalize ys[K] = M at F1 F2 ⊢
  clear hM hrun HO hp hs hl hKy eM HI hZ hb3 hgs hbl1 hi hz0 hz1 hz2 hb2
  go_wp2_with fail
  go_loopw [6] (fun vi wr => ∃ (k n : Nat), vi = .int .i64 k ∧ k ≤ zs.length ∧ wr = w3.drewN n) (fun vi _ => zs.length - (intOf vi).toNat)
  case atStart => exact ⟨0, 0, rfl, Nat.zero_le _, rfl⟩
  case round =>
    obtain ⟨k, n, rfl, hk, hwr⟩ := hrel
    have HW : Hid (wr = w3.drewN n) := hwr
    clear hwr
    by_cases hlt : k < zs.length
    · have ca : wr.cell? ⟨b, off + k, none⟩ = some (.float .f64 (Z k)) := by rw [HW.out]; exact HA.out k hlt
      have cb : wr.cell? ⟨w.heap.size, k, none⟩ = some (.float .f64 (Z k)) := by rw [HW.out]; exact HB.out k hlt
      go_wp2_with fail
      go_quiet (fail)
      go_wp2_with fail
      go_roundw
      case rel => exact ⟨k + 1, n + nq, by go_num, by omega, by rw [HW.out, World.drewN_drewN]⟩
      case measure => simp [intOf]; omega
    · clear hbits
      go_wp2_with fail
      go_loopw [8, 9] (fun vn vi wr => ∃ (k n N : Nat), vn = .int .i64 N ∧ vi = .int .i64 k ∧ k ≤ zs.length ∧ N ≤ k ∧ Hid (N = (zs.take k).countP fnan) ∧ wr = w3.drewN n) (fun _ vi _ => zs.length - (intOf vi).toNat)
      case atStart => exact ⟨0, n, 0, rfl, rfl, Nat.zero_le _, Nat.le_refl _, rfl, HW.out⟩
      case round =>
        clear HW hk hlt
        obtain ⟨k, n, N, rfl, rfl, hk, hNk, HN, hwr⟩ := hrel
        have HW : Hid (wr = w3.drewN n) := hwr
        clear hwr
        by_cases hlt : k < zs.length
        · have cb : wr.cell? ⟨w.heap.size, k, none⟩ = some (.float .f64 (Z k)) := by rw [HW.out]; exact HB.out k hlt
          have HS : Hid ((zs.take (k + 1)).countP fnan = N + if fnan (Z k) = true then 1 else 0) := by
            show _ = _
            rw [countP_snoc _ _ _ hlt, ← HN.out, HZ.out]
          cases hf : fnan (Z k)
          · have HF : Hid (fnan (Z k) = false) := hf
            have hf' : (FloatKind.f64.format.order (Z k) (Z k) != some .eq) = false := hf
            clear hf
            go_wp2_with fail
            go_quiet (fail)
            go_wp2_with fail
            go_roundw
            case rel => exact ⟨k + 1, n + nq, N, rfl, by go_num, by omega, by omega, (show _ = _ by rw [HS.out, HF.out]; simp), by rw [HW.out, World.drewN_drewN]⟩
            case measure => simp [intOf]; omega
          · have HF : Hid (fnan (Z k) = true) := hf
            have hf' : (FloatKind.f64.format.order (Z k) (Z k) != some .eq) = true := hf
            clear hf
            go_wp2_with fail
            go_quiet (fail)
            go_wp2_with fail
            go_roundw
            case rel => exact ⟨k + 1, n + nq, N + 1, by go_num, by go_num, by omega, by omega, (show _ = _ by rw [HS.out, HF.out]; simp), by rw [HW.out, World.drewN_drewN]⟩
            case measure => simp [intOf]; omega
        · have HN2 : Hid (N = nans zs) := by
            show _ = _
            rw [HN.out, List.take_of_length_le (by omega)]; rfl
          by_cases hKN : K < N
          · have hKN' : (K : Int) < (N : Int) := by omega
            have HF : Hid (fnan M = true) := F1.out.1 (by rw [← HN2.out]; exact hKN)
            go_wp2_with fail
            go_ret
            exact ⟨congrArg (fun x => Ending.returned (.bool x)) HF.out, by rw [HW.out]; exact below_drewN hbw _⟩
          · have hKN' : ¬ (K : Int) < (N : Int) := by omega
            have HB4 : Hid (∀ j, j < zs.length → wr.cell? ⟨w.heap.size, j, none⟩ = some (.float .f64 (Z j))) := fun j hj => by rw [HW.out]; exact HB.out j hj
            have hbw4 : RowKit.Below w.heap.size w wr := by rw [HW.out]; exact below_drewN hbw _
            have G2 : Hid (∀ x, fnan x = false → lessN x zs ≤ K - N → K - N < leN x zs → feq M x = true) := fun x h1 h2 h3 => F2.out x (by rw [← HN2.out]; exact hKN) h1 (by rw [← HN2.out]; exact h2) (by rw [← HN2.out]; exact h3)
            have G3 : Hid (∃ i, i < zs.length ∧ fnan (Z i) = false ∧ lessN (Z i) zs ≤ K - N ∧ K - N < leN (Z i) zs) := by
              have := F3.out (by rw [← HN2.out]; exact hKN)
              rwa [← HN2.out] at this
            clear F1 F2 F3 HA HB hbw HN HN2 HW
            go_wp2_with fail
            clear hk hlt
            go_loopw [11] (fun vi w5 => ∃ k : Nat, vi = .int .i64 k ∧ k ≤ zs.length ∧ w5 = wr ∧ Hid (∀ i, i < k → ¬ (fnan (Z i) = false ∧ lessN (Z i) zs ≤ K - N ∧ K - N < leN (Z i) zs))) (fun vi _ => zs.length - (intOf vi).toNat)
            case atStart => exact ⟨0, rfl, Nat.zero_le _, rfl, fun i hi => absurd hi (Nat.not_lt_zero _)⟩
            case round =>
              obtain ⟨k, rfl, hk, rfl, HR⟩ := hrel
              by_cases hlt : k < zs.length
              · have cb : wr.cell? ⟨w.heap.size, k, none⟩ = some (.float .f64 (Z k)) := HB4.out k hlt
                cases hf : fnan (Z k)
                · have HF : Hid (fnan (Z k) = false) := hf
                  have hf' : (FloatKind.f64.format.order (Z k) (Z k) != some .eq) = false := hf
                  clear hf
                  go_wp2_with fail
                  go_loopw [13, 14, 15] (fun vl ve vj w5 => ∃ (j L E : Nat), vl = .int .i64 L ∧ ve = .int .i64 E ∧ vj = .int .i64 j ∧ j ≤ zs.length ∧ L ≤ j ∧ E ≤ j ∧ w5 = wr ∧ Hid (L = (zs.take j).countP (fun y => flt y (Z k))) ∧ Hid (E = (zs.take j).countP (fun y => fle y (Z k)))) (fun _ _ vj _ => zs.length - (intOf vj).toNat)
                  case atStart => exact ⟨0, 0, 0, rfl, rfl, rfl, Nat.zero_le _, Nat.le_refl _, Nat.le_refl _, rfl, rfl, rfl⟩
                  case round =>
                    obtain ⟨j, L, E, rfl, rfl, rfl, hj, hLj, hEj, rfl, HL, HE⟩ := hrel
                    by_cases hjlt : j < zs.length
                    · have cj : wr.cell? ⟨w.heap.size, j, none⟩ = some (.float .f64 (Z j)) := HB4.out j hjlt
                      have HL2 : Hid ((zs.take (j + 1)).countP (fun y => flt y (Z k)) = L + if flt (Z j) (Z k) = true then 1 else 0) := by
                        show _ = _
                        rw [countP_snoc _ _ _ hjlt, ← HL.out, HZ.out j]
                      have HE2 : Hid ((zs.take (j + 1)).countP (fun y => fle y (Z k)) = E + if fle (Z j) (Z k) = true then 1 else 0) := by
                        show _ = _
                        rw [countP_snoc _ _ _ hjlt, ← HE.out, HZ.out j]
                      clear hf'
                      cases hn : fnan (Z j)
                      · have hn' : (FloatKind.f64.format.order (Z j) (Z j) != some .eq) = false := hn
                        clear hn
                        cases h1 : flt (Z j) (Z k)
                        · cases h3 : feq (Z j) (Z k)
                          · have H1 : Hid (_ = _) := h1
                            have H2 : Hid (fle (Z j) (Z k) = false) := (by rw [fle_eq, h1, h3]; rfl)
                            unfold flt at h1
                            unfold feq at h3
                            go_wp2_with fail
                            go_roundw
                            case rel => exact ⟨j + 1, L, E, by go_num, by go_num, by go_num, by omega, by omega, by omega, by trivial, (show _ = _ by rw [HL2.out, H1.out]; simp), (show _ = _ by rw [HE2.out, H2.out]; simp)⟩
                            case measure => simp [intOf]; omega
                          · have H1 : Hid (_ = _) := h1
                            have H2 : Hid (fle (Z j) (Z k) = true) := (by rw [fle_eq, h1, h3]; rfl)
                            unfold flt at h1
                            unfold feq at h3
                            go_wp2_with fail
                            go_roundw
                            case rel => exact ⟨j + 1, L, E + 1, by go_num, by go_num, by go_num, by omega, by omega, by omega, by trivial, (show _ = _ by rw [HL2.out, H1.out]; simp), (show _ = _ by rw [HE2.out, H2.out]; simp)⟩
                            case measure => simp [intOf]; omega
                        · have H1 : Hid (_ = _) := h1
                          have H2 : Hid (fle (Z j) (Z k) = true) := (by rw [fle_eq, h1]; rfl)
                          unfold flt at h1
                          go_wp2_with fail
                          go_roundw
                          case rel => exact ⟨j + 1, L + 1, E + 1, by go_num, by go_num, by go_num, by omega, by omega, by omega, by trivial, (show _ = _ by rw [HL2.out, H1.out]; simp), (show _ = _ by rw [HE2.out, H2.out]; simp)⟩
                          case measure => simp [intOf]; omega
                      · have hn' : (FloatKind.f64.format.order (Z j) (Z j) != some .eq) = true := hn
                        have H1 : Hid (flt (Z j) (Z k) = false) := nan_flt (Z k) (Z j) hn
                        have H2 : Hid (fle (Z j) (Z k) = false) := nan_fle (Z k) (Z j) hn
                        clear hn
                        go_wp2_with fail
                        go_roundw
                        case rel => exact ⟨j + 1, L, E, rfl, rfl, by go_num, by omega, by omega, by omega, by trivial, (show _ = _ by rw [HL2.out, H1.out]; simp), (show _ = _ by rw [HE2.out, H2.out]; simp)⟩
                        case measure => simp [intOf]; omega
                    · have HL3 : Hid (L = lessN (Z k) zs) := by
                        show _ = _
                        rw [HL.out, List.take_of_length_le (by omega)]; rfl
                      have HE3 : Hid (E = leN (Z k) zs) := by
                        show _ = _
                        rw [HE.out, List.take_of_length_le (by omega)]; rfl
                      clear HL HE hf'
                      by_cases g1 : (L : Int) ≤ (K : Int) - (N : Int)
                      · by_cases g2 : (K : Int) - (N : Int) < (E : Int)
                        · have HT : Hid (feq M (Z k) = true) := G2.out (Z k) HF.out (by rw [← HL3.out]; omega) (by rw [← HE3.out]; omega)
                          go_wp2_with fail
                          go_ret
                          exact ⟨congrArg (fun x => Ending.returned (.bool x)) HT.out, hbw4⟩
                        · have g2' : decide ((K : Int) - (N : Int) < (E : Int)) = false := decide_eq_false g2
                          go_wp2_with fail
                          go_roundw
                          case rel => exact ⟨k + 1, by go_num, by omega, by trivial, fun i hi => by
                            rcases Nat.lt_succ_iff_lt_or_eq.1 hi with h | rfl
                            · exact HR.out i h
                            · rintro ⟨_, _, h3⟩; rw [← HE3.out] at h3; omega⟩
                          case measure => simp [intOf]; omega
                      · have g1' : decide ((L : Int) ≤ (K : Int) - (N : Int)) = false := decide_eq_false g1
                        go_wp2_with fail
                        go_roundw
                        case rel => exact ⟨k + 1, by go_num, by omega, by trivial, fun i hi => by
                          rcases Nat.lt_succ_iff_lt_or_eq.1 hi with h | rfl
                          · exact HR.out i h
                          · rintro ⟨_, h2, _⟩; rw [← HL3.out] at h2; omega⟩
                        case measure => simp [intOf]; omega
                · have HF : Hid (fnan (Z k) = true) := hf
                  have hf' : (FloatKind.f64.format.order (Z k) (Z k) != some .eq) = true := hf
                  clear hf
                  go_wp2_with fail
                  go_roundw
                  case rel => exact ⟨k + 1, by go_num, by omega, by trivial, fun i hi => by
                    rcases Nat.lt_succ_iff_lt_or_eq.1 hi with h | rfl
                    · exact HR.out i h
                    · rintro ⟨h1, _, _⟩; rw [HF.out] at h1; cases h1⟩
                  case measure => simp [intOf]; omega
              · exfalso
                obtain ⟨i, hi, h⟩ := G3.out
                exact HR.out i (by omega) h

set_option maxHeartbeats 1000000 in
theorem law_zero (a : Option Addr) (cap : Nat) (w : World) : Calls Yba.prog 3 #[.slice a 0 cap] w fun e W' => e = .returned (.bool true) ∧ RowKit.Below w.heap.size w W' := by
  go_enter Yba.func3, Yba.ntmps3
  go_wp2
  go_ret
  exact ⟨rfl, Below.refl _ _⟩

set_option maxHeartbeats 1000000 in
theorem law_many (a : Option Addr) (len cap : Nat) (h : 4096 < len) (w : World) : Calls Yba.prog 3 #[.slice a len cap] w fun e W' => e = .returned (.bool true) ∧ RowKit.Below w.heap.size w W' := by
  have t1 : ((len : Int) == 0) = false := by simp; omega
  have t2 : (4096 : Int) < (len : Int) := by omega
  go_enter Yba.func3, Yba.ntmps3
  go_wp2
  go_ret
  exact ⟨rfl, Below.refl _ _⟩

end Go.Proofs.Ybulkexpfs
