/- LawS194126B: noteWriters. -/
import Derived.Test.YbulkexpikA1
namespace Go.Proofs.Ybulkexpik
open Go.RowKit

/-- The stack's row. -/
def Stk (D : Dat) (gp gs j : Nat) (W : World) : Prop :=
  ∃ cur, W.heap[gs]? = some (.cells cur 40 (0, 0)) ∧ cur.size = D.m * 3 ∧ ∀ i, i < j → cur[i * 3]? = some (ifc gp (D.Fp i)) ∧ cur[i * 3 + 1]? = some (.bool (D.Fz i)) ∧ cur[i * 3 + 2]? = some (.bool (D.Fs i))
theorem Stk.get {D : Dat} {gp gs j : Nat} {W : World} (h : Stk D gp gs j W) {i : Nat} (hi : i < j) :
    W.cell? ⟨gs, i * 3, none⟩ = some (ifc gp (D.Fp i)) ∧ W.cell? ⟨gs, i * 3 + 1, none⟩ = some (.bool (D.Fz i)) ∧ W.cell? ⟨gs, i * 3 + 2, none⟩ = some (.bool (D.Fs i)) := by
  obtain ⟨cur, hc, _, hr⟩ := h
  have e : ∀ i, W.cell? ⟨gs, i, none⟩ = cur[i]? := fun i => by simp [World.cell?, hc]
  obtain ⟨h1, h2, h3⟩ := hr i hi
  exact ⟨(e _).trans h1, (e _).trans h2, (e _).trans h3⟩
theorem Stk.kt {D : Dat} {gp gs j : Nat} {W W' : World} {ts : List TypeId} (h : Stk D gp gs j W) (hk : Kt ts W W') (ht : 40 ∉ ts) : Stk D gp gs j W' := by
  obtain ⟨cur, hc, hr⟩ := h
  exact ⟨cur, hk _ _ _ _ ht hc, hr⟩

set_option maxHeartbeats 1000000 in
set_option maxRecDepth 100000 in
theorem notes_any (D : Dat) (gp gw gs B : Nat) (noted : Bool) (s0 : St) (W : World) (vL vH : Value) (h : NW D gp gw B (.slice (some ⟨gs, 0, none⟩) D.m D.m) noted s0 W vL vH) (hS : Stk D gp gs D.m W) (hF : ∀ i, i < D.m → D.Fp i < D.n) (hm : D.m ≤ 65536) (hon : s0.on.length ≤ 65536) (hch : s0.ch.length ≤ 65536) (hB : B ≤ W.heap.size) (hgB : B ≤ gp) (hgw : B ≤ gw) :
    Calls Yba.prog 4 #[.pointer (some ⟨gw, 0, none⟩)] W fun e w' => e = .returned (.tuple #[]) ∧ (∃ vL' vH', NW D gp gw B (.slice (some ⟨gs, 0, none⟩) D.m D.m) true (run D D.m s0) w' vL' vH') ∧ Kt [33, 38, 62] W w' ∧ Below B W w' := by
  obtain ⟨c16, c31, c44, c45, c48, c100, c101, cf⟩ := h.wrt.get
  have f16 := cf 16
  clear c44 c45 c48 c100 c101 cf
  obtain ⟨cw, hcw⟩ : ∃ cw, W.heap[gw]? = some (.cells cw 62 (0, 0)) := by obtain ⟨cur, hc, _⟩ := h.wrt; exact ⟨cur, hc⟩
  have h1 := h.noted
  have hk1 : Kt [33, 38, 62] W (W.setCell ⟨gw, 16, none⟩ (.bool true)) := (Kt.refl _ W).set hcw (by decide) _
  have hb1 : Below B W (W.setCell ⟨gw, 16, none⟩ (.bool true)) := (Below.refl B W).setCell hgw _
  obtain ⟨fin, hfin⟩ : ∃ fin, fin = run D D.m s0 := ⟨_, rfl⟩
  rw [← hfin]
  have HR : Hid (run D D.m s0 = fin) := hfin.symm
  clear hfin hcw
  go_enter Yba.func4, Yba.ntmps4
  go_wp2_with fail
  go_loopg [2] D.m (fun gh v2 wr => ∃ (k : Nat) (s : St) (vL' vH' : Value), k ≤ D.m ∧ gh = k ∧ v2 = .int .i64 ((k : Int) - 1) ∧ Hid (run D k s = fin) ∧ NW D gp gw B (.slice (some ⟨gs, 0, none⟩) D.m D.m) true s wr vL' vH' ∧ Kt [33, 38, 62] W wr ∧ Below B W wr ∧ s.on.length + k ≤ 65536 + D.m ∧ s.ch.length + k ≤ 65536 + D.m)
  case atStart => exact ⟨D.m, s0, vL, vH, Nat.le_refl _, rfl, rfl, HR, h1, hk1, hb1, by omega, by omega⟩
  case round =>
    obtain ⟨k, s, vL', vH', hk, hgh, hv2, HF, hN, hkt, hbw, hl1, hl2⟩ := hrel
    obtain rfl := hgh.symm
    cases k with
    | zero =>
      rw [show (((0 : Nat) : Int) - 1) = -1 from rfl] at hv2
      subst hv2
      have e : s = fin := HF.out
      subst e
      clear h1 hk1 hb1 h
      go_wp2_with fail
      go_end0
      exact ⟨rfl, ⟨vL', vH', hN⟩, hkt, hbw⟩
    | succ i =>
      rw [show (((i + 1 : Nat) : Int) - 1) = i by omega] at hv2
      subst hv2
      obtain ⟨x0, x1, x2⟩ := (hS.kt hkt (by decide)).get (i := i) (by omega)
      obtain ⟨d16, d31, d44, d45, d48, d100, d101, df⟩ := hN.wrt.get
      have hcall := note_any D gp gw B i (.slice (some ⟨gs, 0, none⟩) D.m D.m) s _ vL' vH' hN (hF i (by omega)) (by omega) (by omega) (Nat.le_trans hB hbw.size) hgB hgw
      have hz : (i : Int) < (D.m : Int) := by omega
      clear h1 hk1 hb1 h c16 c31 d16 d44 d45 d48 d100 d101 df
      go_wp2_with (go_at_call 5; refine hcall.mono ?_; rintro e w1 (⟨hs, rfl, hN1, hk1, hb1⟩ | ⟨hs, rfl, ⟨vL1, vH1, hN1⟩, hk1, hb1⟩))
      · go_end0
        exact ⟨rfl, ⟨vL', vH', by rw [← HF.out, run_stop hs]; exact hN1⟩, hkt.trans hk1, hbw.trans hb1⟩
      · have l1 : (step D i s).on.length ≤ s.on.length + 1 := addIf_len _ _ _
        have l2 : (step D i s).ch.length ≤ s.ch.length + 1 := addIf_len _ _ _
        go_roundg i
        case measure => omega
        case rel => exact ⟨i, step D i s, vL1, vH1, by omega, rfl, rfl, by show _ = _; rw [← run_step hs]; exact HF.out, hN1, hkt.trans hk1, hbw.trans hb1, by omega, by omega⟩
end Go.Proofs.Ybulkexpik
