/- LawS194126B: the law itself. -/
import Derived.Test.YbulkexpikA2d
namespace Go.Proofs.Ybulkexpik
open Go.RowKit

/-- The pieces' data, in memory. -/
def Spc (n ab ao : Nat) (S N : Nat → Int) (Bd : Nat → Bool) (W : World) : Prop :=
  ∀ k, k < n → W.cell? ⟨ab, ao + k * 3, none⟩ = some (.int .i64 (S k)) ∧ W.cell? ⟨ab, ao + k * 3 + 1, none⟩ = some (.int .i64 (N k)) ∧ W.cell? ⟨ab, ao + k * 3 + 2, none⟩ = some (.bool (Bd k))
theorem Spc.below {n ab ao B : Nat} {S N : Nat → Int} {Bd : Nat → Bool} {W W' : World} (h : Spc n ab ao S N Bd W) (hb : Below B W W') (hl : ab < B) : Spc n ab ao S N Bd W' := fun k hk => by
  obtain ⟨h1, h2, h3⟩ := h k hk
  exact ⟨(hb.cell hl).trans h1, (hb.cell hl).trans h2, (hb.cell hl).trans h3⟩
/-- The frames' data. -/
def Frm (m : Nat) (a : Option Addr) (C : Nat) (Z : Nat → Int) (Fz Fs : Nat → Bool) (W : World) : Prop :=
  ∀ i, i < m → ∃ ab ao, a = some ⟨ab, ao, none⟩ ∧ ab < C ∧ W.cell? ⟨ab, ao + i * 3, none⟩ = some (.int .u8 (Z i)) ∧ W.cell? ⟨ab, ao + i * 3 + 1, none⟩ = some (.bool (Fz i)) ∧ W.cell? ⟨ab, ao + i * 3 + 2, none⟩ = some (.bool (Fs i))
theorem Frm.below {m C B : Nat} {a : Option Addr} {Z : Nat → Int} {Fz Fs : Nat → Bool} {W W' : World} (h : Frm m a C Z Fz Fs W) (hb : Below B W W') (hC : C ≤ B) : Frm m a C Z Fz Fs W' := fun i hi => by
  obtain ⟨ab, ao, e, hl, h1, h2, h3⟩ := h i hi
  have hl' := Nat.lt_of_lt_of_le hl hC
  exact ⟨ab, ao, e, hl, (hb.cell hl').trans h1, (hb.cell hl').trans h2, (hb.cell hl').trans h3⟩
/-- A slice of bytes that came in. -/
def Byt (m : Nat) (a : Option Addr) (C : Nat) (Z : Nat → Int) (W : World) : Prop :=
  ∀ i, i < m → ∃ ab ao, a = some ⟨ab, ao, none⟩ ∧ ab < C ∧ W.cell? ⟨ab, ao + i, none⟩ = some (.int .u8 (Z i))
theorem Byt.below {m C B : Nat} {a : Option Addr} {Z : Nat → Int} {W W' : World} (h : Byt m a C Z W) (hb : Below B W W') (hC : C ≤ B) : Byt m a C Z W' := fun i hi => by
  obtain ⟨ab, ao, e, hl, h1⟩ := h i hi
  exact ⟨ab, ao, e, hl, (hb.cell (Nat.lt_of_lt_of_le hl hC)).trans h1⟩

/-- Block g is a row with tag t and n cells. -/
def Row (g t n : Nat) (W : World) : Prop := ∃ cur, W.heap[g]? = some (.cells cur t (0, 0)) ∧ cur.size = n
theorem made_row {w w1 : World} {base e size n : Nat} {z : Value} (hown : w1.ownsRow base e size (.slice (some ⟨w.heap.size, 0, none⟩) n n) n (madeCells z.cells (n * size)).toList) : Row w.heap.size e (n * size) w1 := by
  rcases hown.2 with ⟨h, _⟩ | ⟨g, cap, cur, hv, _, hc, _, _, h3, _⟩
  · cases h
  · cases hv
    exact ⟨cur, hc, h3⟩
theorem info28 : (Yba.prog.info? 28).map (fun i => (i.zero, i.size, i.bytes)) = some (some (.pointer none), 1, 8) := by kernel_rfl
theorem info40 : (Yba.prog.info? 40).map (fun i => (i.zero, i.size, i.bytes)) = some (some (.agg #[.nilIface, .bool false, .bool false]), 3, 24) := by kernel_rfl
theorem info3 : (Yba.prog.info? 3).map (fun i => (i.zero, i.size, i.bytes)) = some (some (.int .i64 0), 1, 8) := by kernel_rfl

/-- The pointers' row: the first j are set. -/
def Ptr (n gr gp j : Nat) (W : World) : Prop := ∃ cur, W.heap[gr]? = some (.cells cur 28 (0, 0)) ∧ cur.size = n ∧ ∀ i, i < j → cur[i]? = some (.pointer (some ⟨gp + 1 + i, 0, none⟩))
theorem Ptr.get {n gr gp j : Nat} {W : World} (h : Ptr n gr gp j W) {i : Nat} (hi : i < j) : W.cell? ⟨gr, i, none⟩ = some (.pointer (some ⟨gp + 1 + i, 0, none⟩)) := by
  obtain ⟨cur, hc, _, hr⟩ := h
  rw [← hr i hi]
  simp [World.cell?, hc]
theorem Ptr.kt {n gr gp j : Nat} {W W' : World} {ts : List TypeId} (h : Ptr n gr gp j W) (hk : Kt ts W W') (ht : 28 ∉ ts) : Ptr n gr gp j W' := by
  obtain ⟨cur, hc, hr⟩ := h
  exact ⟨cur, hk _ _ _ _ ht hc, hr⟩
theorem Pcs.kt {D : Dat} {gp : Nat} {seen : Nat → Int} {W W' : World} {ts : List TypeId} (h : Pcs D gp seen W) (hk : Kt ts W W') (ht : 33 ∉ ts) : Pcs D gp seen W' := fun k hk' => hk _ _ _ _ ht (h k hk')

/-- The round of loop 1: a piece is made and its pointer stored. -/
theorem ptr_step {n gr gp k : Nat} {W : World} {o : Obj} (h : Ptr n gr gp k W) (hk : k < n) (hs : W.heap.size = gp + 1 + k) : Ptr n gr gp (k + 1) ((W.setCell ⟨gr, k, none⟩ (.pointer (some ⟨W.heap.size, 0, none⟩))).alloc o) := by
  obtain ⟨cur, hc, hz, hr⟩ := h
  refine ⟨_, (Below.heap_alloc _ o gr (by rw [size_set]; exact lt_of_block hc)).trans (heap_set_same hc), by simp [hz], fun i hi => ?_⟩
  by_cases e : i = k
  · subst e
    rw [set_get (by omega), hs]
  · rw [set_other (fun e' => e e'.symm)]
    exact hr i (by omega)

/-- The first k pieces. -/
def Pck (N S : Nat → Int) (Bd : Nat → Bool) (gp k : Nat) (W : World) : Prop := ∀ j, j < k → W.heap[gp + 1 + j]? = some (.cells #[.int .i64 0, .int .i64 (S j), .int .i64 0, .bool (Bd j), .int .i64 0, .int .i64 (N j)] 33 (0, 0))

theorem pck_step {N S : Nat → Int} {Bd : Nat → Bool} {n gr gp k : Nat} {W : World} {v : Value} (h : Pck N S Bd gp k W) (hP : Ptr n gr gp k W) (hs : W.heap.size = gp + 1 + k) : Pck N S Bd gp (k + 1) ((W.setCell ⟨gr, k, none⟩ v).alloc (.cells #[.int .i64 0, .int .i64 (S k), .int .i64 0, .bool (Bd k), .int .i64 0, .int .i64 (N k)] 33)) := fun j hj => by
  by_cases e : j = k
  · subst e
    have := heap_new (W.setCell ⟨gr, j, none⟩ v) (.cells #[.int .i64 0, .int .i64 (S j), .int .i64 0, .bool (Bd j), .int .i64 0, .int .i64 (N j)] 33)
    rw [size_set, hs] at this
    exact this
  · have hq := h j (by omega)
    refine (Below.heap_alloc _ _ _ (by rw [size_set]; exact lt_of_block hq)).trans ((Below.heap_setCell _ _ _ _ (fun e' => ?_)).trans hq)
    simp only at e'
    obtain ⟨cur, hc, _⟩ := hP
    rw [e', hc] at hq
    cases hq

theorem stk_step {D : Dat} {gp gs i : Nat} {W A B : World} {v1 v2 v3 : Value} (h : Stk D gp gs i W) (hi : i < D.m) (e1 : v1 = ifc gp (D.Fp i)) (e2 : v2 = .bool (D.Fz i)) (e3 : v3 = .bool (D.Fs i)) (hk : Kt [40] A W) (hB : Below gs B W) :
    Stk D gp gs (i + 1) ((((W.setCell ⟨gs, i * 3, none⟩ v1).setCell ⟨gs, i * 3 + 1, none⟩ v2).setCell ⟨gs, i * 3 + 2, none⟩ v3)).drew ∧ Kt [40] A ((((W.setCell ⟨gs, i * 3, none⟩ v1).setCell ⟨gs, i * 3 + 1, none⟩ v2).setCell ⟨gs, i * 3 + 2, none⟩ v3)).drew ∧ Below gs B ((((W.setCell ⟨gs, i * 3, none⟩ v1).setCell ⟨gs, i * 3 + 1, none⟩ v2).setCell ⟨gs, i * 3 + 2, none⟩ v3)).drew := by
  subst e1 e2 e3
  obtain ⟨cur, hc, hz, hr⟩ := h
  have h1 := heap_set_same (i := i * 3) (u := ifc gp (D.Fp i)) hc
  have h2 := heap_set_same (i := i * 3 + 1) (u := .bool (D.Fz i)) h1
  have h3 := heap_set_same (i := i * 3 + 2) (u := .bool (D.Fs i)) h2
  refine ⟨⟨_, h3, by simp [hz], fun j hj => ?_⟩, (((hk.set hc (by decide) _).set h1 (by decide) _).set h2 (by decide) _).drew, (((hB.setCell (p := ⟨gs, i * 3, none⟩) (Nat.le_refl _) _).setCell (p := ⟨gs, i * 3 + 1, none⟩) (Nat.le_refl _) _).setCell (p := ⟨gs, i * 3 + 2, none⟩) (Nat.le_refl _) _).drew⟩
  by_cases e : j = i
  · subst e
    refine ⟨?_, ?_, ?_⟩
    · rw [set_other (by omega), set_other (by omega), set_get (by omega)]
    · rw [set_other (by omega), set_get (by simp; omega)]
    · rw [set_get (by simp; omega)]
  · obtain ⟨q1, q2, q3⟩ := hr j (by omega)
    refine ⟨?_, ?_, ?_⟩
    · rw [set_other (by omega), set_other (by omega), set_other (by omega)]; exact q1
    · rw [set_other (by omega), set_other (by omega), set_other (by omega)]; exact q2
    · rw [set_other (by omega), set_other (by omega), set_other (by omega)]; exact q3

attribute [local go_sem] run_neq_ifc

set_option maxHeartbeats 8000000 in
set_option maxRecDepth 100000 in
theorem law_any (a1 a2 a3 a4 : Option Addr) (n0 m lo lc c1 c2 c3 c4 : Nat) (S0 N0 Z ZO ZC : Nat → Int) (Bd0 Fz Fs : Nat → Bool) (stamp : Int) (signing lineNoted lineChosen : Bool) (w : World)
    (h1 : ∀ k, k < n0 → ∃ ab ao, a1 = some ⟨ab, ao, none⟩ ∧ ab < w.heap.size ∧ w.cell? ⟨ab, ao + k * 3, none⟩ = some (.int .i64 (S0 k)) ∧ w.cell? ⟨ab, ao + k * 3 + 1, none⟩ = some (.int .i64 (N0 k)) ∧ w.cell? ⟨ab, ao + k * 3 + 2, none⟩ = some (.bool (Bd0 k)))
    (h2 : Frm m a2 w.heap.size Z Fz Fs w) (h3 : Byt lo a3 w.heap.size ZO w) (h4 : Byt lc a4 w.heap.size ZC w) (hZ : ∀ i, 0 ≤ Z i ∧ Z i ≤ 255) (hZO : ∀ i, 0 ≤ ZO i ∧ ZO i ≤ 255) (hZC : ∀ i, 0 ≤ ZC i ∧ ZC i ≤ 255) :
    Calls Yba.prog 3 #[.slice a1 n0 c1, .slice a2 m c2, .slice a3 lo c3, .slice a4 lc c4, .int .i64 stamp, .bool signing, .bool lineNoted, .bool lineChosen] w fun e w' => e = .returned (.bool true) ∧ Below w.heap.size w w' := by
  by_cases g1 : n0 ≤ 65536
  rotate_left
  · have g1' : (n0 : Int) > 65536 := by omega
    go_enter Yba.func3, Yba.ntmps3
    go_wp2_with fail
    go_ret
    exact ⟨rfl, Below.refl _ _⟩
  have g1' : ¬ (n0 : Int) > 65536 := by omega
  by_cases g2 : m ≤ 65536
  rotate_left
  · have g2' : (m : Int) > 65536 := by omega
    go_enter Yba.func3, Yba.ntmps3
    go_wp2_with fail
    go_ret
    exact ⟨rfl, Below.refl _ _⟩
  have g2' : ¬ (m : Int) > 65536 := by omega
  by_cases g3 : lo ≤ 65536
  rotate_left
  · have g3' : (lo : Int) > 65536 := by omega
    go_enter Yba.func3, Yba.ntmps3
    go_wp2_with fail
    go_ret
    exact ⟨rfl, Below.refl _ _⟩
  have g3' : ¬ (lo : Int) > 65536 := by omega
  by_cases g4 : lc ≤ 65536
  rotate_left
  · have g4' : (lc : Int) > 65536 := by omega
    go_enter Yba.func3, Yba.ntmps3
    go_wp2_with fail
    go_ret
    exact ⟨rfl, Below.refl _ _⟩
  have g4' : ¬ (lc : Int) > 65536 := by omega
  go_enter Yba.func3, Yba.ntmps3
  go_upto_if 65 with fail
  go_cut [17] from 65 to 67 (fun s17 wx => ∃ (n ab ao c : Nat) (S N : Nat → Int) (Bd : Nat → Bool), s17 = .slice (some ⟨ab, ao, none⟩) n c ∧ 0 < n ∧ n ≤ 65536 ∧ ab < wx.heap.size ∧ Spc n ab ao S N Bd wx ∧ Below w.heap.size w wx)
  case first => as_aux_lemma =>
    by_cases hn0 : n0 = 0
    · have b1 : ((n0 : Int) == 0) = true := by simp [hn0]
      clear hn0
      go_wp2_with fail
      go_meet
      case rel =>
        refine ⟨1, w.heap.size, 0, 1, fun _ => 0, fun _ => 0, fun _ => false, rfl, by omega, by omega, ?_, fun k hk => ?_, (Below.refl _ _).alloc (Nat.le_refl _) _⟩
        · show w.heap.size < (w.heap.push _).size; simp
        · obtain rfl : k = 0 := by omega
          have e : ∀ o : Obj, (w.alloc o).heap[w.heap.size]? = some o := fun o => by show (w.heap.push o)[w.heap.size]? = _; simp
          exact ⟨(cell_at (e _) _).trans rfl, (cell_at (e _) _).trans rfl, (cell_at (e _) _).trans rfl⟩
    · have b1 : ((n0 : Int) == 0) = false := by simp; omega
      obtain ⟨ab, ao, rfl, hab, _⟩ := h1 0 (by omega)
      have H1 : Spc n0 ab ao S0 N0 Bd0 w := fun k hk => by
        obtain ⟨ab', ao', e, _, hh⟩ := h1 k hk
        cases e
        exact hh
      have hp : 0 < n0 := by omega
      clear hn0 h1
      go_wp2_with fail
      go_meet
      case rel => exact ⟨n0, ab, ao, c1, S0, N0, Bd0, rfl, hp, g1, hab, H1, Below.refl _ _⟩
  case rest =>
    obtain ⟨n, ab, ao, c, S, N, Bd, rfl, hn, hn6, hab, hsp, hbw⟩ := hcut
    obtain ⟨W0, hW0⟩ : ∃ W : World, W = wc := ⟨_, rfl⟩
    subst hW0
    clear h1
    obtain ⟨i28, hi28, hz28, hs28, hb28⟩ := info_parts info28
    go_upto_block 0 with (at_make; refine wpList_make_full _ rfl _ _ 27 rfl W0.heap.size 28 i28 (.pointer none) 1 Yba.underlying27 hi28 hz28 hs28 _ _ _ _ n rfl rfl rfl rfl (by rw [hb28]; omega) (by unfold maxLen; omega) (Nat.le_refl _) ?_; intro W1 hown hgrow; have hrow := made_row hown; have hbw1 : Below W0.heap.size W0 W1 := (Below.refl _ _).grown hgrow (Nat.le_refl _) (fun k e => by cases e); clear hown hgrow)
    obtain ⟨gp, hgp⟩ : ∃ gp, W1.heap.size = gp + 1 := by
      obtain ⟨cur, hc, _⟩ := hrow
      have := lt_of_block hc
      exact ⟨W1.heap.size - 1, by omega⟩
    have hgr : W0.heap.size ≤ gp := by
      obtain ⟨cur, hc, _⟩ := hrow
      have := lt_of_block hc
      omega
    obtain ⟨gr, hgrE⟩ : ∃ gr, gr = W0.heap.size := ⟨_, rfl⟩
    rw [← hgrE] at hgr hrow hbw1 hab ⊢
    have HG : Hid (gr = W0.heap.size) := hgrE
    clear hgrE hi28 hz28 hs28 hb28
    have hp0 : Ptr n gr gp 0 W1 := by
      obtain ⟨cur, hc, hz⟩ := hrow
      exact ⟨cur, hc, by omega, fun i hi => by omega⟩
    go_cut [20, 21] from 72 to 105 (fun s20 s21 wx => Ptr n gr gp n wx ∧ Pck N S Bd gp n wx ∧ Below gr W0 wx ∧ gp + 1 ≤ wx.heap.size)
    case first => as_aux_lemma =>
      go_wp2_with fail
      go_loopg [20, 21] n (fun gh v20 v21 wr => ∃ k, k ≤ n ∧ gh = n - k ∧ v20 = .int .i64 (k : Nat) ∧ Hid (wr.heap.size = gp + 1 + k) ∧ Ptr n gr gp k wr ∧ Pck N S Bd gp k wr ∧ Below gr W0 wr)
      case atStart => exact ⟨0, Nat.zero_le _, rfl, rfl, hgp, hp0, fun j hj => by omega, hbw1⟩
      case round =>
        obtain ⟨k, hk, rfl, rfl, HZ, hP, hK, hB⟩ := hrel
        by_cases hlt : k < n
        · have hz : (k : Int) < (n : Int) := by omega
          have hpp : ∃ old, wr.cell? ⟨gr, k, none⟩ = some old ∧ wr.frozen? ⟨gr, k, none⟩ = false ∧ gr < wr.heap.size := by
            obtain ⟨cur, hc, hsz, _⟩ := hP
            have : k < cur.size := by omega
            exact ⟨cur[k], by rw [cell_at hc, Array.getElem?_eq_getElem this], by simp [World.frozen?, hc], lt_of_block hc⟩
          obtain ⟨old, q1, q2, q3⟩ := hpp
          have hsr := hsp.below hB hab
          obtain ⟨s1, s2, s3⟩ := hsr k hlt
          have hab2 : ab < wr.heap.size := by have := hab; omega
          have e1 : ∀ o : Obj, (wr.alloc o).cell? ⟨ab, ao + k * 3, none⟩ = some (.int .i64 (S k)) := fun o => (World.cell?_alloc_past _ _ _ hab2).trans s1
          have e2 : ∀ o : Obj, (wr.alloc o).cell? ⟨ab, ao + k * 3 + 2, none⟩ = some (.bool (Bd k)) := fun o => (World.cell?_alloc_past _ _ _ hab2).trans s3
          have e3 : ∀ o : Obj, (wr.alloc o).cell? ⟨gr, k, none⟩ = some old := fun o => (World.cell?_alloc_past _ _ _ q3).trans q1
          have e4 : ∀ o : Obj, (wr.alloc o).frozen? ⟨gr, k, none⟩ = false := fun o => (World.frozen?_alloc_past _ _ _ q3).trans q2
          clear hp0 hbw1 hrow hgp
          go_wp2_with fail
          go_roundg (n - (k + 1))
          case measure => omega
          case rel => exact ⟨k + 1, by omega, rfl, by go_num, by show _ = _; rw [size_alloc, size_set, HZ.out]; omega, ptr_step hP hlt HZ.out, pck_step hK hP HZ.out, (hB.setCell (p := ⟨gr, k, none⟩) (Nat.le_refl _) _).alloc (by rw [size_set]; exact Nat.le_of_lt q3) _⟩
        · go_wp2_with fail
          go_meet
          case rel =>
            obtain rfl : k = n := by omega
            exact ⟨hP, hK, hB, by have := HZ.out; omega⟩
    case rest =>
      obtain ⟨hP1, hK1, hB1, hs1⟩ := hcut
      obtain ⟨W2, hW2⟩ : ∃ W : World, W = wc := ⟨_, rfl⟩
      subst hW2
      clear hp0 hrow hgp hbw1
      have hsp2 := hsp.below hB1 hab
      have hW02 : Below w.heap.size w W2 := hbw.trans (hB1.mono (by rw [HG.out]; exact hbw.size))
      have hwg : w.heap.size ≤ gr := by rw [HG.out]; exact hbw.size
      have hf2 := h2.below hW02 (Nat.le_refl _)
      have ho2 := h3.below hW02 (Nat.le_refl _)
      have hc2 := h4.below hW02 (Nat.le_refl _)
      clear hsp hbw hB1 h2 h3 h4
      obtain ⟨D, HD⟩ : ∃ D : Dat, Hid (D = ⟨n, m, N, Bd, fun i => (Z i).toNat % n, Fz, Fs, stamp, signing⟩) := ⟨_, rfl⟩
      obtain ⟨i40, hi40, hz40, hs40, hb40⟩ := info_parts info40
      go_upto_block 2 with (at_make; refine wpList_make_full _ rfl _ _ 34 rfl W2.heap.size 40 i40 (.agg #[.nilIface, .bool false, .bool false]) 3 Yba.underlying34 hi40 hz40 hs40 _ _ _ _ m rfl rfl rfl rfl (by rw [hb40]; omega) (by unfold maxLen; omega) (Nat.le_refl _) ?_; intro W3 hown hgrow; have hrow := made_row hown; have hbw3 : Below W2.heap.size W2 W3 := (Below.refl _ _).grown hgrow (Nat.le_refl _) (fun k e => by cases e); clear hown hgrow)
      obtain ⟨gs, hgsE⟩ : ∃ gs, gs = W2.heap.size := ⟨_, rfl⟩
      rw [← hgsE] at hrow hbw3 hs1 ⊢
      have HS : Hid (gs = W2.heap.size) := hgsE
      clear hgsE hi40 hz40 hs40 hb40
      have hst0 : Stk D gp gs 0 W3 := by
        obtain ⟨cur, hc, hz⟩ := hrow
        exact ⟨cur, hc, by rw [HD.out]; exact hz, fun i hi => by omega⟩
      have hP3 := hP1.kt (ts := []) (fun q c T fz _ hq => (hbw3.block q (by rw [HS.out]; exact lt_of_block hq)).trans hq) (by decide)
      have hsp3 := hsp2.below hbw3 (by omega)
      have hf3 := hf2.below hbw3 (by omega)
      have hnz : ((n : Int) == 0) = false := by simp; omega
      go_cut [23, 24] from 109 to 141 (fun s23 s24 wx => Stk D gp gs m wx ∧ Kt [40] W3 wx ∧ Below gs W2 wx)
      case first => as_aux_lemma =>
        go_wp2_with fail
        go_loopg [23, 24] m (fun gh v23 v24 wr => ∃ i, i ≤ m ∧ gh = m - i ∧ v23 = .int .i64 (i : Nat) ∧ Stk D gp gs i wr ∧ Kt [40] W3 wr ∧ Below gs W2 wr)
        case atStart => exact ⟨0, Nat.zero_le _, rfl, rfl, hst0, Kt.refl _ _, hbw3⟩
        case round =>
          obtain ⟨i, hi, rfl, rfl, hst, hkt, hB⟩ := hrel
          by_cases hlt : i < m
          · obtain ⟨fb, fo, rfl, hfb, y1, y2, y3⟩ := (hf2.below hB (by omega)) i hlt
            have hz : (i : Int) < (m : Int) := by omega
            obtain ⟨z0, z9⟩ := hZ i
            obtain ⟨K, HK, hKn, hrem⟩ : ∃ K : Nat, Hid (D.Fp i = K) ∧ K < n ∧ Z i % (n : Int) = (K : Int) := by
              refine ⟨(Z i).toNat % n, by show _ = _; rw [HD.out], Nat.mod_lt _ hn, ?_⟩
              rw [Int.natCast_emod, Int.toNat_of_nonneg z0]
            have HFz : Hid (D.Fz i = Fz i ∧ D.Fs i = Fs i) := by show _ ∧ _; rw [HD.out]; exact ⟨rfl, rfl⟩
            generalize Z i = z at y1 z0 z9 hrem
            have hKz : (K : Int) < (n : Int) := by omega
            have y4 := (hP3.kt hkt (by decide)).get hKn
            obtain ⟨o1, o2, o3, t1, t2, t3, tf⟩ : ∃ o1 o2 o3, wr.cell? ⟨gs, i * 3, none⟩ = some o1 ∧ wr.cell? ⟨gs, i * 3 + 1, none⟩ = some o2 ∧ wr.cell? ⟨gs, i * 3 + 2, none⟩ = some o3 ∧ ∀ j, wr.frozen? ⟨gs, j, none⟩ = false := by
              obtain ⟨cur, hc, hsz, _⟩ := hst
              have hmD : D.m = m := by rw [HD.out]
              rw [hmD] at hsz
              have e1 : i * 3 < cur.size := by omega
              have e2 : i * 3 + 1 < cur.size := by omega
              have e3 : i * 3 + 2 < cur.size := by omega
              exact ⟨cur[i * 3], cur[i * 3 + 1], cur[i * 3 + 2], by rw [cell_at hc, Array.getElem?_eq_getElem e1], by rw [cell_at hc, Array.getElem?_eq_getElem e2], by rw [cell_at hc, Array.getElem?_eq_getElem e3], fun j => by simp [World.frozen?, hc]⟩
            have tf1 := tf (i * 3)
            have tf2 := tf (i * 3 + 1)
            have tf3 := tf (i * 3 + 2)
            clear tf
            go_wp2_with fail
            go_region
            all_goals go_wp2_with fail
            all_goals go_roundg (m - (i + 1))
            all_goals first
              | (case measure => omega)
              | (case rel => exact ⟨i + 1, by omega, rfl, by go_num, stk_step hst (by rw [HD.out]; exact hlt) (by rw [HK.out]) (by rw [HFz.out.1]) (by rw [HFz.out.2]) hkt hB⟩)
          · go_wp2_with fail
            go_meet
            case rel =>
              obtain rfl : i = m := by omega
              exact ⟨hst, hkt, hB⟩
      case rest =>
        obtain ⟨hst, hkt4, hB4⟩ := hcut
        obtain ⟨W4, hW4⟩ : ∃ W : World, W = wc := ⟨_, rfl⟩
        subst hW4
        have hK3 : Kt [40] W2 W4 := Kt.trans (fun q c T fz _ hq => (hbw3.block q (by rw [HS.out]; exact lt_of_block hq)).trans hq) hkt4
        have hP4 := hP1.kt hK3 (by decide)
        have hsp4 := hsp2.below hB4 (by omega)
        have hf4 := hf2.below hB4 (by omega)
        have ho4 := ho2.below hB4 (by omega)
        have hc4 := hc2.below hB4 (by omega)
        have hpc4 : Pcs D gp S W4 := fun k hk => by
          have hDn : D.n = n := by rw [HD.out]
          rw [hDn] at hk
          have := hK3 _ _ _ _ (by decide) (hK1 k hk)
          rw [this]
          simp only [pcell, HD.out]
        have hend4 : Below w.heap.size w W4 := hW02.trans (hB4.mono (by omega))
        have hgr4 : gr ≤ W4.heap.size := by have := hB4.size; have := HS.out; omega
        have hab4 : ab < gr := hab
        clear hst0 hP3 hsp3 hf3 hrow hbw3 hkt4 hP1 hK1 hsp2 hW02 hf2 ho2 hc2 hB4 hK3
        obtain ⟨i3, hi3, hz3, hs3, hb3⟩ := info_parts info3
        obtain ⟨i38, hi38, hz38, hs38, hb38⟩ := info_parts info38
        go_upto_block 4 with (first
          | (at_make; refine wpList_make_own _ rfl _ _ 41 rfl gr 3 i3 (.int .i64 0) 1 Yba.underlying41 hi3 hz3 hs3 _ _ _ lo rfl rfl rfl (by rw [hb3]; omega) (by unfold maxLen; omega) hgr4 ?_; intro W5 hO5 hg5; have hgr5 : gr ≤ W5.heap.size := Nat.le_trans hgr4 hg5.size)
          | (at_make; refine wpList_make_own _ rfl _ _ 42 rfl gr 38 i38 .nilIface 1 Yba.underlying42 hi38 hz38 hs38 _ _ _ lo rfl rfl rfl (by rw [hb38]; omega) (by unfold maxLen; omega) hgr5 ?_; intro W6 hL6 hg6))
        have hO6 : W6.ownsRow gr 3 1 (.slice (some ⟨W4.heap.size, 0, none⟩) 0 lo) 0 [] := row_kept hO5 hg6 (by simp [Value.ownBlock])
        have hK6 : Kt [3, 38] W4 W6 := fun q c T fz _ hq => by
          have hl := lt_of_block hq
          have hl5 := hg5.size
          rw [hg6.block q (by omega) (by simp), hg5.block q hl (by simp)]
          exact hq
        have hB6 : Below gr W4 W6 := ((Below.refl gr W4).grown hg5 hgr4 (fun k e => by cases e)).grown hg6 hgr5 (fun k e => by cases e)
        obtain ⟨fO, HfO⟩ : ∃ fO : Nat → Nat, Hid (fO = fun j => (ZO j).toNat % n) := ⟨_, rfl⟩
        clear hO5 hg5 hg6
        go_cut [25, 26, 27, 28] from 148 to 172 (fun s25 s26 s27 s28 wx => wx.ownsRow gr 3 1 s25 lo (ints (kOf fO lo)) ∧ wx.ownsRow gr 38 1 s26 lo (ifcs gp (kOf fO lo)) ∧ s25.ownBlock ≠ none ∧ s26.ownBlock ≠ none ∧ Kt [3, 38] W4 wx ∧ Below gr W4 wx)
        case first => as_aux_lemma =>
          go_wp2_with fail
          go_loopg [25, 26, 27, 28] lo (fun gh v25 v26 v27 v28 wr => ∃ j, j ≤ lo ∧ gh = lo - j ∧ v27 = .int .i64 (j : Nat) ∧ wr.ownsRow gr 3 1 v25 j (ints (kOf fO j)) ∧ wr.ownsRow gr 38 1 v26 j (ifcs gp (kOf fO j)) ∧ v25.ownBlock ≠ none ∧ v26.ownBlock ≠ none ∧ Kt [3, 38] W4 wr ∧ Below gr W4 wr)
          case atStart => exact ⟨0, Nat.zero_le _, rfl, rfl, hO6, hL6, by simp [Value.ownBlock], by simp [Value.ownBlock], hK6, hB6⟩
          case round =>
            obtain ⟨j, hj, rfl, rfl, hrO, hrL, hsO, hsL, hkt, hB⟩ := hrel
            by_cases hlt : j < lo
            · obtain ⟨fb, fo, rfl, hfb, y1⟩ := (ho4.below hB hwg) j hlt
              have hz : (j : Int) < (lo : Int) := by omega
              obtain ⟨z0, z9⟩ := hZO j
              obtain ⟨K, HK, hKn, hrem⟩ : ∃ K : Nat, Hid (fO j = K) ∧ K < n ∧ ZO j % (n : Int) = (K : Int) := by
                refine ⟨(ZO j).toNat % n, by show _ = _; rw [HfO.out], Nat.mod_lt _ hn, ?_⟩
                rw [Int.natCast_emod, Int.toNat_of_nonneg z0]
              generalize ZO j = z at y1 z0 z9 hrem
              have hKz : (K : Int) < (n : Int) := by omega
              have hgB : gr ≤ wr.heap.size := Nat.le_trans hgr4 hB.size
              have h1c : ∀ u ∈ [Value.int .i64 (K : Int)], u.oneCell' = true := fun u hu => by rw [List.mem_singleton.1 hu]; rfl
              have h2c : ∀ u ∈ [ifc gp K], u.oneCell' = true := fun u hu => by rw [List.mem_singleton.1 hu]; rfl
              have h63 : j + 1 ≤ maxLen := by unfold maxLen; omega
              have hby1 : (j + 1) * 8 ≤ 140737488355328 := by omega
              have hby2 : (j + 1) * 16 ≤ 140737488355328 := by omega
              have y4 := (hP4.kt hkt (by decide)).get hKn
              clear hO6 hL6 hK6 hB6
              go_wp2_with (first
                | (at_builtin; refine wpList_append_own_at _ rfl (.tmp 161) (.tmp 163) 41 rfl gr 3 i3 (.int .i64 0) 1 8 Yba.underlying41 hi3 hz3 hs3 hb3 rfl (by decide) _ j (ints (kOf fO j)) rfl (row_alloc hrO _) ⟨wr.heap.size, 0, none⟩ 1 1 [.int .i64 (K : Int)] rfl rfl (cell_one_new wr _ 3) h1c h63 hby1 (Nat.le_trans hgB (by rw [size_alloc]; omega)) ?_; intro vO w1 hO1 hg1 hn1 hat1; obtain ⟨hk1, hb1, hs1', hq1⟩ := app_fx hrO hg1 hat1 hgB hsO; have hrL1 := hk1.row hrL (by decide); have hgB1 := Nat.le_trans hgB hb1.size; have y5 := ((hP4.kt hkt (by decide)).kt hk1 (by decide)).get hKn; clear hg1 hn1 hat1 hq1)
                | (at_builtin; refine wpList_append_own_at _ rfl (.tmp 165) (.tmp 171) 42 rfl gr 38 i38 .nilIface 1 16 Yba.underlying42 hi38 hz38 hs38 hb38 rfl (by decide) _ j (ifcs gp (kOf fO j)) rfl (row_alloc hrL1 _) ⟨w1.heap.size, 0, none⟩ 1 1 [ifc gp K] rfl rfl (cell_one_new w1 _ 38) h2c h63 hby2 (Nat.le_trans hgB1 (by rw [size_alloc]; omega)) ?_; intro vL w2 hL2 hg2 hn2 hat2; obtain ⟨hk2, hb2, hs2', hq2⟩ := app_fx hrL1 hg2 hat2 hgB1 hsL; clear hg2 hn2 hat2 hq2))
              go_roundg (lo - (j + 1))
              case measure => omega
              case rel =>
                refine ⟨j + 1, by omega, rfl, by go_num, ?_, ?_, hs1', hs2', (hkt.trans (hk1.wide (by simp))).trans (hk2.wide (by simp)), (hB.trans hb1).trans hb2⟩
                · rw [ints_succ, HK.out]; exact hk2.row hO1 (by decide)
                · rw [ifcs_succ, HK.out]; exact hL2
            · go_wp2_with fail
              go_meet
              case rel =>
                obtain rfl : j = lo := by omega
                exact ⟨hrO, hrL, hsO, hsL, hkt, hB⟩
        case rest =>
          obtain ⟨hrO, hrL, hsO, hsL, hkt7, hB7⟩ := hcut
          obtain ⟨W7, hW7⟩ : ∃ W : World, W = wc := ⟨_, rfl⟩
          subst hW7
          obtain ⟨gO, cO, rfl, hcO⟩ := slice_of_own hrO hsO
          obtain ⟨gL, cL, rfl, hcL⟩ := slice_of_own hrL hsL
          have hgr7 : gr ≤ W7.heap.size := Nat.le_trans hgr4 hB7.size
          clear hO6 hL6 hK6 hB6 ho4
          go_upto_block 6 with (first
            | (at_make; refine wpList_make_own _ rfl _ _ 41 rfl gr 3 i3 (.int .i64 0) 1 Yba.underlying41 hi3 hz3 hs3 _ _ _ lc rfl rfl rfl (by rw [hb3]; omega) (by unfold maxLen; omega) hgr7 ?_; intro W8 hO5 hg5; have hgr8 : gr ≤ W8.heap.size := Nat.le_trans hgr7 hg5.size)
            | (at_make; refine wpList_make_own _ rfl _ _ 42 rfl gr 38 i38 .nilIface 1 Yba.underlying42 hi38 hz38 hs38 _ _ _ lc rfl rfl rfl (by rw [hb38]; omega) (by unfold maxLen; omega) hgr8 ?_; intro W9 hL6 hg6))
          have hltO : gO < W7.heap.size := own_lt hrO gO rfl
          have hltL : gL < W7.heap.size := own_lt hrL gL rfl
          have hsz8 := hg5.size
          have hO6 : W9.ownsRow gr 3 1 (.slice (some ⟨W7.heap.size, 0, none⟩) 0 lc) 0 [] := row_kept hO5 hg6 (by simp [Value.ownBlock])
          have hK6 : ∀ q o, W7.heap[q]? = some o → W9.heap[q]? = some o := fun q o hq => by
            have hl := lt_of_block hq
            rw [hg6.block q (by omega) (by simp), hg5.block q hl (by simp)]
            exact hq
          have hB6 : Below gr W4 W9 := (hB7.grown hg5 hgr7 (fun k e => by cases e)).grown hg6 hgr8 (fun k e => by cases e)
          have hkt9 : Kt [3, 38] W4 W9 := hkt7.trans (fun q c T fz _ hq => hK6 q _ hq)
          have hrO9 := (row_blk (u := .slice none 0 0) (u' := .slice none 0 0) hrO hsO (by simp [Value.ownBlock]) (fun q o hq _ => ⟨hK6 q o hq, by simp [Value.ownBlock]⟩)).1
          have hrL9 := (row_blk (u := .slice none 0 0) (u' := .slice none 0 0) hrL hsL (by simp [Value.ownBlock]) (fun q o hq _ => ⟨hK6 q o hq, by simp [Value.ownBlock]⟩)).1
          have neO : (Value.slice (some ⟨gO, 0, none⟩) lo cO).ownBlock ≠ (Value.slice (some ⟨W7.heap.size, 0, none⟩) 0 lc).ownBlock := by simp [Value.ownBlock]; omega
          have neL : (Value.slice (some ⟨gL, 0, none⟩) lo cL).ownBlock ≠ (Value.slice (some ⟨W8.heap.size, 0, none⟩) 0 lc).ownBlock := by simp [Value.ownBlock]; omega
          obtain ⟨fC, HfC⟩ : ∃ fC : Nat → Nat, Hid (fC = fun j => (ZC j).toNat % n) := ⟨_, rfl⟩
          clear hO5 hg5 hg6 hK6 hrO hrL
          go_cut [29, 30, 31, 32] from 179 to 203 (fun s29 s30 s31 s32 wx => wx.ownsRow gr 3 1 s29 lc (ints (kOf fC lc)) ∧ wx.ownsRow gr 38 1 s30 lc (ifcs gp (kOf fC lc)) ∧ s29.ownBlock ≠ none ∧ s30.ownBlock ≠ none ∧ Kt [3, 38] W4 wx ∧ Below gr W4 wx ∧ wx.ownsRow gr 3 1 (.slice (some ⟨gO, 0, none⟩) lo cO) lo (ints (kOf fO lo)) ∧ wx.ownsRow gr 38 1 (.slice (some ⟨gL, 0, none⟩) lo cL) lo (ifcs gp (kOf fO lo)) ∧ (Value.slice (some ⟨gO, 0, none⟩) lo cO).ownBlock ≠ s29.ownBlock ∧ (Value.slice (some ⟨gL, 0, none⟩) lo cL).ownBlock ≠ s30.ownBlock)
          case first => as_aux_lemma =>
            go_wp2_with fail
            go_loopg [29, 30, 31, 32] lc (fun gh v29 v30 v31 v32 wr => ∃ j, j ≤ lc ∧ gh = lc - j ∧ v31 = .int .i64 (j : Nat) ∧ wr.ownsRow gr 3 1 v29 j (ints (kOf fC j)) ∧ wr.ownsRow gr 38 1 v30 j (ifcs gp (kOf fC j)) ∧ v29.ownBlock ≠ none ∧ v30.ownBlock ≠ none ∧ Kt [3, 38] W4 wr ∧ Below gr W4 wr ∧ wr.ownsRow gr 3 1 (.slice (some ⟨gO, 0, none⟩) lo cO) lo (ints (kOf fO lo)) ∧ wr.ownsRow gr 38 1 (.slice (some ⟨gL, 0, none⟩) lo cL) lo (ifcs gp (kOf fO lo)) ∧ (Value.slice (some ⟨gO, 0, none⟩) lo cO).ownBlock ≠ v29.ownBlock ∧ (Value.slice (some ⟨gL, 0, none⟩) lo cL).ownBlock ≠ v30.ownBlock)
            case atStart => exact ⟨0, Nat.zero_le _, rfl, rfl, hO6, hL6, by simp [Value.ownBlock], by simp [Value.ownBlock], hkt9, hB6, hrO9, hrL9, neO, neL⟩
            case round =>
              obtain ⟨j, hj, rfl, rfl, hrC, hrH, hsC, hsH, hkt, hB, hrO, hrL, nO, nL⟩ := hrel
              by_cases hlt : j < lc
              · obtain ⟨fb, fo, rfl, hfb, y1⟩ := (hc4.below hB hwg) j hlt
                have hz : (j : Int) < (lc : Int) := by omega
                obtain ⟨z0, z9⟩ := hZC j
                obtain ⟨K, HK, hKn, hrem⟩ : ∃ K : Nat, Hid (fC j = K) ∧ K < n ∧ ZC j % (n : Int) = (K : Int) := by
                  refine ⟨(ZC j).toNat % n, by show _ = _; rw [HfC.out], Nat.mod_lt _ hn, ?_⟩
                  rw [Int.natCast_emod, Int.toNat_of_nonneg z0]
                generalize ZC j = z at y1 z0 z9 hrem
                have hKz : (K : Int) < (n : Int) := by omega
                have hgB : gr ≤ wr.heap.size := Nat.le_trans hgr4 hB.size
                have h1c : ∀ u ∈ [Value.int .i64 (K : Int)], u.oneCell' = true := fun u hu => by rw [List.mem_singleton.1 hu]; rfl
                have h2c : ∀ u ∈ [ifc gp K], u.oneCell' = true := fun u hu => by rw [List.mem_singleton.1 hu]; rfl
                have h63 : j + 1 ≤ maxLen := by unfold maxLen; omega
                have hby1 : (j + 1) * 8 ≤ 140737488355328 := by omega
                have hby2 : (j + 1) * 16 ≤ 140737488355328 := by omega
                have y4 := (hP4.kt hkt (by decide)).get hKn
                clear hO6 hL6 hB6 hkt9 hrO9 hrL9 neO neL
                go_wp2_with (first
                  | (at_builtin; refine wpList_append_own_at _ rfl (.tmp 192) (.tmp 194) 41 rfl gr 3 i3 (.int .i64 0) 1 8 Yba.underlying41 hi3 hz3 hs3 hb3 rfl (by decide) _ j (ints (kOf fC j)) rfl (row_alloc hrC _) ⟨wr.heap.size, 0, none⟩ 1 1 [.int .i64 (K : Int)] rfl rfl (cell_one_new wr _ 3) h1c h63 hby1 (Nat.le_trans hgB (by rw [size_alloc]; omega)) ?_; intro vC w1 hC1 hg1 hn1 hat1; obtain ⟨hk1, hb1, hs1', hq1⟩ := app_fx hrC hg1 hat1 hgB hsC; have hrH1 := hk1.row hrH (by decide); have hrL1 := hk1.row hrL (by decide); obtain ⟨hrO1, nO1⟩ := row_blk hrO (by simp [Value.ownBlock]) nO hq1; have hgB1 := Nat.le_trans hgB hb1.size; have y5 := ((hP4.kt hkt (by decide)).kt hk1 (by decide)).get hKn; clear hg1 hn1 hat1 hq1)
                  | (at_builtin; refine wpList_append_own_at _ rfl (.tmp 196) (.tmp 202) 42 rfl gr 38 i38 .nilIface 1 16 Yba.underlying42 hi38 hz38 hs38 hb38 rfl (by decide) _ j (ifcs gp (kOf fC j)) rfl (row_alloc hrH1 _) ⟨w1.heap.size, 0, none⟩ 1 1 [ifc gp K] rfl rfl (cell_one_new w1 _ 38) h2c h63 hby2 (Nat.le_trans hgB1 (by rw [size_alloc]; omega)) ?_; intro vH w2 hH2 hg2 hn2 hat2; obtain ⟨hk2, hb2, hs2', hq2⟩ := app_fx hrH1 hg2 hat2 hgB1 hsH; obtain ⟨hrL2, nL2⟩ := row_blk hrL1 (by simp [Value.ownBlock]) nL hq2; clear hg2 hn2 hat2 hq2))
                go_roundg (lc - (j + 1))
                case measure => omega
                case rel =>
                  refine ⟨j + 1, by omega, rfl, by go_num, ?_, ?_, hs1', hs2', (hkt.trans (hk1.wide (by simp))).trans (hk2.wide (by simp)), (hB.trans hb1).trans hb2, hk2.row hrO1 (by decide), hrL2, nO1, nL2⟩
                  · rw [ints_succ, HK.out]; exact hk2.row hC1 (by decide)
                  · rw [ifcs_succ, HK.out]; exact hH2
              · go_wp2_with fail
                go_meet
                case rel =>
                  obtain rfl : j = lc := by omega
                  exact ⟨hrC, hrH, hsC, hsH, hkt, hB, hrO, hrL, nO, nL⟩
          case rest =>
            obtain ⟨hrC, hrH, hsC, hsH, hkt10, hB10, hrO, hrL, nO, nL⟩ := hcut
            obtain ⟨W10, hW10⟩ : ∃ W : World, W = wc := ⟨_, rfl⟩
            subst hW10
            obtain ⟨gC, cC, rfl, hcC⟩ := slice_of_own hrC hsC
            obtain ⟨gH, cH, rfl, hcH⟩ := slice_of_own hrH hsH
            have hgr10 : gr ≤ W10.heap.size := Nat.le_trans hgr4 hB10.size
            clear hO6 hL6 hB6 hkt9 hrO9 hrL9 neO neL hc4 hkt7 hB7 hgr7 hgr8 hltO hltL hsz8 hgr5
            go_upto_region 37 with fail
            go_cut [33] from 204 to 212 (fun s33 wx => ∃ cw, s33 = .pointer (some ⟨W10.heap.size, 0, none⟩) ∧ wx = W10.alloc (.cells cw 62) ∧ WC cw stamp signing lineNoted lineChosen gs m gL lo cL gH lc cH)
            case first => as_aux_lemma =>
              obtain ⟨cw, hcw, hb62⟩ := writer_some stamp signing lineNoted lineChosen gs m gL lo cL gH lc cH
              go_wp2_with fail
              refine wp_writer _ rfl cw _ hb62 (by first | kernel_rfl | simp [Act.eval]) ?_
              go_wp2_with fail
              go_meet
              case rel => exact ⟨cw, rfl, rfl, hcw⟩
            case rest =>
            obtain ⟨cw, rfl, rfl, hcw⟩ := hcut
            have hgr11 : gr ≤ (W10.alloc (.cells cw 62)).heap.size := by rw [size_alloc]; omega
            go_upto_block 8 with (at_make; refine wpList_make_full _ rfl _ _ 41 rfl (W10.alloc (.cells cw 62)).heap.size 3 i3 (.int .i64 0) 1 Yba.underlying41 hi3 hz3 hs3 _ _ _ _ n rfl rfl rfl rfl (by rw [hb3]; omega) (by unfold maxLen; omega) (Nat.le_refl _) ?_; intro W11 hown hgrow; have hrow := made_row hown; clear hown)
            have hsz11 := hgrow.size
            rw [size_alloc] at hsz11 hrow
            have hK11 : ∀ q o, W10.heap[q]? = some o → W11.heap[q]? = some o := fun q o hq => by
              have hl := lt_of_block hq
              rw [hgrow.block q (by rw [size_alloc]; omega) (by simp), Below.heap_alloc _ _ _ hl]
              exact hq
            have hcw11 : W11.heap[W10.heap.size]? = some (.cells cw 62 (0, 0)) := by
              rw [hgrow.block _ (by rw [size_alloc]; omega) (by simp)]
              exact heap_new _ _
            have hB11 : Below gr W4 W11 := (hB10.alloc hgr10 _).grown hgrow hgr11 (fun k e => by cases e)
            have rk : ∀ {e k : Nat} {v : Value} {xs : List Value}, W10.ownsRow gr e 1 v k xs → v.ownBlock ≠ none → W11.ownsRow gr e 1 v k xs := fun hr hs => (row_blk (u := .slice none 0 0) (u' := .slice none 0 0) hr hs (by simpa [Value.ownBlock] using hs) (fun q o hq _ => ⟨hK11 q o hq, by simp [Value.ownBlock]⟩)).1
            have ltO := own_lt hrO gO rfl
            have ltL := own_lt hrL gL rfl
            have ltC := own_lt hrC gC rfl
            have ltH := own_lt hrH gH rfl
            replace hrO := rk hrO (by simp [Value.ownBlock])
            replace hrL := rk hrL (by simp [Value.ownBlock])
            replace hrC := rk hrC (by simp [Value.ownBlock])
            replace hrH := rk hrH (by simp [Value.ownBlock])
            have hkt11 : Kt [3, 38] W4 W11 := hkt10.trans (fun q c T fz _ hq => hK11 q _ hq)
            clear hgrow hK11 rk hkt10 hB10 hgr11
            obtain ⟨gw, hgw⟩ : ∃ gw, gw = W10.heap.size := ⟨_, rfl⟩
            rw [← hgw] at hrow hcw11 ltO ltL ltC ltH hgr10 hsz11 ⊢
            clear hgw
            have hsp11 := hsp4.below hB11 hab4
            go_cut [35] from 215 to 227 (fun s35 wx => (∃ cur, wx.heap[gw + 1]? = some (.cells cur 3 (0, 0)) ∧ cur.size = n ∧ ∀ j, j < n → cur[j]? = some (.int .i64 (S j))) ∧ (∀ q, q ≠ gw + 1 → wx.heap[q]? = W11.heap[q]?) ∧ Below gr W4 wx)
            case first => as_aux_lemma =>
              go_wp2_with fail
              go_loopg [35] n (fun gh v35 wr => ∃ k, k ≤ n ∧ gh = n - k ∧ v35 = .int .i64 (k : Nat) ∧ (∃ cur, wr.heap[gw + 1]? = some (.cells cur 3 (0, 0)) ∧ cur.size = n ∧ ∀ j, j < k → cur[j]? = some (.int .i64 (S j))) ∧ (∀ q, q ≠ gw + 1 → wr.heap[q]? = W11.heap[q]?) ∧ Below gr W4 wr)
              case atStart =>
                obtain ⟨cur, hc, hz⟩ := hrow
                exact ⟨0, Nat.zero_le _, rfl, rfl, ⟨cur, hc, by omega, fun j hj => by omega⟩, fun q _ => rfl, hB11⟩
              case round =>
                obtain ⟨k, hk, rfl, rfl, ⟨cur, hc, hz, hr⟩, hK, hB⟩ := hrel
                by_cases hlt : k < n
                · have hzk : (k : Int) < (n : Int) := by omega
                  obtain ⟨s1, s2, s3⟩ := (hsp4.below hB hab4) k hlt
                  have q1 : wr.cell? ⟨gw + 1, k, none⟩ = some cur[k] := by rw [cell_at hc, Array.getElem?_eq_getElem (by omega)]
                  have q2 : wr.frozen? ⟨gw + 1, k, none⟩ = false := by simp [World.frozen?, hc]
                  generalize cur[k] = old at q1
                  go_wp2_with fail
                  go_roundg (n - (k + 1))
                  case measure => omega
                  case rel =>
                    refine ⟨k + 1, by omega, rfl, by go_num, ⟨_, heap_set_same hc, by simp [hz], fun j hj => ?_⟩, fun q hq => (Below.heap_setCell _ _ _ _ hq).trans (hK q hq), hB.setCell (by show gr ≤ gw + 1; omega) _⟩
                    by_cases e : j = k
                    · subst e
                      exact set_get (by omega)
                    · rw [set_other (fun e' => e e'.symm)]
                      exact hr j (by omega)
                · go_wp2_with fail
                  go_meet
                  case rel =>
                    obtain rfl : k = n := by omega
                    exact ⟨⟨cur, hc, hz, hr⟩, hK, hB⟩
            case rest =>
              obtain ⟨hseen, hK12, hB12⟩ := hcut
              obtain ⟨W12, hW12⟩ : ∃ W : World, W = wc := ⟨_, rfl⟩
              subst hW12
              have hDn : D.n = n := by rw [HD.out]
              have hDm : D.m = m := by rw [HD.out]
              have hk3 : Kt [3] W11 W12 := fun q c T fz hT hq => by
                rw [hK12 q (fun e => ?_)]
                · exact hq
                · subst e
                  obtain ⟨cur, hc, _⟩ := hrow
                  rw [hc] at hq
                  cases hq
                  exact hT (by simp)
              have hMD : MD D (gw + 1) gr ⟨S, lineChosen, kOf fO lo, kOf fC lc⟩ W12 (.slice (some ⟨gO, 0, none⟩) lo cO) (.slice (some ⟨gC, 0, none⟩) lc cC) :=
                ⟨by rw [hDn]; exact hseen, row_len (row_at hrO (hK12 gO (by omega))) (kOf_len _ _), row_len (row_at hrC (hK12 gC (by omega))) (kOf_len _ _), nO, by simp [Value.ownBlock]; omega, by simp [Value.ownBlock]; omega, by simp [Value.ownBlock], by simp [Value.ownBlock]⟩
              have hNW : NW D gp gw gr (.slice (some ⟨gs, 0, none⟩) m m) lineNoted ⟨S, lineChosen, kOf fO lo, kOf fC lc⟩ W12 (.slice (some ⟨gL, 0, none⟩) lo cL) (.slice (some ⟨gH, 0, none⟩) lc cH) :=
                ⟨(hpc4.kt hkt11 (by decide)).kt hk3 (by decide), ⟨cw, hk3 _ _ _ _ (by decide) hcw11, hcw.c16, hcw.c31, by rw [HD.out]; exact hcw.c44, hcw.c45, hcw.c48, by rw [HD.out]; exact hcw.c100, hcw.c101⟩, row_len (hk3.row hrL (by decide)) (kOf_len _ _), row_len (hk3.row hrH (by decide)) (kOf_len _ _), nL, by simp [Value.ownBlock], by simp [Value.ownBlock]⟩
              have hst12 : Stk D gp gs m W12 := (hst.kt hkt11 (by decide)).kt hk3 (by decide)
              have hP12 := (hP4.kt hkt11 (by decide)).kt hk3 (by decide)
              clear hseen hK12 hrow hcw11 hcw hrO hrL hrC hrH hsp11 hB11 hkt11 hk3 ltO ltL ltC ltH nO nL hst hP4 hpc4
              obtain ⟨fin, HR⟩ : ∃ fin, Hid (run D m ⟨S, lineChosen, kOf fO lo, kOf fC lc⟩ = fin) := ⟨_, rfl⟩
              go_upto_block 10 with fail
              go_cut [25, 29, 36, 37, 38] from 232 to 290 (fun s25 s29 s36 s37 s38 wx => s36 = .bool fin.chosen ∧ MD D (gw + 1) gr fin wx s25 s29 ∧ Kt [3] W12 wx ∧ Below gr W4 wx)
              case first => as_aux_lemma =>
                go_wp2_with fail
                go_loopg [25, 29, 36, 37, 38] m (fun gh v25 v29 v36 v37 v38 wr => ∃ (k : Nat) (s : St), k ≤ m ∧ gh = k ∧ v37 = .int .i64 ((k : Int) - 1) ∧ v36 = .bool s.chosen ∧ Hid (run D k s = fin) ∧ MD D (gw + 1) gr s wr v25 v29 ∧ Kt [3] W12 wr ∧ Below gr W4 wr ∧ s.on.length + k ≤ 65536 + m ∧ s.ch.length + k ≤ 65536 + m)
                case atStart => exact ⟨m, _, Nat.le_refl _, rfl, rfl, rfl, HR, hMD, Kt.refl _ _, hB12, by simp only [kOf_len]; omega, by simp only [kOf_len]; omega⟩
                case round =>
                  obtain ⟨k, s, hk, hgh, hv37, hv36, HF, hM, hkt, hB, hl1, hl2⟩ := hrel
                  obtain rfl := hgh.symm
                  subst hv36
                  cases k with
                  | zero =>
                    rw [show (((0 : Nat) : Int) - 1) = -1 from rfl] at hv37
                    subst hv37
                    have e : s = fin := HF.out
                    subst e
                    go_wp2_with fail
                    go_meet
                    case rel => exact ⟨rfl, hM, hkt, hB⟩
                  | succ i =>
                    rw [show (((i + 1 : Nat) : Int) - 1) = i by omega] at hv37
                    subst hv37
                    obtain ⟨fb, fo, rfl, hfb, y1, y2, y3⟩ := (hf4.below hB hwg) i (by omega)
                    have hz : (i : Int) < (m : Int) := by omega
                    obtain ⟨z0, z9⟩ := hZ i
                    obtain ⟨K, HK, hKn, hrem⟩ : ∃ K : Nat, Hid (D.Fp i = K) ∧ K < n ∧ Z i % (n : Int) = (K : Int) := by
                      refine ⟨(Z i).toNat % n, by show _ = _; rw [HD.out], Nat.mod_lt _ hn, ?_⟩
                      rw [Int.natCast_emod, Int.toNat_of_nonneg z0]
                    generalize Z i = z at y1 z0 z9 hrem
                    have hKz : (K : Int) < (n : Int) := by omega
                    have hKD : K < D.n := by rw [hDn]; exact hKn
                    obtain ⟨m1, m2⟩ := hM.get hKD
                    have HDs : Hid (D.stamp = stamp ∧ D.N K = N K ∧ D.Bd K = Bd K ∧ D.Fz i = Fz i ∧ D.Fs i = Fs i ∧ D.signing = signing) := by show _ ∧ _; rw [HD.out]; exact ⟨rfl, rfl, rfl, rfl, rfl, rfl⟩
                    have tf : ∀ b : Bool, b = false ∨ b = true := fun b => by cases b <;> simp
                    by_cases hs : s.seen K = stamp
                    · have b1 : (s.seen K == stamp) = true := by simp [hs]
                      have HE : Hid (s.seen K = stamp) := hs
                      clear hs hDn hDm hMD hNW
                      go_wp2_with fail
                      go_meet
                      case rel =>
                        have e : s = fin := by rw [← HF.out, run_stop (by rw [HK.out, HDs.out.1]; exact HE.out)]
                        subst e
                        exact ⟨rfl, hM, hkt, hB⟩
                    · have b1 : (s.seen K == stamp) = false := by simp [hs]
                      have HE : Hid (s.seen (D.Fp i) ≠ D.stamp) := by show _ ≠ _; rw [HK.out, HDs.out.1]; exact hs
                      have HF2 : Hid (run D i (step D i s) = fin) := by show _ = _; rw [← run_step HE.out]; exact HF.out
                      have l1 : (step D i s).on.length ≤ s.on.length + 1 := addIf_len _ _ _
                      have l2 : (step D i s).ch.length ≤ s.ch.length + 1 := addIf_len _ _ _
                      have hM2 := hM.set hKD stamp
                      have hkt2 : Kt [3] W12 (wr.setCell ⟨gw + 1, K, none⟩ (.int .i64 stamp)) := by
                        obtain ⟨cur, hc, _⟩ := hM.seen
                        exact hkt.set hc (by decide) _
                      have hB2 : Below gr W4 (wr.setCell ⟨gw + 1, K, none⟩ (.int .i64 stamp)) := hB.setCell (by show gr ≤ gw + 1; omega) _
                      obtain ⟨t1, t2, t3⟩ := (hsp4.below hB2 hab4) K hKn
                      obtain ⟨fb', fo', efb, _, x1, x2, x3⟩ := (hf4.below hB2 hwg) i (by omega)
                      cases efb
                      have hgB2 : gr ≤ (wr.setCell ⟨gw + 1, K, none⟩ (.int .i64 stamp)).heap.size := Nat.le_trans hgr4 hB2.size
                      clear hs hMD hNW y2 y3 t1 x1
                      go_upto_region 50 with fail
                      rw [hrem]
                      clear m1 m2 hM hkt hB y1 HF hrem
                      generalize wr.setCell ⟨gw + 1, K, none⟩ (.int .i64 stamp) = Wa at hM2 hkt2 hB2 t2 t3 x2 x3 hgB2 ⊢
                      have hcho : cho D i = (decide (N K > 1) && !Fs i) := by unfold cho; rw [HK.out, HDs.out.2.1, HDs.out.2.2.2.2.1]
                      by_cases hN : N K > 1
                      rotate_left
                      · have HC : Hid (cho D i = false) := by show _ = _; rw [hcho]; simp [hN]
                        clear hcho
                        go_wp2_with fail
                        go_roundg i
                        case measure => omega
                        case rel => exact ⟨i, step D i s, by omega, rfl, by go_num, by rw [step_no s HC.out], HF2, by rw [step_no s HC.out, HK.out, HDs.out.1]; exact hM2, hkt2, hB2, by omega, by omega⟩
                      rcases tf (Fs i) with hFs | hFs
                      rotate_left
                      · have HC : Hid (cho D i = false) := by show _ = _; rw [hcho, hFs]; simp
                        rw [hFs] at x3
                        clear hcho hFs
                        go_wp2_with fail
                        go_roundg i
                        case measure => omega
                        case rel => exact ⟨i, step D i s, by omega, rfl, by go_num, by rw [step_no s HC.out], HF2, by rw [step_no s HC.out, HK.out, HDs.out.1]; exact hM2, hkt2, hB2, by omega, by omega⟩
                      have HC : Hid (cho D i = true) := by show _ = _; rw [hcho, hFs]; simp [hN]
                      rw [hFs] at x3
                      obtain ⟨oN, hoN⟩ : ∃ oN, oN = (!Bd K && !Fz i) := ⟨_, rfl⟩
                      have HFin : Hid (step D i s = ⟨put s.seen K stamp, true, addIf oN s.on K, addIf signing s.ch K⟩) := by show _ = _; rw [step_yes s HC.out, HK.out, HDs.out.1, HDs.out.2.2.1, HDs.out.2.2.2.1, HDs.out.2.2.2.2.2, hoN]
                      clear hcho hFs
                      go_upto_region 52 with fail
                      go_cut [281] from 268 to 281 (fun s281 wx => s281 = .bool oN ∧ wx = Wa)
                      case first => as_aux_lemma =>
                        rcases tf (Bd K) with hBd | hBd
                        · rw [hBd] at t3 hoN
                          rcases tf (Fz i) with hFz | hFz
                          · rw [hFz] at x2 hoN
                            subst hoN
                            clear hBd hFz
                            go_wp2_with fail
                            go_meet
                            case rel => exact ⟨rfl, rfl⟩
                          · rw [hFz] at x2 hoN
                            subst hoN
                            clear hBd hFz
                            go_wp2_with fail
                            go_meet
                            case rel => exact ⟨rfl, rfl⟩
                        · rw [hBd] at t3 hoN
                          subst hoN
                          clear hBd
                          go_wp2_with fail
                          go_meet
                          case rel => exact ⟨rfl, rfl⟩
                      case rest =>
                        obtain ⟨rfl, hwc⟩ := hcut
                        obtain rfl := hwc.symm
                        have h1c : ∀ u ∈ [Value.int .i64 (K : Int)], u.oneCell' = true := fun u hu => by rw [List.mem_singleton.1 hu]; rfl
                        go_upto_if 281 with fail
                        go_cut [25] from 282 to 285 (fun s25 wx => MD D (gw + 1) gr ⟨put s.seen K stamp, true, addIf oN s.on K, s.ch⟩ wx s25 u29 ∧ Kt [3] W12 wx ∧ Below gr W4 wx)
                        case first => as_aux_lemma =>
                          cases oN
                          · clear hoN
                            go_wp2_with fail
                            go_meet
                            case rel => exact ⟨hM2.cho true, hkt2, hB2⟩
                          · clear hoN
                            have h63 : s.on.length + 1 ≤ maxLen := by unfold maxLen; omega
                            have hby1 : (s.on.length + 1) * 8 ≤ 140737488355328 := by omega
                            go_wp2_with (at_builtin; refine wpList_append_own_at _ rfl (.tmp 282) (.tmp 284) 41 rfl gr 3 i3 (.int .i64 0) 1 8 Yba.underlying41 hi3 hz3 hs3 hb3 rfl (by decide) _ s.on.length (ints s.on) rfl (row_alloc hM2.rO _) ⟨Wa.heap.size, 0, none⟩ 1 1 [.int .i64 (K : Int)] rfl rfl (cell_one_new Wa _ 3) h1c h63 hby1 (Nat.le_trans hgB2 (by rw [size_alloc]; omega)) ?_; intro vC w1 hC1 hg1 hn1 hat1; obtain ⟨hk1, hb1, hs1', hq1⟩ := app_fx hM2.rO hg1 hat1 hgB2 hM2.sO; have hM3 := hM2.pushO hC1 hs1' hq1; clear hg1 hn1 hat1 hq1 hC1)
                            go_meet
                            case rel => exact ⟨hM3.cho true, hkt2.trans hk1, hB2.trans hb1⟩
                        case rest =>
                          obtain ⟨hM3, hkt3, hB3⟩ := hcut
                          clear hM2 hkt2 hB2 hgB2 t2 t3 x2 x3 hoN
                          have hgB3 : gr ≤ wc.heap.size := Nat.le_trans hgr4 hB3.size
                          rcases tf signing with hsg | hsg
                          · subst hsg
                            go_wp2_with fail
                            go_roundg i
                            case measure => omega
                            case rel => exact ⟨i, step D i s, by omega, rfl, by go_num, by rw [HFin.out], HF2, by rw [HFin.out]; exact hM3, hkt3, hB3, by omega, by omega⟩
                          · subst hsg
                            have h63 : s.ch.length + 1 ≤ maxLen := by unfold maxLen; omega
                            have hby1 : (s.ch.length + 1) * 8 ≤ 140737488355328 := by omega
                            go_wp2_with (at_builtin; refine wpList_append_own_at _ rfl (.tmp 287) (.tmp 289) 41 rfl gr 3 i3 (.int .i64 0) 1 8 Yba.underlying41 hi3 hz3 hs3 hb3 rfl (by decide) _ s.ch.length (ints s.ch) rfl (row_alloc hM3.rC _) ⟨wc.heap.size, 0, none⟩ 1 1 [.int .i64 (K : Int)] rfl rfl (cell_one_new wc _ 3) h1c h63 hby1 (Nat.le_trans hgB3 (by rw [size_alloc]; omega)) ?_; intro vC w1 hC1 hg1 hn1 hat1; obtain ⟨hk1, hb1, hs1', hq1⟩ := app_fx hM3.rC hg1 hat1 hgB3 hM3.sC; have hM4 := hM3.pushC hC1 hs1' hq1; clear hg1 hn1 hat1 hq1 hC1)
                            go_roundg i
                            case measure => omega
                            case rel => exact ⟨i, step D i s, by omega, rfl, by go_num, by rw [HFin.out], HF2, by rw [HFin.out]; exact hM4, hkt3.trans hk1, hB3.trans hb1, by omega, by omega⟩
              case rest =>
                obtain ⟨rfl, hM, hkt13, hB13⟩ := hcut
                obtain ⟨W13, hW13⟩ : ∃ W : World, W = wc := ⟨_, rfl⟩
                subst hW13
                have hFp : ∀ i, D.Fp i < D.n := fun i => by rw [hDn, HD.out]; exact Nat.mod_lt _ hn
                have hLt : Lt D fin := by
                  rw [← HR.out]
                  exact run_lt m _ (fun i _ => hFp i) ⟨kOf_lt (fun i => by rw [hDn, HfO.out]; exact Nat.mod_lt _ hn) _, kOf_lt (fun i => by rw [hDn, HfC.out]; exact Nat.mod_lt _ hn) _⟩
                have hcall : Calls Yba.prog 4 #[.pointer (some ⟨gw, 0, none⟩)] W13 fun e w' => e = .returned (.tuple #[]) ∧ (∃ vL' vH', NW D gp gw gr (.slice (some ⟨gs, 0, none⟩) m m) true fin w' vL' vH') ∧ Kt [33, 38, 62] W13 w' ∧ Below gr W13 w' := by
                  have h := notes_any D gp gw gs gr lineNoted ⟨S, lineChosen, kOf fO lo, kOf fC lc⟩ W13 _ _ (by rw [hDm]; exact hNW.kt hkt13 (by decide) (by decide) (by decide)) (by rw [hDm]; exact hst12.kt hkt13 (by decide)) (fun i _ => hFp i) (by omega) (by simp only [kOf_len]; omega) (by simp only [kOf_len]; omega) (Nat.le_trans hgr4 hB13.size) (by omega) (by omega)
                  rw [hDm, HR.out] at h
                  exact h
                have HF3 : Hid (∀ i, D.Fp i < D.n) := hFp
                clear hNW hMD hB12 hFp
                go_upto_region 57 with (go_at_call 4; refine hcall.mono ?_; rintro e W14 ⟨rfl, ⟨vL', vH', hN1⟩, hk1, hb1⟩)
                have hM4 := hM.kt hk1 (by decide)
                have hst14 := (hst12.kt hkt13 (by decide)).kt hk1 (by decide)
                have hP14 := (hP12.kt hkt13 (by decide)).kt hk1 (by decide)
                have hB14 := hB13.trans hb1
                clear hcall hM hst12 hP12 hkt13 hB13 hk1 hb1
                obtain ⟨gL', cL', rfl, _⟩ := slice_of_own hN1.rL hN1.sL
                obtain ⟨gH', cH', rfl, _⟩ := slice_of_own hN1.rH hN1.sH
                obtain ⟨gO', cO', rfl, _⟩ := slice_of_own hM4.rO hM4.sO
                obtain ⟨gC', cC', rfl, _⟩ := slice_of_own hM4.rC hM4.sC
                obtain ⟨c16, c31, c44, c45, c48, c100, c101, -⟩ := hN1.wrt.get
                rw [show D.stamp = stamp by rw [HD.out]] at c44
                rw [show D.signing = signing by rw [HD.out]] at c100
                have b1 : (fin.chosen != fin.chosen) = false := by simp
                have b2 : (stamp != stamp) = false := by simp
                have b3 : (signing != signing) = false := by simp
                go_upto_block 12 with fail
                have hgr14 : gr ≤ W14.heap.size := Nat.le_trans hgr4 hB14.size
                obtain ⟨lO, HlO⟩ : ∃ l, Hid (fin.on.length = l) := ⟨_, rfl⟩
                obtain ⟨lC, HlC⟩ : ∃ l, Hid (fin.ch.length = l) := ⟨_, rfl⟩
                obtain ⟨hlO, hlC⟩ : lO ≤ 131072 ∧ lC ≤ 131072 := by
                  have h := run_len (D := D) m ⟨S, lineChosen, kOf fO lo, kOf fC lc⟩
                  rw [HR.out, HlO.out, HlC.out] at h
                  simp only [kOf_len] at h
                  omega
                have rL := hN1.rL
                have rH := hN1.rH
                have rO := hM4.rO
                have rC := hM4.rC
                rw [HlO.out] at rL rO c45 ⊢
                rw [HlC.out] at rH rC c101 ⊢
                have eO : ∀ j, j < lO → ∃ K, K < n ∧ W14.cell? ⟨gL', j, none⟩ = some (ifc gp K) ∧ W14.cell? ⟨gO', j, none⟩ = some (.int .i64 (K : Int)) := fun j hj => by
                  have hj' : j < fin.on.length := by rw [HlO.out]; exact hj
                  exact ⟨fin.on[j], by rw [← hDn]; exact hLt.1 _ (List.getElem_mem hj'), row_get rL (ifcs_at hj'), row_get rO (ints_at hj')⟩
                have eC : ∀ j, j < lC → ∃ K, K < n ∧ W14.cell? ⟨gH', j, none⟩ = some (ifc gp K) ∧ W14.cell? ⟨gC', j, none⟩ = some (.int .i64 (K : Int)) := fun j hj => by
                  have hj' : j < fin.ch.length := by rw [HlC.out]; exact hj
                  exact ⟨fin.ch[j], by rw [← hDn]; exact hLt.2 _ (List.getElem_mem hj'), row_get rH (ifcs_at hj'), row_get rC (ints_at hj')⟩
                clear rL rH rO rC hLt b1 b2 b3 c16 c44 c48 c100
                go_cut [39] from 350 to 371 (fun s39 wx => Sm W14 wx)
                case first => as_aux_lemma =>
                  go_wp2_with fail
                  go_loopg [39] lO (fun gh v39 wr => ∃ j, j ≤ lO ∧ gh = lO - j ∧ v39 = .int .i64 (j : Nat) ∧ Sm W14 wr)
                  case atStart => exact ⟨0, Nat.zero_le _, rfl, rfl, Sm.refl _⟩
                  case round =>
                    obtain ⟨j, hj, rfl, rfl, hS⟩ := hrel
                    by_cases hlt : j < lO
                    · have hz : (j : Int) < (lO : Int) := by omega
                      obtain ⟨K, hKn, r1, r2⟩ := eO j hlt
                      have hKz : (K : Int) < (n : Int) := by omega
                      replace r1 := (hS.1 _).trans r1
                      replace r2 := (hS.1 _).trans r2
                      have r3 := (hS.1 _).trans (hP14.get hKn)
                      have r4 := (hS.1 _).trans c45
                      go_wp2_with fail
                      go_quiet (fail)
                      go_wp2_with fail
                      go_roundg (lO - (j + 1))
                      case measure => omega
                      case rel => exact ⟨j + 1, by omega, rfl, by go_num, hS.drewN _⟩
                    · go_wp2_with fail
                      go_meet
                      case rel => exact hS
                case rest =>
                  have hS7 := hcut
                  clear hcut
                  obtain ⟨W15, hW15⟩ : ∃ W : World, W = wc := ⟨_, rfl⟩
                  subst hW15
                  go_upto_block 14 with fail
                  go_cut [40] from 372 to 393 (fun s40 wx => Sm W14 wx)
                  case first => as_aux_lemma =>
                    go_wp2_with fail
                    go_loopg [40] lC (fun gh v40 wr => ∃ j, j ≤ lC ∧ gh = lC - j ∧ v40 = .int .i64 (j : Nat) ∧ Sm W14 wr)
                    case atStart => exact ⟨0, Nat.zero_le _, rfl, rfl, hS7⟩
                    case round =>
                      obtain ⟨j, hj, rfl, rfl, hS⟩ := hrel
                      by_cases hlt : j < lC
                      · have hz : (j : Int) < (lC : Int) := by omega
                        obtain ⟨K, hKn, r1, r2⟩ := eC j hlt
                        have hKz : (K : Int) < (n : Int) := by omega
                        replace r1 := (hS.1 _).trans r1
                        replace r2 := (hS.1 _).trans r2
                        have r3 := (hS.1 _).trans (hP14.get hKn)
                        have r4 := (hS.1 _).trans c101
                        go_wp2_with fail
                        go_quiet (fail)
                        go_wp2_with fail
                        go_roundg (lC - (j + 1))
                        case measure => omega
                        case rel => exact ⟨j + 1, by omega, rfl, by go_num, hS.drewN _⟩
                      · go_wp2_with fail
                        go_meet
                        case rel => exact hS
                  case rest =>
                    have hS8 := hcut
                    clear hcut hS7
                    obtain ⟨W16, hW16⟩ : ∃ W : World, W = wc := ⟨_, rfl⟩
                    subst hW16
                    go_upto_block 16 with fail
                    go_cut [41, 42] from 394 to 453 (fun s41 s42 wx => Sm W14 wx)
                    case first => as_aux_lemma =>
                      go_wp2_with fail
                      go_loopg [41, 42] m (fun gh v41 v42 wr => ∃ i, i ≤ m ∧ gh = m - i ∧ v41 = .int .i64 (i : Nat) ∧ Sm W14 wr)
                      case atStart => exact ⟨0, Nat.zero_le _, rfl, rfl, hS8⟩
                      case round =>
                        obtain ⟨i, hi, rfl, rfl, hS⟩ := hrel
                        by_cases hlt : i < m
                        · have hz : (i : Int) < (m : Int) := by omega
                          have hB := hB14.trans (hS.2.mono hgr14)
                          obtain ⟨fb, fo, rfl, hfb, y1, y2, y3⟩ := (hf4.below hB hwg) i hlt
                          obtain ⟨z0, z9⟩ := hZ i
                          obtain ⟨K, HK, hKn, hrem⟩ : ∃ K : Nat, Hid (D.Fp i = K) ∧ K < n ∧ Z i % (n : Int) = (K : Int) := by
                            refine ⟨(Z i).toNat % n, by show _ = _; rw [HD.out], Nat.mod_lt _ hn, ?_⟩
                            rw [Int.natCast_emod, Int.toNat_of_nonneg z0]
                          obtain ⟨x1, x2, x3⟩ := hst14.get hlt
                          rw [HK.out] at x1
                          rw [show D.Fz i = Fz i by rw [HD.out]] at x2
                          rw [show D.Fs i = Fs i by rw [HD.out]] at x3
                          replace x1 := (hS.1 _).trans x1
                          replace x2 := (hS.1 _).trans x2
                          replace x3 := (hS.1 _).trans x3
                          generalize Z i = z at y1 z0 z9 hrem
                          generalize Fz i = fz at y2 x2
                          generalize Fs i = fs at y3 x3
                          have b1 : (fz != fz) = false := by simp
                          have b2 : (fs != fs) = false := by simp
                          have hKz : (K : Int) < (n : Int) := by omega
                          have r3 := (hS.1 _).trans (hP14.get hKn)
                          have r4 := (hS.1 _).trans c31
                          go_upto_region 75 with fail
                          rw [hrem]
                          clear hrem y1
                          go_quiet (fail)
                          go_wp2_with fail
                          go_roundg (m - (i + 1))
                          case measure => omega
                          case rel => exact ⟨i + 1, by omega, rfl, by go_num, hS.drewN _⟩
                        · go_wp2_with fail
                          go_meet
                          case rel => exact hS
                    case rest =>
                      have hS9 := hcut
                      clear hcut hS8
                      obtain ⟨W17, hW17⟩ : ∃ W : World, W = wc := ⟨_, rfl⟩
                      subst hW17
                      go_upto_block 18 with fail
                      go_cut [43] from 454 to 502 (fun s43 wx => Sm W14 wx)
                      case first => as_aux_lemma =>
                        go_wp2_with fail
                        go_loopg [43] n (fun gh v43 wr => ∃ k, k ≤ n ∧ gh = n - k ∧ v43 = .int .i64 (k : Nat) ∧ Sm W14 wr)
                        case atStart => exact ⟨0, Nat.zero_le _, rfl, rfl, hS9⟩
                        case round =>
                          obtain ⟨k, hk, rfl, rfl, hS⟩ := hrel
                          by_cases hlt : k < n
                          · have hz : (k : Int) < (n : Int) := by omega
                            have hB := hB14.trans (hS.2.mono hgr14)
                            have hkD : k < D.n := by rw [hDn]; exact hlt
                            obtain ⟨s1, s2, s3⟩ := (hsp4.below hB hab4) k hlt
                            have p1 : W14.cell? ⟨gp + 1 + k, 1, none⟩ = some (.int .i64 (fin.seen k)) := (pcell_get hN1.pcs hkD 1).trans rfl
                            have p3 : W14.cell? ⟨gp + 1 + k, 3, none⟩ = some (.bool (D.Bd k)) := (pcell_get hN1.pcs hkD 3).trans rfl
                            have p5 : W14.cell? ⟨gp + 1 + k, 5, none⟩ = some (.int .i64 (D.N k)) := (pcell_get hN1.pcs hkD 5).trans rfl
                            have m1 := (hM4.get hkD).1
                            rw [show D.Bd k = Bd k by rw [HD.out]] at p3
                            rw [show D.N k = N k by rw [HD.out]] at p5
                            replace p1 := (hS.1 _).trans p1
                            replace p3 := (hS.1 _).trans p3
                            replace p5 := (hS.1 _).trans p5
                            replace m1 := (hS.1 _).trans m1
                            have r3 := (hS.1 _).trans (hP14.get hlt)
                            generalize fin.seen k = sk at p1 m1
                            generalize Bd k = bk at p3 s3
                            generalize N k = nk at p5 s2
                            have b1 : (sk != sk) = false := by simp
                            have b2 : (bk != bk) = false := by simp
                            have b3 : (nk != nk) = false := by simp
                            go_wp2_with fail
                            go_quiet (fail)
                            go_wp2_with fail
                            go_roundg (n - (k + 1))
                            case measure => omega
                            case rel => exact ⟨k + 1, by omega, rfl, by go_num, hS.drewN _⟩
                          · go_wp2_with fail
                            go_meet
                            case rel => exact hS
                      case rest =>
                        have hS10 := hcut
                        clear hcut hS9
                        go_wp2_with fail
                        go_ret
                        exact ⟨rfl, hend4.trans ((hB14.trans (hS10.2.mono hgr14)).mono hwg)⟩
end Go.Proofs.Ybulkexpik
