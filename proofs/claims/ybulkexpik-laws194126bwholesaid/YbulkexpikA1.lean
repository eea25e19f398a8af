/- LawS194126B: base, states, noteWriter. -/
import Derived.Test.YbulkexpikA0
import Derived.Deep.DeepCutAuto
import Derived.Deep.CutRange
import Derived.Deep.CutBlock
import Derived.Deep.LoopGhost
namespace Go.Proofs.Ybulkexpik
open Go.RowKit

theorem base_any (b : Nat) (w : World) : Calls Yba.prog 21 #[.pointer (some ⟨b, 0, none⟩)] w fun e w' => e = .returned (.pointer (some ⟨b, 0, none⟩)) ∧ w' = w := by
  go_enter Yba.func21, Yba.ntmps21
  go_wp2
  go_ret
  exact ⟨rfl, rfl⟩
theorem states_any (b : Nat) (N : Int) (w : World) (h : w.cell? ⟨b, 5, none⟩ = some (.int .i64 N)) : Calls Yba.prog 22 #[.pointer (some ⟨b, 0, none⟩)] w fun e w' => e = .returned (.int .i64 N) ∧ w' = w := by
  go_enter Yba.func22, Yba.ntmps22
  go_wp2
  go_ret
  exact ⟨rfl, rfl⟩

/-- A method's name, off the type's own table. -/
def nmOf (ms : Array Method) (k : Nat) : String := ((ms[k]?).map (fun m => m.name)).getD "x"
theorem meth_base (a : Addr) (w : World) : (method 226 28 (.pointer (some a)) (nmOf Yba.t28.methods 0)).run Yba.prog w = .ok (21, .pointer (some a)) w := by kernel_rfl
theorem meth_states (a : Addr) (w : World) : (method 226 28 (.pointer (some a)) (nmOf Yba.t28.methods 3)).run Yba.prog w = .ok (22, .pointer (some a)) w := by kernel_rfl

/-- A world whose old blocks lie as they lay. -/
theorem NW.keep {D : Dat} {gp gw B : Nat} {vs : Value} {noted : Bool} {s : St} {W W' : World} {vL vH : Value} (h : NW D gp gw B vs noted s W vL vH) (hk : ∀ q, q < W.heap.size → W'.heap[q]? = W.heap[q]?) : NW D gp gw B vs noted s W' vL vH := by
  have row : ∀ {v : Value} {n : Nat} {xs : List Value}, W.ownsRow B 38 1 v n xs → W'.ownsRow B 38 1 v n xs := fun hr => by
    refine ⟨hr.1, ?_⟩
    rcases hr.2 with h' | ⟨g, cap, cur, h1, h2, h3, h4⟩
    · exact .inl h'
    · exact .inr ⟨g, cap, cur, h1, h2, (hk g (lt_of_block h3)).trans h3, h4⟩
  obtain ⟨cur, hc, hrest⟩ := h.wrt
  exact ⟨fun k hk' => (hk _ (lt_of_block (h.pcs k hk'))).trans (h.pcs k hk'), ⟨cur, (hk _ (lt_of_block hc)).trans hc, hrest⟩, row h.rL, row h.rH, h.ne, h.sL, h.sH⟩
theorem NW.alloc {D : Dat} {gp gw B : Nat} {vs : Value} {noted : Bool} {s : St} {W : World} {vL vH : Value} (h : NW D gp gw B vs noted s W vL vH) (o : Obj) : NW D gp gw B vs noted s (W.alloc o) vL vH := h.keep fun q hq => Below.heap_alloc W o q hq

theorem heap_set_same {W : World} {b i : Nat} {c : Array Value} {t : TypeId} {u : Value} (h : W.heap[b]? = some (.cells c t (0, 0))) : (W.setCell ⟨b, i, none⟩ u).heap[b]? = some (.cells (c.setIfInBounds i u) t (0, 0)) := by
  simp [World.setCell, Array.getElem?_modify, h]

theorem set_get {c : Array Value} {i : Nat} {u : Value} (h : i < c.size) : (c.setIfInBounds i u)[i]? = some u := by simp [h]
theorem set_other {c : Array Value} {i j : Nat} {u : Value} (h : i ≠ j) : (c.setIfInBounds i u)[j]? = c[j]? := Array.getElem?_setIfInBounds_ne h

/-- Piece k's stamp is set. -/
theorem NW.seen {D : Dat} {gp gw B k : Nat} {vs : Value} {noted : Bool} {s : St} {W : World} {vL vH : Value} (h : NW D gp gw B vs noted s W vL vH) (hk : k < D.n) (x : Int) : NW D gp gw B vs noted ⟨put s.seen k x, s.chosen, s.on, s.ch⟩ (W.setCell ⟨gp + 1 + k, 1, none⟩ (.int .i64 x)) vL vH := by
  have hp := h.pcs k hk
  obtain ⟨cur, hc, hrest⟩ := h.wrt
  refine ⟨fun j hj => ?_, ⟨cur, (Below.heap_setCell W _ _ gw (fun e => ?_)).trans hc, hrest⟩, row_set h.rL hp (by decide), row_set h.rH hp (by decide), h.ne, h.sL, h.sH⟩
  · by_cases e : j = k
    · subst e
      rw [heap_set_same hp]
      simp [pcell, put]
    · rw [Below.heap_setCell _ _ _ _ (by simp; omega), h.pcs j hj]
      simp [pcell, put, e]
  · simp only at e
    rw [e, hp] at hc
    cases hc

/-- One of the writer's flags is set. -/
theorem NW.flag {D : Dat} {gp gw B : Nat} {vs : Value} {noted : Bool} {s : St} {W : World} {vL vH : Value} (h : NW D gp gw B vs noted s W vL vH) : NW D gp gw B vs noted ⟨s.seen, true, s.on, s.ch⟩ (W.setCell ⟨gw, 48, none⟩ (.bool true)) vL vH := by
  obtain ⟨cur, hc, h16, h31, h44, h45, h48, h100, h101⟩ := h.wrt
  have hsz : 101 < cur.size := (Array.getElem?_eq_some_iff.1 h101).1
  refine ⟨fun j hj => ?_, ⟨_, heap_set_same hc, ?_, ?_, ?_, ?_, ?_, ?_, ?_⟩, row_set h.rL hc (by decide), row_set h.rH hc (by decide), h.ne, h.sL, h.sH⟩
  · rw [Below.heap_setCell _ _ _ _ (fun e => ?_)]
    · exact h.pcs j hj
    · simp only at e
      have := h.pcs j hj
      rw [e, hc] at this
      cases this
  · exact (set_other (by decide)).trans h16
  · exact (set_other (by decide)).trans h31
  · exact (set_other (by decide)).trans h44
  · exact (set_other (by decide)).trans h45
  · exact set_get (by omega)
  · exact (set_other (by decide)).trans h100
  · exact (set_other (by decide)).trans h101
theorem NW.noted {D : Dat} {gp gw B : Nat} {vs : Value} {noted : Bool} {s : St} {W : World} {vL vH : Value} (h : NW D gp gw B vs noted s W vL vH) : NW D gp gw B vs true s (W.setCell ⟨gw, 16, none⟩ (.bool true)) vL vH := by
  obtain ⟨cur, hc, h16, h31, h44, h45, h48, h100, h101⟩ := h.wrt
  have hsz : 101 < cur.size := (Array.getElem?_eq_some_iff.1 h101).1
  refine ⟨fun j hj => ?_, ⟨_, heap_set_same hc, ?_, ?_, ?_, ?_, ?_, ?_, ?_⟩, row_set h.rL hc (by decide), row_set h.rH hc (by decide), h.ne, h.sL, h.sH⟩
  · rw [Below.heap_setCell _ _ _ _ (fun e => ?_)]
    · exact h.pcs j hj
    · simp only at e
      have := h.pcs j hj
      rw [e, hc] at this
      cases this
  · exact set_get (by omega)
  · exact (set_other (by decide)).trans h31
  · exact (set_other (by decide)).trans h44
  · exact (set_other (by decide)).trans h45
  · exact (set_other (by decide)).trans h48
  · exact (set_other (by decide)).trans h100
  · exact (set_other (by decide)).trans h101

/-- A piece is appended to onLine; to choices. -/
theorem NW.grow {D : Dat} {gp gw B : Nat} {vs : Value} {noted : Bool} {s : St} {W W' : World} {vL vH : Value} {r : Option Nat} (h : NW D gp gw B vs noted s W vL vH) (hg : W.grownBy W' r) (hr : r = vL.ownBlock ∨ r = vH.ownBlock) :
    Pcs D gp s.seen W' ∧ Wrt gw vs D.stamp D.signing noted s.chosen vL vH W' := by
  have other : ∀ (q : Nat) (c : Array Value) (T : TypeId), T ≠ 38 → W.heap[q]? = some (.cells c T (0, 0)) → W'.heap[q]? = some (.cells c T (0, 0)) := fun q c T hT hq => by
    rw [hg.block q (lt_of_block hq) (fun e => ?_)]
    · exact hq
    · rcases hr with hr' | hr'
      · rcases h.rL.2 with ⟨h', _⟩ | ⟨g, cap, cur, h', _, hgb, _⟩
        · exact h.sL (by rw [h']; rfl)
        · rw [hr', h'] at e
          obtain rfl : q = g := by simpa [Value.ownBlock] using e
          rw [hgb] at hq; cases hq; exact hT rfl
      · rcases h.rH.2 with ⟨h', _⟩ | ⟨g, cap, cur, h', _, hgb, _⟩
        · exact h.sH (by rw [h']; rfl)
        · rw [hr', h'] at e
          obtain rfl : q = g := by simpa [Value.ownBlock] using e
          rw [hgb] at hq; cases hq; exact hT rfl
  obtain ⟨cur, hc, hrest⟩ := h.wrt
  exact ⟨fun k hk => other _ _ _ (by decide) (h.pcs k hk), ⟨cur, other _ _ _ (by decide) hc, hrest⟩⟩
theorem own_lt {W : World} {B e n : Nat} {v : Value} {xs : List Value} (h : W.ownsRow B e 1 v n xs) (q : Nat) (hq : v.ownBlock = some q) : q < W.heap.size := by
  rcases h.2 with ⟨rfl, _⟩ | ⟨g, cap, cur, rfl, _, hgb, _⟩
  · simp [Value.ownBlock] at hq
  · obtain rfl : g = q := by simpa [Value.ownBlock] using hq
    exact lt_of_block hgb
theorem NW.pushL {D : Dat} {gp gw B k : Nat} {vs v' : Value} {noted : Bool} {s : St} {W W' : World} {vL vH : Value} (h : NW D gp gw B vs noted s W vL vH) (hg : W.grownBy W' vL.ownBlock) (ho : W'.ownsRow B 38 1 v' (s.on.length + 1) (ifcs gp s.on ++ [ifc gp k])) (hat : v'.ownBlock = vL.ownBlock ∨ v'.ownBlock = some W.heap.size) :
    NW D gp gw B vs noted ⟨s.seen, s.chosen, s.on ++ [k], s.ch⟩ (W'.setCell ⟨gw, 45, none⟩ v') v' vH := by
  obtain ⟨hp, cur, hc, h16, h31, h44, h45, h48, h100, h101⟩ := h.grow hg (.inl rfl)
  have hsz : 101 < cur.size := (Array.getElem?_eq_some_iff.1 h101).1
  have hne : v'.ownBlock ≠ vH.ownBlock := by
    rcases hat with e | e
    · rw [e]; exact h.ne
    · rw [e]; intro e'
      exact absurd (own_lt h.rH _ e'.symm) (Nat.lt_irrefl _)
  have hsL : v'.ownBlock ≠ none := by
    rcases hat with e | e
    · rw [e]; exact h.sL
    · rw [e]; intro e'; cases e'
  refine ⟨fun j hj => ?_, ⟨_, heap_set_same hc, ?_, ?_, ?_, ?_, ?_, ?_, ?_⟩, row_set (by simpa [ifcs] using ho) hc (by decide), row_set (row_kept h.rH hg (fun e => h.ne e.symm)) hc (by decide), hne, hsL, h.sH⟩
  · rw [Below.heap_setCell _ _ _ _ (fun e => ?_)]
    · exact hp j hj
    · simp only at e
      have := hp j hj
      rw [e, hc] at this
      cases this
  · exact (set_other (by decide)).trans h16
  · exact (set_other (by decide)).trans h31
  · exact (set_other (by decide)).trans h44
  · exact set_get (by omega)
  · exact (set_other (by decide)).trans h48
  · exact (set_other (by decide)).trans h100
  · exact (set_other (by decide)).trans h101
theorem NW.pushH {D : Dat} {gp gw B k : Nat} {vs v' : Value} {noted : Bool} {s : St} {W W' : World} {vL vH : Value} (h : NW D gp gw B vs noted s W vL vH) (hg : W.grownBy W' vH.ownBlock) (ho : W'.ownsRow B 38 1 v' (s.ch.length + 1) (ifcs gp s.ch ++ [ifc gp k])) (hat : v'.ownBlock = vH.ownBlock ∨ v'.ownBlock = some W.heap.size) :
    NW D gp gw B vs noted ⟨s.seen, s.chosen, s.on, s.ch ++ [k]⟩ (W'.setCell ⟨gw, 101, none⟩ v') vL v' := by
  obtain ⟨hp, cur, hc, h16, h31, h44, h45, h48, h100, h101⟩ := h.grow hg (.inr rfl)
  have hsz : 101 < cur.size := (Array.getElem?_eq_some_iff.1 h101).1
  have hne : vL.ownBlock ≠ v'.ownBlock := by
    rcases hat with e | e
    · rw [e]; exact h.ne
    · rw [e]; intro e'
      exact absurd (own_lt h.rL _ e') (Nat.lt_irrefl _)
  have hsH : v'.ownBlock ≠ none := by
    rcases hat with e | e
    · rw [e]; exact h.sH
    · rw [e]; intro e'; cases e'
  refine ⟨fun j hj => ?_, ⟨_, heap_set_same hc, ?_, ?_, ?_, ?_, ?_, ?_, ?_⟩, row_set (row_kept h.rL hg h.ne) hc (by decide), row_set (by simpa [ifcs] using ho) hc (by decide), hne, h.sL, hsH⟩
  · rw [Below.heap_setCell _ _ _ _ (fun e => ?_)]
    · exact hp j hj
    · simp only at e
      have := hp j hj
      rw [e, hc] at this
      cases this
  · exact (set_other (by decide)).trans h16
  · exact (set_other (by decide)).trans h31
  · exact (set_other (by decide)).trans h44
  · exact (set_other (by decide)).trans h45
  · exact (set_other (by decide)).trans h48
  · exact (set_other (by decide)).trans h100
  · exact set_get (by omega)

theorem Wrt.get {gw : Nat} {vs : Value} {stamp : Int} {signing noted chosen : Bool} {vL vH : Value} {W : World} (h : Wrt gw vs stamp signing noted chosen vL vH W) :
    W.cell? ⟨gw, 16, none⟩ = some (.bool noted) ∧ W.cell? ⟨gw, 31, none⟩ = some vs ∧ W.cell? ⟨gw, 44, none⟩ = some (.int .i64 stamp) ∧ W.cell? ⟨gw, 45, none⟩ = some vL ∧ W.cell? ⟨gw, 48, none⟩ = some (.bool chosen) ∧ W.cell? ⟨gw, 100, none⟩ = some (.bool signing) ∧ W.cell? ⟨gw, 101, none⟩ = some vH ∧ ∀ i, W.frozen? ⟨gw, i, none⟩ = false := by
  obtain ⟨cur, hc, h16, h31, h44, h45, h48, h100, h101⟩ := h
  have e : ∀ i, W.cell? ⟨gw, i, none⟩ = cur[i]? := fun i => by simp [World.cell?, hc]
  exact ⟨(e _).trans h16, (e _).trans h31, (e _).trans h44, (e _).trans h45, (e _).trans h48, (e _).trans h100, (e _).trans h101, fun i => by simp [World.frozen?, hc]⟩
theorem pcell_get {D : Dat} {gp k : Nat} {seen : Nat → Int} {W : World} (h : Pcs D gp seen W) (hk : k < D.n) (i : Nat) : W.cell? ⟨gp + 1 + k, i, none⟩ = (pcell D seen k)[i]? := by
  simp [World.cell?, h k hk]
theorem pcell_free {D : Dat} {gp k : Nat} {seen : Nat → Int} {W : World} (h : Pcs D gp seen W) (hk : k < D.n) (i : Nat) : W.frozen? ⟨gp + 1 + k, i, none⟩ = false := by
  simp [World.frozen?, h k hk]

theorem NW.drew {D : Dat} {gp gw B : Nat} {vs : Value} {noted : Bool} {s : St} {W : World} {vL vH : Value} (h : NW D gp gw B vs noted s W vL vH) : NW D gp gw B vs noted s W.drew vL vH := ⟨h.pcs, h.wrt, h.rL, h.rH, h.ne, h.sL, h.sH⟩
theorem step_no {D : Dat} {i : Nat} (s : St) (h : cho D i = false) : step D i s = ⟨put s.seen (D.Fp i) D.stamp, s.chosen, s.on, s.ch⟩ := by simp [step, onNew, chNew, h, addIf]
theorem step_yes {D : Dat} {i : Nat} (s : St) (h : cho D i = true) : step D i s = ⟨put s.seen (D.Fp i) D.stamp, true, addIf (!D.Bd (D.Fp i) && !D.Fz i) s.on (D.Fp i), addIf D.signing s.ch (D.Fp i)⟩ := by simp [step, onNew, chNew, h]
theorem info38 : (Yba.prog.info? 38).map (fun i => (i.zero, i.size, i.bytes)) = some (some .nilIface, 1, 16) := by kernel_rfl
theorem slice_of_own {W : World} {B e n : Nat} {v : Value} {xs : List Value} (h : W.ownsRow B e 1 v n xs) (hs : v.ownBlock ≠ none) : ∃ g cap, v = .slice (some ⟨g, 0, none⟩) n cap ∧ n ≤ cap := by
  rcases h.2 with ⟨rfl, _⟩ | ⟨g, cap, cur, rfl, _, _, hn, _⟩
  · exact absurd rfl hs
  · exact ⟨g, cap, rfl, hn⟩

theorem NW.appL {D : Dat} {gp gw B k gx : Nat} {vs v' : Value} {noted : Bool} {s : St} {W W3 w' : World} {vL vH : Value} {X : Array Value} (h : NW D gp gw B vs noted s W3 vL vH) (ho : w'.ownsRow B 38 1 v' (s.on.length + 1) (ifcs gp s.on ++ [ifc gp k])) (hg : (W3.alloc (.cells #[ifc gp k] 38)).drew.grownBy w' vL.ownBlock) (hat : v'.ownBlock = vL.ownBlock ∨ v'.ownBlock = some (W3.alloc (.cells #[ifc gp k] 38)).drew.heap.size) (hk : Kt [33, 38, 62] W W3) (hb : Below B W W3) (hB : B ≤ W3.heap.size) (hgw : B ≤ gw) (hx : W3.heap[gx]? = some (.cells X 40 (0, 0))) :
    (∃ g cap, v' = .slice (some ⟨g, 0, none⟩) (s.on.length + 1) cap) ∧ w'.cell? ⟨gw, 45, none⟩ = some vL ∧ w'.frozen? ⟨gw, 45, none⟩ = false ∧ Hid (NW D gp gw B vs noted ⟨s.seen, s.chosen, s.on ++ [k], s.ch⟩ (w'.setCell ⟨gw, 45, none⟩ v') v' vH ∧ Kt [33, 38, 62] W (w'.setCell ⟨gw, 45, none⟩ v') ∧ Below B W (w'.setCell ⟨gw, 45, none⟩ v') ∧ (w'.setCell ⟨gw, 45, none⟩ v').heap[gx]? = some (.cells X 40 (0, 0)) ∧ B ≤ (w'.setCell ⟨gw, 45, none⟩ v').heap.size) := by
  have h3 := (h.alloc (.cells #[ifc gp k] 38)).drew
  have hsz : (W3.alloc (.cells #[ifc gp k] 38)).drew.heap.size = W3.heap.size + 1 := Array.size_push _
  have hN := h3.pushL hg ho hat
  obtain ⟨_, hw⟩ := h3.grow hg (.inl rfl)
  obtain ⟨cw, hcw⟩ : ∃ cw, w'.heap[gw]? = some (.cells cw 62 (0, 0)) := by obtain ⟨cur, hc, _⟩ := hw; exact ⟨cur, hc⟩
  obtain ⟨c16, c31, c44, c45, c48, c100, c101, cf⟩ := hw.get
  obtain ⟨g, cap, e, _⟩ := slice_of_own ho hN.sL
  have hx3 : (W3.alloc (.cells #[ifc gp k] 38)).drew.heap[gx]? = some (.cells X 40 (0, 0)) := (Below.heap_alloc W3 _ gx (lt_of_block hx)).trans hx
  have hk4 : Kt [33, 38, 62] W w' := Kt.grown (hk.alloc _).drew h3.rL (by decide) hg
  have hk0 : Kt [38] (W3.alloc (.cells #[ifc gp k] 38)).drew w' := Kt.grown (Kt.refl _ _) h3.rL (by decide) hg
  have hx4 := hk0 gx X 40 (0, 0) (by decide) hx3
  have hb4 : Below B W w' := ((hb.alloc hB _).drew).grown hg (by rw [hsz]; omega) (fun q hq => by
    rcases h3.rL.2 with ⟨e', _⟩ | ⟨g', cap', cur', e', hBg, _⟩
    · rw [e'] at hq; cases hq
    · rw [e'] at hq; cases hq; exact hBg)
  have hB4 : B ≤ w'.heap.size := Nat.le_trans hB (Nat.le_trans (by rw [hsz]; omega) hg.size)
  refine ⟨⟨g, cap, e⟩, c45, cf _, hN, hk4.set hcw (by decide) _, hb4.setCell hgw _, (Below.heap_setCell _ _ _ _ (fun e' => ?_)).trans hx4, Nat.le_trans hB4 (by show w'.heap.size ≤ (w'.heap.modify _ _).size; simp)⟩
  simp only at e'
  rw [← e', hx4] at hcw
  cases hcw
theorem NW.appH {D : Dat} {gp gw B k gx : Nat} {vs v' : Value} {noted : Bool} {s : St} {W W3 w' : World} {vL vH : Value} {X : Array Value} (h : NW D gp gw B vs noted s W3 vL vH) (ho : w'.ownsRow B 38 1 v' (s.ch.length + 1) (ifcs gp s.ch ++ [ifc gp k])) (hg : (W3.alloc (.cells #[ifc gp k] 38)).drew.grownBy w' vH.ownBlock) (hat : v'.ownBlock = vH.ownBlock ∨ v'.ownBlock = some (W3.alloc (.cells #[ifc gp k] 38)).drew.heap.size) (hk : Kt [33, 38, 62] W W3) (hb : Below B W W3) (hB : B ≤ W3.heap.size) (hgw : B ≤ gw) (hx : W3.heap[gx]? = some (.cells X 40 (0, 0))) :
    (∃ g cap, v' = .slice (some ⟨g, 0, none⟩) (s.ch.length + 1) cap) ∧ w'.cell? ⟨gw, 101, none⟩ = some vH ∧ w'.frozen? ⟨gw, 101, none⟩ = false ∧ Hid (NW D gp gw B vs noted ⟨s.seen, s.chosen, s.on, s.ch ++ [k]⟩ (w'.setCell ⟨gw, 101, none⟩ v') vL v' ∧ Kt [33, 38, 62] W (w'.setCell ⟨gw, 101, none⟩ v') ∧ Below B W (w'.setCell ⟨gw, 101, none⟩ v') ∧ (w'.setCell ⟨gw, 101, none⟩ v').heap[gx]? = some (.cells X 40 (0, 0)) ∧ B ≤ (w'.setCell ⟨gw, 101, none⟩ v').heap.size) := by
  have h3 := (h.alloc (.cells #[ifc gp k] 38)).drew
  have hsz : (W3.alloc (.cells #[ifc gp k] 38)).drew.heap.size = W3.heap.size + 1 := Array.size_push _
  have hN := h3.pushH hg ho hat
  obtain ⟨_, hw⟩ := h3.grow hg (.inr rfl)
  obtain ⟨cw, hcw⟩ : ∃ cw, w'.heap[gw]? = some (.cells cw 62 (0, 0)) := by obtain ⟨cur, hc, _⟩ := hw; exact ⟨cur, hc⟩
  obtain ⟨c16, c31, c44, c45, c48, c100, c101, cf⟩ := hw.get
  obtain ⟨g, cap, e, _⟩ := slice_of_own ho hN.sH
  have hx3 : (W3.alloc (.cells #[ifc gp k] 38)).drew.heap[gx]? = some (.cells X 40 (0, 0)) := (Below.heap_alloc W3 _ gx (lt_of_block hx)).trans hx
  have hk4 : Kt [33, 38, 62] W w' := Kt.grown (hk.alloc _).drew h3.rH (by decide) hg
  have hk0 : Kt [38] (W3.alloc (.cells #[ifc gp k] 38)).drew w' := Kt.grown (Kt.refl _ _) h3.rH (by decide) hg
  have hx4 := hk0 gx X 40 (0, 0) (by decide) hx3
  have hb4 : Below B W w' := ((hb.alloc hB _).drew).grown hg (by rw [hsz]; omega) (fun q hq => by
    rcases h3.rH.2 with ⟨e', _⟩ | ⟨g', cap', cur', e', hBg, _⟩
    · rw [e'] at hq; cases hq
    · rw [e'] at hq; cases hq; exact hBg)
  have hB4 : B ≤ w'.heap.size := Nat.le_trans hB (Nat.le_trans (by rw [hsz]; omega) hg.size)
  refine ⟨⟨g, cap, e⟩, c101, cf _, hN, hk4.set hcw (by decide) _, hb4.setCell hgw _, (Below.heap_setCell _ _ _ _ (fun e' => ?_)).trans hx4, Nat.le_trans hB4 (by show w'.heap.size ≤ (w'.heap.modify _ _).size; simp)⟩
  simp only at e'
  rw [← e', hx4] at hcw
  cases hcw

set_option maxHeartbeats 1000000 in
set_option maxRecDepth 100000 in
theorem note_any (D : Dat) (gp gw B i : Nat) (vs : Value) (s : St) (W : World) (vL vH : Value) (h : NW D gp gw B vs true s W vL vH) (hk : D.Fp i < D.n) (hon : s.on.length ≤ 1000000) (hch : s.ch.length ≤ 1000000) (hB : B ≤ W.heap.size) (hgB : B ≤ gp) (hgw : B ≤ gw) :
    Calls Yba.prog 5 #[.pointer (some ⟨gw, 0, none⟩), .agg #[ifc gp (D.Fp i), .bool (D.Fz i), .bool (D.Fs i)]] W fun e w' =>
      (s.seen (D.Fp i) = D.stamp ∧ e = .returned (.bool false) ∧ NW D gp gw B vs true s w' vL vH ∧ Kt [33, 38, 62] W w' ∧ Below B W w') ∨
      (s.seen (D.Fp i) ≠ D.stamp ∧ e = .returned (.bool true) ∧ (∃ vL' vH', NW D gp gw B vs true (step D i s) w' vL' vH') ∧ Kt [33, 38, 62] W w' ∧ Below B W w') := by
  have q1 : W.cell? ⟨gp + 1 + D.Fp i, 1, none⟩ = some (.int .i64 (s.seen (D.Fp i))) := (pcell_get h.pcs hk 1).trans rfl
  have mb := meth_base
  have ms := meth_states
  simp only [nmOf, Yba.t28] at mb ms
  simp at mb ms
  go_enter Yba.func5, Yba.ntmps5
  go_upto_region 2 with (go_at_call 21; refine (base_any _ _).mono ?_; rintro e w1 ⟨rfl, rfl⟩)
  have h1 := h.alloc (.cells #[ifc gp (D.Fp i), .bool (D.Fz i), .bool (D.Fs i)] 40)
  have hk1 : Kt [33, 38, 62] W (W.alloc (.cells #[ifc gp (D.Fp i), .bool (D.Fz i), .bool (D.Fs i)] 40)) := (Kt.refl _ W).alloc _
  have hb1 : Below B W (W.alloc (.cells #[ifc gp (D.Fp i), .bool (D.Fz i), .bool (D.Fs i)] 40)) := (Below.refl B W).alloc hB _
  have hx1 : (W.alloc (.cells #[ifc gp (D.Fp i), .bool (D.Fz i), .bool (D.Fs i)] 40)).heap[W.heap.size]? = some (.cells #[ifc gp (D.Fp i), .bool (D.Fz i), .bool (D.Fs i)] 40) := by show (W.heap.push _)[W.heap.size]? = _; simp
  have hB1 : B ≤ (W.alloc (.cells #[ifc gp (D.Fp i), .bool (D.Fz i), .bool (D.Fs i)] 40)).heap.size := Nat.le_trans hB hb1.size
  generalize W.alloc (.cells #[ifc gp (D.Fp i), .bool (D.Fz i), .bool (D.Fs i)] 40) = W1 at h1 hk1 hb1 hx1 hB1 ⊢
  generalize W.heap.size = gx at hx1 ⊢
  clear q1 h hB
  obtain ⟨K, hK⟩ : ∃ K, K = D.Fp i := ⟨_, rfl⟩
  have p1 : W1.cell? ⟨gp + 1 + D.Fp i, 1, none⟩ = some (.int .i64 (s.seen (D.Fp i))) := (pcell_get h1.pcs hk 1).trans rfl
  have pf := pcell_free h1.pcs hk 1
  obtain ⟨c16, c31, c44, c45, c48, c100, c101, cf⟩ := h1.wrt.get
  by_cases hs : s.seen (D.Fp i) = D.stamp
  · have b1 : (s.seen (D.Fp i) == D.stamp) = true := by simp [hs]
    have HS : Hid (s.seen (D.Fp i) = D.stamp) := hs
    clear hs hK
    go_region
    all_goals go_wp2_with fail
    go_ret
    exact .inl ⟨HS.out, rfl, ⟨h1.pcs, h1.wrt, h1.rL, h1.rH, h1.ne, h1.sL, h1.sH⟩, hk1.drew, hb1.drew⟩
  · have b1 : (s.seen (D.Fp i) == D.stamp) = false := by simp [hs]
    have HS : Hid (s.seen (D.Fp i) ≠ D.stamp) := hs
    have h2 := h1.seen hk D.stamp
    have hk2 : Kt [33, 38, 62] W (W1.setCell ⟨gp + 1 + D.Fp i, 1, none⟩ (.int .i64 D.stamp)) := hk1.set (h1.pcs _ hk) (by decide) _
    have hb2 : Below B W (W1.setCell ⟨gp + 1 + D.Fp i, 1, none⟩ (.int .i64 D.stamp)) := hb1.setCell (by show B ≤ gp + 1 + D.Fp i; omega) _
    have hx2 : (W1.setCell ⟨gp + 1 + D.Fp i, 1, none⟩ (.int .i64 D.stamp)).heap[gx]? = some (.cells #[ifc gp (D.Fp i), .bool (D.Fz i), .bool (D.Fs i)] 40) := (Below.heap_setCell _ _ _ _ (fun e => by
      simp only at e
      have := h1.pcs _ hk
      rw [← e, hx1] at this
      cases this)).trans hx1
    clear hs hK
    go_region
    all_goals go_upto_region 5 with fail
    replace h2 := h2.drew
    replace hk2 := hk2.drew
    replace hb2 := hb2.drew
    have hx3 : (W1.setCell ⟨gp + 1 + D.Fp i, 1, none⟩ (.int .i64 D.stamp)).drew.heap[gx]? = some (.cells #[ifc gp (D.Fp i), .bool (D.Fz i), .bool (D.Fs i)] 40) := hx2
    have hB2 : B ≤ (W1.setCell ⟨gp + 1 + D.Fp i, 1, none⟩ (.int .i64 D.stamp)).drew.heap.size := Nat.le_trans hB1 (by show W1.heap.size ≤ (W1.heap.modify _ _).size; simp)
    clear hx2 c16 c31 c44 c45 c48 c100 c101 cf p1 pf h1 hk1 hb1 hx1 hB1
    generalize (W1.setCell ⟨gp + 1 + D.Fp i, 1, none⟩ (.int .i64 D.stamp)).drew = W2 at h2 hk2 hb2 hx3 hB2 ⊢
    have x0 : W2.cell? ⟨gx, 0, none⟩ = some (ifc gp (D.Fp i)) := by simp [World.cell?, hx3]
    have x1 : W2.cell? ⟨gx, 1, none⟩ = some (.bool (D.Fz i)) := by simp [World.cell?, hx3]
    have x2 : W2.cell? ⟨gx, 2, none⟩ = some (.bool (D.Fs i)) := by simp [World.cell?, hx3]
    have p5 : W2.cell? ⟨gp + 1 + D.Fp i, 5, none⟩ = some (.int .i64 (D.N (D.Fp i))) := (pcell_get h2.pcs hk 5).trans rfl
    have hst := states_any (gp + 1 + D.Fp i) (D.N (D.Fp i)) W2 p5
    have hcho : cho D i = (decide (D.N (D.Fp i) > 1) && !D.Fs i) := rfl
    by_cases hN : D.N (D.Fp i) > 1
    rotate_left
    · have HC : Hid (cho D i = false) := by show _ = _; rw [hcho]; simp [hN]
      clear hcho
      go_wp2_with (go_at_call 22; refine hst.mono ?_; rintro e w3 ⟨rfl, hw3⟩; obtain rfl := hw3.symm)
      go_ret
      exact .inr ⟨HS.out, rfl, ⟨vL, vH, by rw [step_no s HC.out]; exact h2⟩, hk2, hb2⟩
    cases hFs : D.Fs i
    rotate_left
    · have HC : Hid (cho D i = false) := by show _ = _; rw [hcho, hFs]; simp
      rw [hFs] at x2
      clear hcho hFs
      go_wp2_with (go_at_call 22; refine hst.mono ?_; rintro e w3 ⟨rfl, hw3⟩; obtain rfl := hw3.symm)
      go_ret
      exact .inr ⟨HS.out, rfl, ⟨vL, vH, by rw [step_no s HC.out]; exact h2⟩, hk2, hb2⟩
    · have HC : Hid (cho D i = true) := by show _ = _; rw [hcho, hFs]; simp [hN]
      rw [hFs] at x2
      obtain ⟨c16, c31, c44, c45, c48, c100, c101, cf⟩ := h2.wrt.get
      have f48 := cf 48
      clear hcho hFs
      go_upto_region 7 with (go_at_call 22; refine hst.mono ?_; rintro e w3 ⟨rfl, hw3⟩; obtain rfl := hw3.symm)
      obtain ⟨cw, hcw⟩ : ∃ cw, W2.heap[gw]? = some (.cells cw 62 (0, 0)) := by obtain ⟨cur, hc, _⟩ := h2.wrt; exact ⟨cur, hc⟩
      have h3 := h2.flag
      have hk3 : Kt [33, 38, 62] W (W2.setCell ⟨gw, 48, none⟩ (.bool true)) := hk2.set hcw (by decide) _
      have hb3 : Below B W (W2.setCell ⟨gw, 48, none⟩ (.bool true)) := hb2.setCell hgw _
      have hx4 : (W2.setCell ⟨gw, 48, none⟩ (.bool true)).heap[gx]? = some (.cells #[ifc gp (D.Fp i), .bool (D.Fz i), .bool (D.Fs i)] 40) := (Below.heap_setCell _ _ _ _ (fun e => by
        simp only at e
        rw [← e, hx3] at hcw
        cases hcw)).trans hx3
      have hB3 : B ≤ (W2.setCell ⟨gw, 48, none⟩ (.bool true)).heap.size := Nat.le_trans hB2 (by show W2.heap.size ≤ (W2.heap.modify _ _).size; simp)
      clear x0 x1 x2 p5 hst c16 c31 c44 c45 c48 c100 c101 cf f48 h2 hk2 hb2 hx3 hB2 hcw
      generalize W2.setCell ⟨gw, 48, none⟩ (.bool true) = W3 at h3 hk3 hb3 hx4 hB3 ⊢
      have x0 : W3.cell? ⟨gx, 0, none⟩ = some (ifc gp (D.Fp i)) := by simp [World.cell?, hx4]
      have x1 : W3.cell? ⟨gx, 1, none⟩ = some (.bool (D.Fz i)) := by simp [World.cell?, hx4]
      have p3 : W3.cell? ⟨gp + 1 + D.Fp i, 3, none⟩ = some (.bool (D.Bd (D.Fp i))) := (pcell_get h3.pcs hk 3).trans rfl
      obtain ⟨c16, c31, c44, c45, c48, c100, c101, cf⟩ := h3.wrt.get
      clear c16 c31 c44 c48 c100 c101
      obtain ⟨i0, hi, hz0, hz1, hz2⟩ := info_parts info38
      obtain ⟨oN, hoN⟩ : ∃ oN, oN = (!D.Bd (D.Fp i) && !D.Fz i) := ⟨_, rfl⟩
      go_upto_region 7 with fail
      go_cut [46] from 37 to 46 (fun s46 wx => s46 = .bool oN ∧ wx = W3)
      case first =>
        have tf : ∀ b : Bool, b = false ∨ b = true := fun b => by cases b <;> simp
        rcases tf (D.Bd (D.Fp i)) with hBd | hBd
        · rw [hBd] at p3 hoN
          rcases tf (D.Fz i) with hFz | hFz
          · rw [hFz] at x1 hoN
            subst hoN
            clear hBd hFz
            go_wp2_with fail
            go_meet
            case rel => exact ⟨rfl, rfl⟩
          · rw [hFz] at x1 hoN
            subst hoN
            clear hBd hFz
            go_wp2_with fail
            go_meet
            case rel => exact ⟨rfl, rfl⟩
        · rw [hBd] at p3 hoN
          subst hoN
          clear hBd
          go_wp2_with fail
          go_meet
          case rel => exact ⟨rfl, rfl⟩
      case rest =>
        obtain ⟨rfl, hwc⟩ := hcut
        obtain rfl := hwc.symm
        go_upto_if 46 with fail
        go_cut [5] from 47 to 57 (fun s5 wx => s5 = .pointer (some ⟨gp + 1 + D.Fp i, 0, none⟩) ∧ (∃ vL', NW D gp gw B vs true ⟨put s.seen (D.Fp i) D.stamp, true, addIf oN s.on (D.Fp i), s.ch⟩ wx vL' vH) ∧ Kt [33, 38, 62] W wx ∧ Below B W wx ∧ wx.heap[gx]? = some (.cells #[ifc gp (D.Fp i), .bool (D.Fz i), .bool (D.Fs i)] 40) ∧ B ≤ wx.heap.size)
        case first =>
          cases oN
          · clear hoN
            go_wp2_with fail
            go_meet
            case rel => exact ⟨rfl, ⟨vL, h3⟩, hk3, hb3, hx4, hB3⟩
          · clear hoN
            obtain ⟨g, cap, rfl, hcap⟩ := slice_of_own h3.rL h3.sL
            have c45a : ∀ o : Obj, (W3.alloc o).cell? ⟨gw, 45, none⟩ = some (.slice (some ⟨g, 0, none⟩) s.on.length cap) := fun o => ((h3.alloc o).wrt.get).2.2.2.1
            have h1c : ∀ u ∈ [ifc gp (D.Fp i)], u.oneCell' = true := fun u hu => by rw [List.mem_singleton.1 hu]; rfl
            go_wp2_with fail
            go_region_law (refine step_append_own rfl (.tmp 51) (.tmp 54) 42 rfl B 38 i0 .nilIface 1 16 Yba.underlying42 hi hz0 hz1 hz2 rfl (by decide) _ s.on.length (ifcs gp s.on) (by simp [Act.eval]) (row_alloc h3.rL _) ⟨W3.heap.size, 0, none⟩ 1 1 [ifc gp (D.Fp i)] (by simp [Act.eval]) rfl (cell_one_new W3 _ 38) h1c (by unfold maxLen; omega) (by omega) (by simp; omega) ?_; intro v' w' hown hgrow hat; obtain ⟨⟨g2, cap2, rfl⟩, c45', f45, HN⟩ := h3.appL hown hgrow hat hk3 hb3 hB3 hgw hx4; clear hown hgrow hat)
            all_goals go_wp2_with fail
            all_goals go_meet
            all_goals (case rel => exact ⟨rfl, ⟨_, HN.out.1⟩, HN.out.2⟩)
        case rest =>
          obtain ⟨rfl, ⟨vL', h4⟩, hk4, hb4, hx5, hB4⟩ := hcut
          clear x0 x1 p3 c45 cf h3 hk3 hb3 hx4 hB3
          have x0 : wc.cell? ⟨gx, 0, none⟩ = some (ifc gp (D.Fp i)) := by simp [World.cell?, hx5]
          obtain ⟨c16, c31, c44, c45, c48, c100, c101, cf⟩ := h4.wrt.get
          clear c16 c31 c44 c45 c48 cf
          have tf : ∀ b : Bool, b = false ∨ b = true := fun b => by cases b <;> simp
          have hfin : step D i s = ⟨put s.seen (D.Fp i) D.stamp, true, addIf oN s.on (D.Fp i), addIf D.signing s.ch (D.Fp i)⟩ := by rw [step_yes s HC.out, hoN]
          have HF : Hid (step D i s = ⟨put s.seen (D.Fp i) D.stamp, true, addIf oN s.on (D.Fp i), addIf D.signing s.ch (D.Fp i)⟩) := hfin
          clear hoN hfin
          rcases tf D.signing with hsg | hsg
          · have HG : Hid (D.signing = false) := hsg
            rw [hsg] at c100
            clear hsg
            go_wp2_with fail
            go_ret
            exact .inr ⟨HS.out, rfl, ⟨vL', vH, by rw [HF.out, HG.out]; exact h4⟩, hk4, hb4⟩
          · have HG : Hid (D.signing = true) := hsg
            rw [hsg] at c100
            clear hsg
            obtain ⟨g, cap, rfl, hcap⟩ := slice_of_own h4.rH h4.sH
            have c101a : ∀ o : Obj, (wc.alloc o).cell? ⟨gw, 101, none⟩ = some (.slice (some ⟨g, 0, none⟩) s.ch.length cap) := fun o => ((h4.alloc o).wrt.get).2.2.2.2.2.2.1
            have h1c : ∀ u ∈ [ifc gp (D.Fp i)], u.oneCell' = true := fun u hu => by rw [List.mem_singleton.1 hu]; rfl
            go_wp2_with fail
            go_region_law (refine step_append_own rfl (.tmp 66) (.tmp 69) 42 rfl B 38 i0 .nilIface 1 16 Yba.underlying42 hi hz0 hz1 hz2 rfl (by decide) _ s.ch.length (ifcs gp s.ch) (by simp [Act.eval]) (row_alloc h4.rH _) ⟨wc.heap.size, 0, none⟩ 1 1 [ifc gp (D.Fp i)] (by simp [Act.eval]) rfl (cell_one_new wc _ 38) h1c (by unfold maxLen; omega) (by omega) (by simp; omega) ?_; intro v' w' hown hgrow hat; obtain ⟨⟨g2, cap2, rfl⟩, c101', f101, HN⟩ := h4.appH hown hgrow hat hk4 hb4 hB4 hgw hx5; clear hown hgrow hat)
            all_goals go_wp2_with fail
            all_goals go_ret
            all_goals exact .inr ⟨HS.out, rfl, ⟨_, _, by rw [HF.out, HG.out]; exact HN.out.1⟩, HN.out.2.1, HN.out.2.2.1⟩
end Go.Proofs.Ybulkexpik
