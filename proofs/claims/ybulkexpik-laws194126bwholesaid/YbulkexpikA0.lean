/- LawS194126B: the plain half; what is kept, by a block's tag; the pieces and the writer in memory. -/
import Derived.Test.YbulkexpikProg
import Derived.WalkKit
import Derived.WalkSpells
import Derived.WalkLawsBesides
import Derived.Maps.AppendAt
import Derived.Deep.RegionLaw
import Derived.BigRegion
import Derived.Deep.QuietTactic
import Derived.BigQuiet
namespace Go.Proofs.Ybulkexpik
open Go.RowKit

/-- The input, read. -/
structure Dat where
  n : Nat
  m : Nat
  N : Nat → Int
  Bd : Nat → Bool
  Fp : Nat → Nat
  Fz : Nat → Bool
  Fs : Nat → Bool
  stamp : Int
  signing : Bool
/-- The model's state. -/
structure St where
  seen : Nat → Int
  chosen : Bool
  on : List Nat
  ch : List Nat

def cho (D : Dat) (i : Nat) : Bool := decide (D.N (D.Fp i) > 1) && !D.Fs i
def onNew (D : Dat) (i : Nat) : Bool := cho D i && (!D.Bd (D.Fp i) && !D.Fz i)
def chNew (D : Dat) (i : Nat) : Bool := cho D i && D.signing
def put (f : Nat → Int) (k : Nat) (x : Int) : Nat → Int := fun j => if j = k then x else f j
def addIf (b : Bool) (l : List Nat) (k : Nat) : List Nat := if b = true then l ++ [k] else l
def step (D : Dat) (i : Nat) (s : St) : St := ⟨put s.seen (D.Fp i) D.stamp, s.chosen || cho D i, addIf (onNew D i) s.on (D.Fp i), addIf (chNew D i) s.ch (D.Fp i)⟩
def run (D : Dat) : Nat → St → St
  | 0, s => s
  | i + 1, s => if s.seen (D.Fp i) = D.stamp then s else run D i (step D i s)
theorem run_stop {D : Dat} {i : Nat} {s : St} (h : s.seen (D.Fp i) = D.stamp) : run D (i + 1) s = s := by rw [run, if_pos h]
theorem run_step {D : Dat} {i : Nat} {s : St} (h : s.seen (D.Fp i) ≠ D.stamp) : run D (i + 1) s = run D i (step D i s) := by rw [run, if_neg h]
theorem addIf_len (b : Bool) (l : List Nat) (k : Nat) : (addIf b l k).length ≤ l.length + 1 := by unfold addIf; split <;> simp
theorem addIf_true (l : List Nat) (k : Nat) : addIf true l k = l ++ [k] := rfl
theorem addIf_false (l : List Nat) (k : Nat) : addIf false l k = l := rfl
theorem put_same (f : Nat → Int) (k : Nat) (x : Int) : put f k x k = x := by simp [put]
theorem put_other {f : Nat → Int} {k j : Nat} {x : Int} (h : j ≠ k) : put f k x j = f j := by simp [put, h]

/-- Every block of cells whose tag is none of ts lies as it lay. -/
def Kt (ts : List TypeId) (W W' : World) : Prop := ∀ (q : Nat) (c : Array Value) (T : TypeId) (fz : Nat × Nat), T ∉ ts → W.heap[q]? = some (.cells c T fz) → W'.heap[q]? = some (.cells c T fz)
theorem Kt.refl (ts : List TypeId) (W : World) : Kt ts W W := fun _ _ _ _ _ h => h
theorem Kt.trans {ts : List TypeId} {A B C : World} (h : Kt ts A B) (k : Kt ts B C) : Kt ts A C := fun q c T fz h1 h2 => k q c T fz h1 (h q c T fz h1 h2)
theorem Kt.wide {ts us : List TypeId} {A B : World} (h : Kt ts A B) (hs : ∀ t ∈ ts, t ∈ us) : Kt us A B := fun q c T fz h1 h2 => h q c T fz (fun e => h1 (hs T e)) h2
theorem Kt.alloc {ts : List TypeId} {A W : World} (h : Kt ts A W) (o : Obj) : Kt ts A (W.alloc o) := fun q c T fz h1 h2 => by
  have := h q c T fz h1 h2
  rw [Below.heap_alloc W o q (lt_of_block this)]; exact this
theorem Kt.drew {ts : List TypeId} {A W : World} (h : Kt ts A W) : Kt ts A W.drew := h
theorem Kt.drewN {ts : List TypeId} {A W : World} (h : Kt ts A W) (n : Nat) : Kt ts A (W.drewN n) := h
theorem Kt.set {ts : List TypeId} {A W : World} (h : Kt ts A W) {b i : Nat} {c : Array Value} {t : TypeId} {fz : Nat × Nat} (hb : W.heap[b]? = some (.cells c t fz)) (ht : t ∈ ts) (u : Value) : Kt ts A (W.setCell ⟨b, i, none⟩ u) := fun q c' T fz' h1 h2 => by
  have := h q c' T fz' h1 h2
  rw [Below.heap_setCell _ _ _ q (fun e => ?_)]
  · exact this
  · simp only at e; subst e
    rw [hb] at this
    cases this
    exact h1 ht
theorem Kt.grown {ts : List TypeId} {A W W' : World} (h : Kt ts A W) {v : Value} {base n e size : Nat} {xs : List Value} (hr : W.ownsRow base e size v n xs) (he : e ∈ ts) (hg : W.grownBy W' v.ownBlock) : Kt ts A W' := fun q c T fz h1 h2 => by
  have := h q c T fz h1 h2
  rw [hg.block q (lt_of_block this) (fun e' => ?_)]
  · exact this
  · rcases hr.2 with ⟨rfl, _⟩ | ⟨g, cap, cur, rfl, _, hgb, _⟩
    · simp [Value.ownBlock] at e'
    · obtain rfl : q = g := by simpa [Value.ownBlock] using e'
      rw [hgb] at this; cases this; exact h1 he
theorem Kt.row {ts : List TypeId} {W W' : World} (h : Kt ts W W') {base n e size : Nat} {v : Value} {xs : List Value} (hr : W.ownsRow base e size v n xs) (he : e ∉ ts) : W'.ownsRow base e size v n xs := by
  refine ⟨hr.1, ?_⟩
  rcases hr.2 with h' | ⟨g, cap, cur, h1, h2, h3, h4⟩
  · exact .inl h'
  · exact .inr ⟨g, cap, cur, h1, h2, h g cur e (0, 0) he h3, h4⟩

/-- A row that another row's growing has left alone. -/
theorem row_kept {W W' : World} {base e size n : Nat} {v : Value} {xs : List Value} {r : Option Nat} (hr : W.ownsRow base e size v n xs) (hg : W.grownBy W' r) (hne : v.ownBlock ≠ r) : W'.ownsRow base e size v n xs := hr.kept hg (.inr hne)
theorem row_alloc {W : World} {base e size n : Nat} {v : Value} {xs : List Value} (hr : W.ownsRow base e size v n xs) (o : Obj) : (W.alloc o).ownsRow base e size v n xs := by
  refine ⟨hr.1, ?_⟩
  rcases hr.2 with h' | ⟨g, cap, cur, h1, h2, h3, h4⟩
  · exact .inl h'
  · exact .inr ⟨g, cap, cur, h1, h2, (Below.heap_alloc W o g (lt_of_block h3)).trans h3, h4⟩
theorem row_set {W : World} {base e size n b i : Nat} {v u : Value} {xs : List Value} {c : Array Value} {t : TypeId} (hr : W.ownsRow base e size v n xs) (hb : W.heap[b]? = some (.cells c t (0, 0))) (ht : t ≠ e) : (W.setCell ⟨b, i, none⟩ u).ownsRow base e size v n xs := by
  refine ⟨hr.1, ?_⟩
  rcases hr.2 with h' | ⟨g, cap, cur, h1, h2, h3, h4⟩
  · exact .inl h'
  · refine .inr ⟨g, cap, cur, h1, h2, (Below.heap_setCell W _ u g (fun e' => ?_)).trans h3, h4⟩
    simp only at e'; subst e'
    rw [hb] at h3; cases h3; exact ht rfl

/-- append onto a slice of the call's own, inside a region that draws. -/
theorem step_append_own {P : Program} {ops : Array Oper} {o : Oper} {a : Act} {w : World} {K : Act → World → Prop} {Q : Exit → Act → World → Prop} {E : Prop} (hg : o.guard = none) (s x : Operand) (t : TypeId)
    (ho : o.op = .call { callee := .builtin .append, args := #[s, x], argTypes := #[t, t] })
    (base : Nat) (e : TypeId) (i : TypeInfo) (z : Value) (size bytes : Nat) (ht : P.underlying t = some (.slice e)) (hi : P.info? e = some i) (hz : i.zero = some z)
    (hsize : i.size = size) (hby : i.bytes = bytes) (hzs : z.cells.size = size) (hsz : 0 < size)
    (v : Value) (n : Nat) (xs : List Value) (hs : a.eval s = v) (hown : w.ownsRow base e size v n xs)
    (ad : Addr) (m c : Nat) (news : List Value) (hx : a.eval x = .slice (some ad) m c) (hl : news.length = m * size) (hnews : ∀ j u, news[j]? = some u → w.cell? (ad.add j) = some u) (h1 : ∀ u ∈ news, u.oneCell' = true)
    (h63 : n + m ≤ maxLen) (hbytes : (n + m) * bytes ≤ 140737488355328) (hbase : base ≤ w.heap.size)
    (h : ∀ v' w', w'.ownsRow base e size v' (n + m) (xs ++ news) → w.grownBy w' v.ownBlock → (v'.ownBlock = v.ownBlock ∨ v'.ownBlock = some w.heap.size) → K (a.put o.dst v') w') :
    if Region.wanted o (yielded ops a.tmps) = true then Oper.wp P o a w K Q else E := by
  have hw : Region.wanted o (yielded ops a.tmps) = true := by simp [Region.wanted, hg]
  rw [if_pos hw]
  obtain ⟨v', w', hr, h2, h3, h4, h5⟩ := run_append_own_at (P := P) w base t o.type e i z size bytes ht hi hz hsize hby hzs hsz v n xs hown ad m c news hl hnews h1 h63 hbytes hbase
  unfold Oper.wp execOp
  simp only [ho, resolve, invoke, builtin, Sem.run_bind, Sem.run_pure, Result.andThen_ok, List.map_toArray, List.map_cons, List.map_nil, hs, hx, hr]
  exact h v' w' h2 h3 h5

/-- Piece k, as an interface value. -/
abbrev ifc (gp k : Nat) : Value := .iface 28 (.pointer (some ⟨gp + 1 + k, 0, none⟩))
/-- Piece k's cells. -/
def pcell (D : Dat) (seen : Nat → Int) (k : Nat) : Array Value := #[.int .i64 0, .int .i64 (seen k), .int .i64 0, .bool (D.Bd k), .int .i64 0, .int .i64 (D.N k)]
def Pcs (D : Dat) (gp : Nat) (seen : Nat → Int) (W : World) : Prop := ∀ k, k < D.n → W.heap[gp + 1 + k]? = some (.cells (pcell D seen k) 33 (0, 0))
/-- The writer's cells, those that the road comes to. -/
def Wrt (gw : Nat) (vs : Value) (stamp : Int) (signing noted chosen : Bool) (vL vH : Value) (W : World) : Prop :=
  ∃ cur, W.heap[gw]? = some (.cells cur 62 (0, 0)) ∧ cur[16]? = some (.bool noted) ∧ cur[31]? = some vs ∧ cur[44]? = some (.int .i64 stamp) ∧ cur[45]? = some vL ∧ cur[48]? = some (.bool chosen) ∧ cur[100]? = some (.bool signing) ∧ cur[101]? = some vH
def ifcs (gp : Nat) (l : List Nat) : List Value := l.map (ifc gp)

/-- What noteWriter works on. -/
structure NW (D : Dat) (gp gw B : Nat) (vs : Value) (noted : Bool) (s : St) (W : World) (vL vH : Value) : Prop where
  pcs : Pcs D gp s.seen W
  wrt : Wrt gw vs D.stamp D.signing noted s.chosen vL vH W
  rL : W.ownsRow B 38 1 vL s.on.length (ifcs gp s.on)
  rH : W.ownsRow B 38 1 vH s.ch.length (ifcs gp s.ch)
  ne : vL.ownBlock ≠ vH.ownBlock
  sL : vL.ownBlock ≠ none
  sH : vH.ownBlock ≠ none
end Go.Proofs.Ybulkexpik
