/- LawS194125A: the law itself. -/
import Derived.Test.YbulkexphwDoorA1
import Derived.LaidEqlPtr
import Derived.Deep.CutRange
import Derived.BigQuiet
import Derived.Deep.QuietTactic
namespace Go.Proofs.YbulkexphwDoor
open Go.RowKit

def u8s (xs : List Int) : List Value := xs.map (Value.int .u8)

/-- A slice that owns the bytes xs. -/
theorem owned_bytes {W : World} {B : Nat} {v : Value} {xs : List Int} (h : W.ownsRow B 5 1 v xs.length (u8s xs)) : ∃ a cap, v = .slice a xs.length cap ∧ IsBytes W W.heap.size a xs := by
  rcases h.2 with ⟨rfl, h0⟩ | ⟨g, cap, cur, rfl, _, hg, hn, _, hs, ht⟩
  · exact ⟨none, 0, by rw [h0], fun i hi => by omega⟩
  · refine ⟨_, cap, rfl, fun i hi => ⟨g, 0, rfl, lt_of_block hg, ?_⟩⟩
    have e : cur[i]? = some (.int .u8 (xs[i]?.getD 0)) := by
      have h1 : (cur.toList.take (xs.length * 1))[i]? = (u8s xs)[i]? := by rw [ht]
      rw [List.getElem?_take_of_lt (by omega)] at h1
      simp [u8s, hi] at h1
      simp [h1, hi]
    rw [Nat.zero_add]
    simp [World.cell?, hg, e]

set_option maxHeartbeats 2000000 in
set_option maxRecDepth 100000 in
/-- (*bytes.Buffer).Bytes. -/
theorem bytes_any (B b : Nat) (R : Nat → Option Value) (xs : List Int) (w : World) (h : LibA.IsBuffer 29 R 5 B b 0 (u8s xs) w) :
    Calls Ybad.prog 9 #[.pointer (some ⟨b, 0, none⟩)] w fun e w' => (∃ a cap, e = .returned (.slice a xs.length cap) ∧ IsBytes w' w.heap.size a xs) ∧ w' = w.drew := by
  obtain ⟨hB, v, lr, h3, ho, hne⟩ := h
  have hl : (u8s xs).length = xs.length := by simp [u8s]
  rw [hl] at ho
  obtain ⟨a, cap, rfl, hb⟩ := owned_bytes ho
  have c0 := h3.c0
  have c1 := h3.c1
  have hcap : xs.length ≤ cap := by
    rcases ho.2 with ⟨h', h0⟩ | ⟨g, cap', cur, h', _, hg, hn, _⟩
    · omega
    · cases h'; exact hn
  have hz : (0 : Int) ≤ (xs.length : Int) := by omega
  have hz2 : (xs.length : Int) ≤ (cap : Int) := by omega
  have H : Hid (IsBytes w w.heap.size a xs) := hb
  clear h3 ho hne hB hl hb
  cases a with
  | none =>
    go_enter Ybad.func9, Ybad.ntmps9
    go_wp2
    go_region
    go_wp2
    go_ret
    exact ⟨⟨_, cap, rfl, H.out⟩, rfl⟩
  | some a =>
    go_enter Ybad.func9, Ybad.ntmps9
    go_wp2
    go_region
    go_wp2
    go_ret
    exact ⟨⟨_, cap, rfl, H.out⟩, rfl⟩

/-- The tee, as the law makes it. -/
def Tee (u : Bool) (B : Nat) (bb : List Value) (p : Option Addr) (W : World) : Prop :=
  (u = false ∧ p = none) ∨ (u = true ∧ ∃ bt R, p = some ⟨bt, 0, none⟩ ∧ LibA.IsBuffer 29 R 5 B bt 0 bb W)
theorem Tee.ok {u : Bool} {B : Nat} {bb : List Value} {p : Option Addr} {W : World} (h : Tee u B bb p W) : TeeOk B bb (.pointer p) W := by
  rcases h with ⟨_, rfl⟩ | ⟨_, bt, R, rfl, h⟩
  · exact .inl rfl
  · exact .inr ⟨bt, R, rfl, h⟩
theorem Tee.back {u : Bool} {B : Nat} {bb bb' : List Value} {p : Option Addr} {W W' : World} (h : Tee u B bb p W) (h' : TeeOk B bb' (.pointer p) W') : Tee u B bb' p W' := by
  rcases h with ⟨hu, rfl⟩ | ⟨hu, bt, R, rfl, _⟩
  · exact .inl ⟨hu, rfl⟩
  · rcases h' with h' | ⟨bt', R', h', hb⟩
    · cases h'
    · cases h'
      exact .inr ⟨hu, bt, R', rfl, hb⟩

theorem u8s_one (xs : List Int) : ∀ v ∈ u8s xs, v.oneCell' = true := by
  intro v hv
  obtain ⟨a, _, rfl⟩ := List.mem_map.1 hv
  rfl
theorem u8s_len (xs : List Int) : (u8s xs).length = xs.length := by simp [u8s]
theorem IsRow.src {W : World} {g : Nat} {ys : List Int} (h : IsRow W g ys) : ∀ j v, (u8s ys)[j]? = some v → W.cell? ((⟨g, 0, none⟩ : Addr).add j) = some v := by
  intro j v hv
  have hj : j < ys.length := by
    have h' := (List.getElem?_eq_some_iff.1 hv).1
    simpa [u8s] using h'
  have e : (u8s ys)[j]? = some (.int .u8 (ys[j]?.getD 0)) := by simp [u8s, hj]
  rw [e] at hv
  cases hv
  have ha : (⟨g, 0, none⟩ : Addr).add j = ⟨g, j, none⟩ := by simp [Addr.add]; exact Eq.symm
  rw [ha]
  exact h.cell hj
theorem IsRow.bytes {W : World} {g B : Nat} {ys : List Int} (h : IsRow W g ys) (hg : g < B) : IsBytes W B (some ⟨g, 0, none⟩) ys := fun i hi => ⟨g, 0, rfl, hg, by rw [Nat.zero_add]; exact h.cell hi⟩
theorem IsBytes.up {W : World} {B C : Nat} {a : Option Addr} {xs : List Int} (h : IsBytes W B a xs) (hc : B ≤ C) : IsBytes W C a xs := fun i hi => by
  obtain ⟨ab, ao, e, hl, hcell⟩ := h i hi
  exact ⟨ab, ao, e, Nat.lt_of_lt_of_le hl hc, hcell⟩

/-- What shortInt has left behind. -/
def After (xs ts : List Int) (J g : Nat) (held col read : Int) (minus : Bool) (zeros : Int) (v : Int) (ok : Bool) (win : Value) (held' col' read' : Int) (minus' : Bool) (zeros' : Int) (bb : List Int) : Prop :=
  (Refused (fun i => xs[i]?.getD 0) xs.length J ∧ v = 0 ∧ ok = false ∧ win = .slice (some ⟨g, 0, none⟩) xs.length xs.length ∧ held' = held ∧ col' = col ∧ read' = read ∧ minus' = minus ∧ zeros' = zeros ∧ bb = ts) ∨
  (¬ Refused (fun i => xs[i]?.getD 0) xs.length J ∧ v = val (fun i => xs[i]?.getD 0) J ∧ ok = true ∧ win = .slice (some ⟨g, J, none⟩) (xs.length - J) (xs.length - J) ∧ held' = wrap64 (held + J) ∧ col' = wrap64 (col + J) ∧ read' = wrap64 (read + 1) ∧ minus' = false ∧ zeros' = zfin (fun i => xs[i]?.getD 0) J ∧ bb = ts ++ xs.take J)

theorem TeeOk.grow {B : Nat} {bb : List Value} {tee : Value} {W W' : World} (h : TeeOk B bb tee W) (hk : ∀ k, k < W.heap.size → W'.heap[k]? = W.heap[k]?) : TeeOk B bb tee W' := by
  rcases h with h | ⟨bt, R, e, hB, v, lr, h3, ⟨hl, ho⟩, hne⟩
  · exact .inl h
  · refine .inr ⟨bt, R, e, hB, v, lr, h3.of_heap (hk bt h3.lt), ⟨hl, ?_⟩, hne⟩
    rcases ho with ho | ⟨g, cap, cur, h1, h2, h4, h5⟩
    · exact .inl ho
    · exact .inr ⟨g, cap, cur, h1, h2, (hk g (lt_of_block h4)).trans h4, h5⟩

theorem info29 : ∃ j, Ybad.prog.info? 29 = some j := by
  have h : (Ybad.prog.info? 29).isSome = true := by kernel_rfl
  exact Option.isSome_iff_exists.1 h
theorem neq_fn (w : World) : (binOp .neq 38 .nilFunc .nilFunc).run Ybad.prog w = .ok (.bool false) w := by kernel_rfl
theorem neq_ptr (p : Option Addr) (w : World) : (binOp .neq 25 (.pointer p) (.pointer p)).run Ybad.prog w = .ok (.bool false) w := by
  cases p with
  | none => kernel_rfl
  | some a =>
    obtain ⟨j, hj⟩ := info29
    have h : ∀ d : Nat, (Op.equalIn (d + 1) 25 (.pointer (some a)) (.pointer (some a))).run Ybad.prog w = .ok true w := fun d => by
      simp [Op.equalIn, run_underlying Ybad.underlying25, sizeOf, typeInfo, hj, run_sameAddr_same]
    simp only [binOp]
    simp [Op.equal, Op.maxDepth, h 9999]
attribute [local go_sem] neq_fn neq_ptr

theorem lead_some (Z : Nat → Int) : ∀ J, ∃ L, Lead Z J L
  | 0 => ⟨0, ⟨Nat.le_refl _, fun i hi => by omega, fun h => by omega⟩⟩
  | J + 1 => by
    obtain ⟨L, h⟩ := lead_some Z J
    have hle := h.le
    by_cases hl : L < J
    · exact ⟨L, ⟨by omega, h.zero, fun _ => h.stop hl⟩⟩
    · obtain rfl : L = J := by omega
      by_cases hz : Z L = 48
      · refine ⟨L + 1, ⟨Nat.le_refl _, fun i hi => ?_, fun h' => by omega⟩⟩
        by_cases e : i = L
        · rw [e]; exact hz
        · exact h.zero i (by omega)
      · exact ⟨L, ⟨by omega, h.zero, fun _ => hz⟩⟩
theorem zfin_eq {Z : Nat → Int} {n J L : Nat} (h : Dig Z n J) (hl : Lead Z J L) : zfin Z J = if L = J then (J : Int) - 1 else L := zeros_eq h hl

/-- bytes.Equal of two slices with the same bytes, their length by another name. -/
theorem equal_n (a b : Option Addr) (n ca cb : Nat) (xs : List Int) (w : World) (B C : Nat) (hn : xs.length = n) (hx : IsBytes w B a xs) (hy : IsBytes w C b xs) :
    Calls Ybad.prog 8 #[.slice a n ca, .slice b n cb] w fun e w' => e = .returned (.bool true) ∧ w' = w := by
  subst hn
  exact equal_same a b ca cb xs w B C hx hy
theorem IsRow.drop {W : World} {g B : Nat} {ys : List Int} (h : IsRow W g ys) (hg : g < B) (J : Nat) : IsBytes W B (some ⟨g, J, none⟩) (ys.drop J) := fun i hi => by
  rw [List.length_drop] at hi
  refine ⟨g, J, rfl, hg, ?_⟩
  rw [List.getElem?_drop]
  exact h.cell (by omega)

theorem owned_n {W : World} {B n : Nat} {v : Value} {cs : List Value} {xs : List Int} (h : W.ownsRow B 5 1 v n cs) (hc : cs = u8s xs) (hn : xs.length = n) : ∃ a cap, v = .slice a n cap ∧ IsBytes W W.heap.size a xs := by
  subst hc hn
  exact owned_bytes h
theorem bytes_n (B b n : Nat) (p : Option Addr) (xs : List Int) (w : World) (h : Tee true B (u8s xs) p w) (hp : p = some ⟨b, 0, none⟩) (hn : xs.length = n) :
    Calls Ybad.prog 9 #[.pointer (some ⟨b, 0, none⟩)] w fun e w' => (∃ a cap, e = .returned (.slice a n cap) ∧ IsBytes w' w.heap.size a xs) ∧ w' = w.drew := by
  subst hn hp
  rcases h with ⟨h, _⟩ | ⟨_, bt, R, h, hB⟩
  · cases h
  · cases h
    exact bytes_any B b R xs w hB
theorem IsRow.owns {W : World} {g n : Nat} {ys : List Int} (h : IsRow W g ys) (hn : ys.length = n) (hm : n ≤ 1048576) : W.ownsRow g 5 1 (.slice (some ⟨g, 0, none⟩) n n) n (u8s ys) := by
  subst hn
  refine ⟨by simp [u8s], .inr ⟨g, ys.length, _, rfl, Nat.le_refl _, h, Nat.le_refl _, by unfold maxLen; omega, by simp, ?_⟩⟩
  rw [List.take_of_length_le (by simp)]
  rfl
theorem IsRow.srcJ {W : World} {g J : Nat} {ys : List Int} (h : IsRow W g ys) : ∀ j v, (digCells ys J)[j]? = some v → W.cell? ((⟨g, 0, none⟩ : Addr).add j) = some v := by
  intro j v hv
  have hj : j < (digCells ys J).length := (List.getElem?_eq_some_iff.1 hv).1
  refine h.src j v ?_
  rw [← hv]
  simp [digCells] at hj
  simp [digCells, u8s, hj]
theorem u8s_add (ts ys : List Int) (J : Nat) : u8s ts ++ digCells ys J = u8s (ts ++ ys.take J) := by simp [u8s, digCells]

def Z29 : Obj := .cells #[.slice none 0 0, .int .i64 0, .int .i8 0] 29
theorem heap_alloc_new (w : World) (o : Obj) : (w.alloc o).heap[w.heap.size]? = some o := by show (w.heap.push o)[w.heap.size]? = _; simp
theorem size_alloc (w : World) (o : Obj) : (w.alloc o).heap.size = w.heap.size + 1 := Array.size_push _
theorem tee_write (w2 w3 : World) (g : Nat) (ts : List Int) (hg : g = (w2.alloc Z29).heap.size) (hb : Below (w2.alloc Z29).heap.size (w2.alloc Z29) w3) (hr : IsRow w3 (w2.alloc Z29).heap.size ts) (hl : ts.length ≤ 1048576) :
    Calls Ybad.prog 6 #[.pointer (some ⟨w2.heap.size, 0, none⟩), .slice (some ⟨g, 0, none⟩) ts.length ts.length] w3 fun e w' => e = .returned (.tuple #[.int .i64 ts.length, .nilIface]) ∧ LibA.IsBuffer 29 (fun _ => none) 5 w2.heap.size w2.heap.size 0 (u8s ts) w' ∧ Below w2.heap.size w2 w' := by
  have hs : (w2.alloc Z29).heap.size = w2.heap.size + 1 := size_alloc _ _
  have h3 : w3.heap[w2.heap.size]? = some Z29 := (hb.block w2.heap.size (by omega)).trans (heap_alloc_new w2 Z29)
  have hB : LibA.IsBuffer 29 (fun _ => none) 5 w2.heap.size w2.heap.size 0 [] w3 := LibA.zero_isBuffer (Nat.le_refl _) (LibA.three_whole h3)
  have hsz := hb.size
  subst hg
  refine (Ybad.Buffer_Write_at 29 _ w2.heap.size w2.heap.size 0 [] (u8s ts) ⟨(w2.alloc Z29).heap.size, 0, none⟩ ts.length ts.length w3 hB (by omega) (fun v hv => by cases hv) (u8s_len ts) (by show (w2.alloc Z29).heap.size ≠ _; omega) hr.src (u8s_one ts) (by simp; omega)).mono ?_
  rintro e w' ⟨rfl, h1, h2, _⟩
  exact ⟨rfl, h1, (((Below.refl w2.heap.size w2).alloc (Nat.le_refl _) Z29).trans (hb.mono (by omega))).trans h2⟩

set_option maxHeartbeats 1000000 in
set_option maxRecDepth 100000 in
theorem law_any (a1 a2 : Option Addr) (c1 c2 : Nat) (xs ts : List Int) (mapped useTee minusPre : Bool) (held col read zerosPre : Int) (w : World) (hx : IsBytes w w.heap.size a1 xs) (hbx : Bts xs) (ht : IsBytes w w.heap.size a2 ts) (hbt : Bts ts) :
    Calls Ybad.prog 3 #[.slice a1 xs.length c1, .bool mapped, .int .i64 held, .int .i64 col, .int .i64 read, .bool useTee, .slice a2 ts.length c2, .int .i64 zerosPre, .bool minusPre] w fun e w' => e = .returned (.bool true) ∧ Below w.heap.size w w' := by
  by_cases h1 : xs.length ≤ 1048576
  rotate_left
  · have h1' : (xs.length : Int) > 1048576 := by omega
    go_enter Ybad.func3, Ybad.ntmps3
    go_wp2_with fail
    go_ret
    exact ⟨rfl, Below.refl _ _⟩
  have g1 : ¬ (xs.length : Int) > 1048576 := by omega
  by_cases h2 : ts.length ≤ 1048576
  rotate_left
  · have h2' : (ts.length : Int) > 1048576 := by omega
    go_enter Ybad.func3, Ybad.ntmps3
    go_wp2_with fail
    go_ret
    exact ⟨rfl, Below.refl _ _⟩
  have g2 : ¬ (ts.length : Int) > 1048576 := by omega
  have hc4 := win_any a1 c1 xs mapped w hx hbx h1
  go_enter Ybad.func3, Ybad.ntmps3
  go_upto_if 46 with (first
    | (go_at_call 4; refine hc4.mono ?_; rintro e w1 ⟨ys, rfl, hyl, hr1, hby, hbw1⟩; have hyl2 : ys.length ≤ 1048576 := (by omega); clear hyl; have hc5 := copy_any (some ⟨w.heap.size, 0, none⟩) ys.length ys w1 (hr1.bytes hr1.lt) hby hyl2)
    | (go_at_call 5; refine hc5.mono ?_; rintro e w2 ⟨rfl, hr2, hbw2⟩))
  clear hc4 hc5
  have hg12 : w.heap.size < w1.heap.size := hr1.lt
  have ht2 : IsBytes w2 w2.heap.size a2 ts := ((ht.below hbw1).below (hbw2.mono hbw1.size)).up (Nat.le_trans hbw1.size hbw2.size)
  clear ht
  go_cut [21] from 47 to 51 (fun s21 wx => ∃ p, s21 = .pointer p ∧ Tee useTee w2.heap.size (u8s ts) p wx ∧ Below w2.heap.size w2 wx)
  case first =>
    cases useTee
    · go_wp2_with fail
      go_meet
      case rel => exact ⟨none, rfl, .inl ⟨rfl, rfl⟩, Below.refl _ _⟩
    · have hcA := copy_any a2 c2 ts (w2.alloc Z29) ((ht2.below ((Below.refl _ _).alloc (Nat.le_refl _) Z29)).up (by rw [size_alloc]; omega)) hbt h2
      go_wp2_with (first
        | (go_at_call 5; refine hcA.mono ?_; rintro e w3 ⟨rfl, hr3, hbw3⟩; have hcW := tee_write w2 w3 (w2.heap.size + 1) ts (size_alloc _ _).symm hbw3 hr3 h2)
        | (go_at_call 6; refine hcW.mono ?_; rintro e w4 ⟨rfl, hB4, hbw4⟩))
      go_meet
      case rel => exact ⟨_, rfl, .inr ⟨rfl, _, _, rfl, hB4⟩, hbw4⟩
  case rest =>
    obtain ⟨W3, hW3⟩ : ∃ W : World, W = wc := ⟨_, rfl⟩
    subst hW3
    obtain ⟨p, rfl, hT, hbw3⟩ := hcut
    have hsz2 := hbw2.size
    have hsz3 := hbw3.size
    have hr1c : IsRow W3 w.heap.size ys := (hr1.below hbw2 hg12).below hbw3 (by omega)
    have hr2c : IsRow W3 w1.heap.size ys := hr2.below hbw3 hr2.lt
    obtain ⟨J, hD⟩ : ∃ J, Dig (fun i => ys[i]?.getD 0) ys.length J := ⟨_, dig_some _ _⟩
    have hal : Below W3.heap.size W3 (W3.alloc (.cells (scn (.slice (some ⟨w.heap.size, 0, none⟩) ys.length ys.length) held col read minusPre zerosPre (.pointer p)) 40)) := (Below.refl _ _).alloc (Nat.le_refl _) _
    have hTA := hT.ok.grow hal.block
    have hcS := short_any w2.heap.size W3.heap.size w.heap.size ys J held col read minusPre zerosPre (.pointer p) (u8s ts) _ hyl2 hby (hr1c.below hal hr1c.lt) (by omega) hsz3 (by rw [u8s_len]; exact h2) (u8s_one ts) (heap_alloc_new W3 _) hTA hD
    go_upto_region 10 with fail
    go_cut [23, 24] from 62 to 66 (fun s23 s24 wx => ∃ v ok win held' col' read' minus' zeros' bb, s23 = .int .i64 v ∧ s24 = .bool ok ∧ Hid (After ys ts J w.heap.size held col read minusPre zerosPre v ok win held' col' read' minus' zeros' bb) ∧ IsScn wx W3.heap.size win held' col' read' minus' zeros' (.pointer p) ∧ Tee useTee w2.heap.size (u8s bb) p wx ∧ Below w2.heap.size w2 wx)
    case first =>
      go_wp2_with (go_at_call 7; refine hcS.mono ?_; rintro e w5 (⟨hR, rfl, hw5⟩ | ⟨hR, rfl, hS5, hT5, hbw5⟩))
      · go_meet
        case rel =>
          subst hw5
          exact ⟨_, _, _, _, _, _, _, _, _, rfl, rfl, .inl ⟨hR, rfl, rfl, rfl, rfl, rfl, rfl, rfl, rfl, rfl⟩, heap_alloc_new W3 _, hT.back hTA, hbw3.trans (hal.mono hsz3)⟩
      · go_meet
        case rel =>
          exact ⟨_, _, _, _, _, _, _, _, ts ++ ys.take J, rfl, rfl, .inr ⟨hR, rfl, rfl, rfl, rfl, rfl, rfl, rfl, rfl, rfl⟩, hS5, hT.back (by simpa [u8s, digCells] using hT5), (hbw3.trans (hal.mono hsz3)).trans hbw5⟩
    case rest =>
      obtain ⟨v, ok, win, held', col', read', minus', zeros', bb, rfl, rfl, HA, hS, hT6, hbw6⟩ := hcut
      clear hcS hTA hal hT
      have k0 : wc.cell? ⟨W3.heap.size, 0, none⟩ = some (.pointer none) := (hS.cell 0).trans rfl
      have k1 : wc.cell? ⟨W3.heap.size, 1, none⟩ = some (.string ⟨#[102]⟩) := (hS.cell 1).trans rfl
      have k2 : wc.cell? ⟨W3.heap.size, 2, none⟩ = some win := (hS.cell 2).trans rfl
      have k3 : wc.cell? ⟨W3.heap.size, 3, none⟩ = some (.int .i64 held') := (hS.cell 3).trans rfl
      have k4 : wc.cell? ⟨W3.heap.size, 4, none⟩ = some (.int .i64 7) := (hS.cell 4).trans rfl
      have k5 : wc.cell? ⟨W3.heap.size, 5, none⟩ = some (.int .i64 col') := (hS.cell 5).trans rfl
      have k6 : wc.cell? ⟨W3.heap.size, 6, none⟩ = some (.int .u8 83) := (hS.cell 6).trans rfl
      have k7 : wc.cell? ⟨W3.heap.size, 7, none⟩ = some (.int .i64 3) := (hS.cell 7).trans rfl
      have k8 : wc.cell? ⟨W3.heap.size, 8, none⟩ = some (.int .i64 read') := (hS.cell 8).trans rfl
      have k9 : wc.cell? ⟨W3.heap.size, 9, none⟩ = some (.bool minus') := (hS.cell 9).trans rfl
      have k10 : wc.cell? ⟨W3.heap.size, 10, none⟩ = some (.int .i64 zeros') := (hS.cell 10).trans rfl
      have k11 : wc.cell? ⟨W3.heap.size, 11, none⟩ = some (.pointer p) := (hS.cell 11).trans rfl
      have k12 : wc.cell? ⟨W3.heap.size, 12, none⟩ = some .nilFunc := (hS.cell 12).trans rfl
      have k13 : wc.cell? ⟨W3.heap.size, 13, none⟩ = some (.int .i64 11) := (hS.cell 13).trans rfl
      have hr1d : IsRow wc w.heap.size ys := (hr1.below hbw2 hg12).below hbw6 (by omega)
      have hr2d : IsRow wc w1.heap.size ys := hr2.below hbw6 hr2.lt
      have he8 := equal_same (some ⟨w.heap.size, 0, none⟩) (some ⟨w1.heap.size, 0, none⟩) ys.length ys.length ys wc w2.heap.size w2.heap.size (hr1d.bytes (by omega)) (hr2d.bytes hr2.lt)
      go_upto_block 0 with (go_at_call 8; refine he8.mono ?_; rintro e w6 ⟨rfl, hw6⟩; obtain rfl := hw6.symm)
      have htd : IsBytes wc w2.heap.size a2 ts := ht2.below hbw6
      have hW3c : w2.heap.size ≤ wc.heap.size := hbw6.size
      have hbt2 : Bts ts := hbt
      have hend : Below w.heap.size w wc := hbw1.trans ((hbw2.mono (by omega)).trans (hbw6.mono (by omega)))
      have hgd : w1.heap.size < w2.heap.size := hr2.lt
      obtain ⟨Z, hZ⟩ : ∃ Z : Nat → Int, Z = fun i => ys[i]?.getD 0 := ⟨_, rfl⟩
      have HC : Hid (∀ i, i < ys.length → wc.cell? ⟨w1.heap.size, i, none⟩ = some (.int .u8 (Z i))) := fun i hi => by rw [hZ]; exact hr2d.cell hi
      have HB : Hid (∀ i, 0 ≤ Z i ∧ Z i ≤ 255) := fun i => by rw [hZ]; exact hby.at i
      unfold After at HA
      rw [← hZ] at hD HA
      have HY : Hid (IsRow wc w.heap.size ys ∧ IsRow wc w1.heap.size ys) := ⟨hr1d, hr2d⟩
      have hle := hD.le
      have hle18 := hD.le18
      clear hZ hr1d hr2d hr1c hr2c ht2 hr1 hr2 hbw1 hbw2 hbw3 hbw6 hS k0 k1 k4 k6 k7 k12 k13 hby h1 g1 g2
      go_cut [25] from 133 to 156 (fun s25 wx => s25 = .int .i64 J ∧ wx = wc)
      case first =>
        clear HA he8
        go_wp2_with fail
        go_loopg [25] J (fun gh v25 wr => ∃ j : Nat, j ≤ J ∧ gh = J - j ∧ v25 = .int .i64 j ∧ wr = wc)
        case atStart => exact ⟨0, Nat.zero_le _, rfl, rfl, rfl⟩
        case round =>
          obtain ⟨j, hj, rfl, rfl, hwr⟩ := hrel
          obtain rfl := hwr.symm
          by_cases hlt : j < J
          · obtain ⟨d0, d1⟩ := hD.dig j hlt
            have cj := HC.out j (by omega)
            generalize Z j = z at cj d0 d1
            go_wp2_with fail
            go_roundg (J - (j + 1))
            case measure => omega
            case rel => exact ⟨j + 1, by omega, rfl, by go_num, by trivial⟩
          · obtain rfl : j = J := by omega
            by_cases hjn : j < ys.length
            · have cj := HC.out j hjn
              rcases dig_end hD hjn with e | ⟨e1, e2⟩ | ⟨e1, e2, e3⟩
              · have q : ¬ (j : Int) < 18 := by omega
                clear e hle18
                go_wp2_with fail
                go_meet
                case rel => exact ⟨rfl, rfl⟩
              · generalize Z j = z at cj e2
                go_wp2_with fail
                go_meet
                case rel => exact ⟨rfl, rfl⟩
              · generalize Z j = z at cj e2 e3
                go_wp2_with fail
                go_meet
                case rel => exact ⟨rfl, rfl⟩
            · go_wp2_with fail
              go_meet
              case rel => exact ⟨rfl, rfl⟩
      case rest =>
        obtain ⟨rfl, hwc⟩ := hcut
        obtain rfl := hwc.symm
        go_upto_region 18 with fail
        rcases HA.out with ⟨hR, rfl, rfl, rfl, rfl, rfl, rfl, rfl, rfl, rfl⟩ | ⟨hR, rfl, rfl, rfl, rfl, rfl, rfl, rfl, rfl, rfl⟩
        · go_cut [26] from 157 to 178 (fun s26 wx => s26 = .bool false ∧ wx = wc)
          case first =>
            by_cases hJ0 : J = 0
            · have q : ¬ (J : Int) > 0 := by omega
              clear hJ0
              go_wp2_with fail
              go_meet
              case rel => exact ⟨rfl, rfl⟩
            have q0 : (J : Int) > 0 := by omega
            by_cases hJn : J = ys.length
            · have q : ¬ (J : Int) < (ys.length : Int) := by omega
              clear hJn hR
              go_wp2_with fail
              go_meet
              case rel => exact ⟨rfl, rfl⟩
            have q1 : (J : Int) < (ys.length : Int) := by omega
            have q2 : J < ys.length := by omega
            have cJ := HC.out J q2
            have hq : (Z J == 32) = false ∧ (Z J == 10) = false := by
              rcases hR with h' | h' | ⟨h', h''⟩
              · exact absurd h' hJ0
              · exact absurd h' hJn
              · exact ⟨by simp [h'], by simp [h'']⟩
            obtain ⟨b1, b2⟩ := hq
            clear hJ0 hJn hR
            generalize Z J = z at cJ b1 b2
            go_wp2_with fail
            go_meet
            case rel => exact ⟨rfl, rfl⟩
          case rest =>
            obtain ⟨rfl, hwc⟩ := hcut
            obtain rfl := hwc.symm
            clear hR HA HC HB hD
            go_upto_if 234 with (go_at_call 8; refine he8.mono ?_; rintro e w6 ⟨rfl, hw6⟩; obtain rfl := hw6.symm)
            rcases hT6 with ⟨rfl, rfl⟩ | ⟨rfl, bt, R, rfl, hB⟩
            · go_wp2_with fail
              go_ret
              exact ⟨rfl, hend⟩
            · have hb9 := bytes_any w2.heap.size bt R bb wc hB
              go_wp2_with (first
                | (go_at_call 9; refine hb9.mono ?_; rintro e w7 ⟨⟨a, cap, rfl, hba⟩, rfl⟩; have he := equal_same a a2 cap c2 bb wc.drew wc.heap.size w2.heap.size hba htd)
                | (go_at_call 8; refine he.mono ?_; rintro e w8 ⟨rfl, rfl⟩))
              go_ret
              exact ⟨rfl, hend.drew⟩
        · have hJ0 : J ≠ 0 := fun e => hR (.inl e)
          have hJn : J ≠ ys.length := fun e => hR (.inr (.inl e))
          have hJs : Z J = 32 ∨ Z J = 10 := by
            by_cases h' : Z J = 32
            · exact .inl h'
            · by_cases h'' : Z J = 10
              · exact .inr h''
              · exact absurd (.inr (.inr ⟨h', h''⟩)) hR
          have q0 : (J : Int) > 0 := by omega
          have q1 : (J : Int) < (ys.length : Int) := by omega
          have q2 : J < ys.length := by omega
          clear hR hJ0 hJn HA
          go_cut [26] from 157 to 178 (fun s26 wx => s26 = .bool true ∧ wx = wc)
          case first =>
            have cJ := HC.out J q2
            have hq : (Z J == 32) = true ∨ ((Z J == 32) = false ∧ (Z J == 10) = true) := by
              rcases hJs with h' | h'
              · exact .inl (by simp [h'])
              · exact .inr ⟨by simp [h'], by simp [h']⟩
            clear hJs
            generalize Z J = z at cJ hq
            rcases hq with b1 | ⟨b1, b2⟩
            · go_wp2_with fail
              go_meet
              case rel => exact ⟨rfl, rfl⟩
            · go_wp2_with fail
              go_meet
              case rel => exact ⟨rfl, rfl⟩
          case rest =>
            obtain ⟨rfl, hwc⟩ := hcut
            obtain rfl := hwc.symm
            clear hJs
            go_upto_block 2 with fail
            go_cut [27, 28, 29] from 245 to 260 (fun s27 s28 s29 wx => s27 = .int .i64 (val Z J) ∧ wx = wc)
            case first =>
              clear he8 hT6 htd HY k2 k3 k5 k8 k9 k10 k11
              go_wp2_with fail
              go_loopg [27, 28, 29] J (fun gh v27 v28 v29 wr => ∃ k : Nat, k ≤ J ∧ gh = k ∧ v27 = .int .i64 (wnt Z J (J - k)) ∧ v28 = .int .i64 (10 ^ (J - k)) ∧ v29 = .int .i64 ((k : Int) - 1) ∧ wr = wc)
              case atStart => exact ⟨J, Nat.le_refl _, rfl, by rw [Nat.sub_self]; rfl, by rw [Nat.sub_self]; rfl, rfl, rfl⟩
              case round =>
                obtain ⟨k, hk, hgh, hv27, hv28, hv29, hwr⟩ := hrel
                obtain rfl := hgh.symm
                obtain rfl := hwr.symm
                cases k with
                | zero =>
                  rw [Nat.sub_zero] at hv27 hv28
                  rw [wnt_all] at hv27
                  rw [show (((0 : Nat) : Int) - 1) = -1 from rfl] at hv29
                  subst hv27 hv28 hv29
                  generalize (10 : Int) ^ J = P
                  go_wp2_with fail
                  go_meet
                  case rel => exact ⟨rfl, rfl⟩
                | succ m =>
                  rw [show (((m + 1 : Nat) : Int) - 1) = m by omega] at hv29
                  obtain ⟨r, hr⟩ : ∃ r, r = J - (m + 1) := ⟨_, rfl⟩
                  have hr1 : J - m = r + 1 := by omega
                  have hm : J - 1 - r = m := by omega
                  rw [← hr] at hv27 hv28
                  obtain ⟨w0, w9⟩ := wnt_bd hD r (by omega)
                  have hP0 : (1 : Int) ≤ 10 ^ r := by have := pow_le (Nat.zero_le r); simpa using this
                  have hP1 : (10 : Int) ^ r ≤ 100000000000000000 := by
                    have h3 : (10 : Int) ^ r ≤ 10 ^ 17 := pow_le (by omega)
                    have e : (10 : Int) ^ 17 = 100000000000000000 := by decide
                    omega
                  obtain ⟨d0, d1⟩ := hD.dig m (by omega)
                  have HW : Hid (wnt Z J (J - m) = wnt Z J r + (Z m - 48) * 10 ^ r) := by show _ = _; rw [hr1, wnt, hm]
                  have HE : Hid ((10 : Int) ^ (J - m) = 10 ^ r * 10) := by show _ = _; rw [hr1, Int.pow_succ]
                  have cm := HC.out m (by omega)
                  subst hv27 hv28 hv29
                  clear hr hr1 hm
                  generalize (10 : Int) ^ r = P at *
                  generalize wnt Z J r = V at *
                  have hm0 : 0 ≤ (Z m - 48) * P := Int.mul_nonneg (by omega) (by omega)
                  have hm1 : (Z m - 48) * P ≤ 900000000000000000 := by
                    have : (Z m - 48) * P ≤ 9 * P := Int.mul_le_mul_of_nonneg_right (by omega) (by omega)
                    omega
                  generalize Z m = z at *
                  have hmJ : (m : Int) < (ys.length : Int) := by omega
                  go_wp2_with fail
                  go_roundg m
                  case measure => omega
                  case rel => exact ⟨m, by omega, rfl, by rw [HW.out], by rw [HE.out], rfl, by trivial⟩
            case rest =>
              obtain ⟨rfl, hwc⟩ := hcut
              obtain rfl := hwc.symm
              obtain ⟨L, hL⟩ := lead_some Z J
              have hLJ := hL.le
              go_upto_block 4 with fail
              go_cut [30] from 261 to 272 (fun s30 wx => s30 = .int .i64 L ∧ wx = wc)
              case first =>
                clear he8 hT6 htd HY k2 k3 k5 k8 k9 k10 k11
                go_wp2_with fail
                go_loopg [30] L (fun gh v30 wr => ∃ l : Nat, l ≤ L ∧ gh = L - l ∧ v30 = .int .i64 l ∧ wr = wc)
                case atStart => exact ⟨0, Nat.zero_le _, rfl, rfl, rfl⟩
                case round =>
                  obtain ⟨l, hl, rfl, rfl, hwr⟩ := hrel
                  obtain rfl := hwr.symm
                  by_cases hlt : l < L
                  · have cl := HC.out l (by omega)
                    rw [hL.zero l hlt] at cl
                    have z1 : (l : Int) < (J : Int) := by omega
                    go_wp2_with fail
                    go_roundg (L - (l + 1))
                    case measure => omega
                    case rel => exact ⟨l + 1, by omega, rfl, by go_num, by trivial⟩
                  · obtain rfl : l = L := by omega
                    by_cases hlJ : l < J
                    · have cl := HC.out l (by omega)
                      have b1 : (Z l == 48) = false := by simp [hL.stop hlJ]
                      have z1 : (l : Int) < (J : Int) := by omega
                      generalize Z l = z at cl b1
                      go_wp2_with fail
                      go_meet
                      case rel => exact ⟨rfl, rfl⟩
                    · have z1 : ¬ (l : Int) < (J : Int) := by omega
                      go_wp2_with fail
                      go_meet
                      case rel => exact ⟨rfl, rfl⟩
              case rest =>
                obtain ⟨rfl, hwc⟩ := hcut
                obtain rfl := hwc.symm
                have HF := zfin_eq hD hL
                go_upto_if 276 with fail
                go_cut [31] from 276 to 278 (fun s31 wx => s31 = .int .i64 (zfin Z J) ∧ wx = wc)
                case first =>
                  by_cases hLe : L = J
                  · have b1 : ((L : Int) == (J : Int)) = true := by simp [hLe]
                    have HG : Hid (zfin Z J = (J : Int) - 1) := by show _ = _; rw [HF, if_pos hLe]
                    clear HF hLe
                    go_wp2_with fail
                    go_meet
                    case rel => exact ⟨by rw [HG.out], rfl⟩
                  · have b1 : ((L : Int) == (J : Int)) = false := by simp; omega
                    have HG : Hid (zfin Z J = L) := by show _ = _; rw [HF, if_neg hLe]
                    clear HF hLe
                    go_wp2_with fail
                    go_meet
                    case rel => exact ⟨by rw [HG.out], rfl⟩
                case rest =>
                  obtain ⟨rfl, hwc⟩ := hcut
                  obtain rfl := hwc.symm
                  clear HF
                  go_upto_region 44 with fail
                  have he44 := fun W hW1 hW2 => equal_n (some ⟨w.heap.size, J, none⟩) (some ⟨w1.heap.size, J, none⟩) (ys.length - J) (ys.length - J) (ys.length - J) (ys.drop J) W w2.heap.size w2.heap.size (List.length_drop ..) (IsRow.drop (W := W) hW1 (by omega) J) (IsRow.drop (W := W) hW2 (by omega) J)
                  have hsub : ((ys.length - J : Nat) : Int) = (ys.length : Int) - (J : Int) := by omega
                  have q3 : (J : Int) ≤ (ys.length : Int) := by omega
                  go_quiet (first | (go_at_call 8; exact Calls.quiet_of_same (he44 _ HY.out.1 HY.out.2)))
                  clear he44 hsub
                  go_upto_if 343 with fail
                  have hp : useTee = true → ∃ bt, p = some ⟨bt, 0, none⟩ := fun hu => by
                    rcases hT6 with ⟨h', _⟩ | ⟨_, bt, R, h', _⟩
                    · rw [hu] at h'; cases h'
                    · exact ⟨bt, h'⟩
                  cases useTee
                  · clear hp
                    go_wp2_with fail
                    go_ret
                    exact ⟨rfl, below_drewN hend nq⟩
                  · obtain ⟨bt, hpe⟩ := hp rfl
                    have hlen : (ts ++ ys.take J).length = ts.length + J := by simp; omega
                    obtain ⟨i0, hi, hz0, hz1, hz2⟩ := info_parts info5
                    have hszc : w2.heap.size ≤ wc.heap.size := hW3c
                    have hcA := copy_any a2 c2 ts (wc.drewN nq) (IsBytes.up (B := w2.heap.size) htd hszc) hbt2 h2
                    have hl1 : (digCells ys J).length = J * 1 := by simp [digCells]; omega
                    have h63 : ts.length + J ≤ maxLen := by unfold maxLen; omega
                    have hby1 : (ts.length + J) * 1 ≤ 140737488355328 := by omega
                    have HQ : Hid (p = some ⟨bt, 0, none⟩) := hpe
                    have HT : Hid (Tee true w2.heap.size (u8s (ts ++ ys.take J)) p wc) := hT6
                    rw [hpe]
                    clear hpe hT6
                    go_wp2_with (first
                      | (go_at_call 5; refine hcA.mono ?_; rintro e w7 ⟨rfl, hr7, hbw7⟩; have hr7' : IsRow w7 w1.heap.size ys := (IsRow.below (W := wc.drewN nq) HY.out.2 hbw7 (Nat.lt_of_lt_of_le hgd hszc)))
                      | (at_builtin; refine wpList_append_own _ rfl (.tmp 346) (.tmp 349) 22 rfl wc.heap.size 5 i0 (.int .u8 0) 1 1 Ybad.underlying22 hi hz0 hz1 hz2 rfl (by decide) _ ts.length (u8s ts) rfl (hr7.owns rfl h2) ⟨w1.heap.size, 0, none⟩ J ys.length (digCells ys J) rfl hl1 (hr7'.srcJ) (u8s_one _) h63 hby1 hbw7.size ?_; intro v' w8 hown8 hgrow8 hnil8; obtain ⟨a8, cap8, rfl, hb8⟩ := owned_n hown8 (u8s_add ts ys J) hlen; have hbw8 : Below wc.heap.size wc w8 := (below_drewN (Below.refl wc.heap.size wc) nq).trans (hbw7.grown hgrow8 hbw7.size (fun k hk => by cases hk; exact Nat.le_refl _)); have hc9 := bytes_n w2.heap.size bt (ts.length + J) p (ts ++ ys.take J) w8 (HT.out.back (HT.out.ok.grow hbw8.block)) HQ.out hlen; clear hown8 hgrow8 hnil8 hbw7 hr7 hr7')
                      | (go_at_call 9; refine hc9.mono ?_; rintro e w9 ⟨⟨a9, cap9, rfl, hb9⟩, rfl⟩; have hc8 := equal_n a9 a8 (ts.length + J) cap9 cap8 (ts ++ ys.take J) w8.drew w8.heap.size w8.heap.size hlen hb9 hb8)
                      | (go_at_call 8; refine hc8.mono ?_; rintro e w10 ⟨rfl, rfl⟩))
                    go_ret
                    exact ⟨rfl, (hend.trans (hbw8.mono hend.size)).drew⟩
end Go.Proofs.YbulkexphwDoor
