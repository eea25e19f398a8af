/- LawS194123C: the law. -/
import Derived.Test.YbulkexpguC1
import Derived.Deep.DeepCutAuto
import Derived.Deep.CutBlock
import Derived.LaidEql
import Derived.Lib.Strings
namespace Go.Proofs.Ybulkexpgu
open Go.RowKit

set_option maxHeartbeats 400000 in
theorem errorsNew_any (s : ByteArray) (w : World) : Calls Yba.prog 10 #[.string s] w fun e w' => e = .returned (.iface 142 (.pointer (some ⟨w.heap.size, 0, none⟩))) ∧ w' = w.alloc (.cells #[.string s] 144) := by
  go_enter Yba.func10, Yba.ntmps10
  go_wp2
  go_ret
  exact ⟨rfl, rfl⟩

theorem as66 (v : Value) (w : World) : (Instr.typeAssert (.iface 66 v) 54 66 true).run Yba.prog w = .ok (.tuple #[v, .bool true]) w := by kernel_rfl
theorem as55 (v : Value) (w : World) : (Instr.typeAssert (.iface 55 v) 54 55 true).run Yba.prog w = .ok (.tuple #[v, .bool true]) w := by kernel_rfl
attribute [local go_sem] as66 as55

theorem eql_sent (a : Addr) (w : World) : (binOp .eql 51 (.iface 142 (.pointer (some a))) (.iface 142 (.pointer (some a)))).run Yba.prog w = .ok (.bool true) w := by
  obtain ⟨i, hi, hc⟩ : ∃ i, Yba.prog.info? 142 = some i ∧ i.comparable = true := by
    obtain ⟨i, h1, h2⟩ := Option.map_eq_some_iff.1 (show (Yba.prog.info? 142).map (·.comparable) = some true by kernel_rfl)
    exact ⟨i, h1, h2⟩
  obtain ⟨j, hj⟩ : ∃ j, Yba.prog.info? 144 = some j := Option.isSome_iff_exists.1 (by kernel_rfl)
  exact run_eql_iface_ptr_same (P := Yba.prog) w a Yba.underlying51 Yba.underlying142 hi hc hj

/-- The world at the call of the chain. -/
def startW (w : World) (a : Option Addr) (len cap : Nat) (failAt pos : Int) : World :=
  (((((((w.alloc (.cells #[.slice a len cap] 49)).alloc (.cells #[.int .i64 failAt] 3)).alloc (.cells #[.string ⟨#[122, 122]⟩] 144)).alloc (.cells #[sent w.heap.size] 51)).alloc (.cells #[.slice none 0 0] 29)).alloc (.cells #[.int .i64 0] 3)).alloc (.cells #[.int .i64 0] 3)).alloc (.cells #[.slice none 0 0, .int .i64 pos] 63)

theorem start_inv (w : World) (a : Option Addr) (len cap : Nat) (failAt pos : Int) : CInv a len cap failAt w (startW w a len cap failAt pos) 0 0 0 ∧ (startW w a len cap failAt pos).heap[w.heap.size + 7]? = some (.cells #[.slice none 0 0, .int .i64 pos] 63 (0, 0)) := by
  have b0 := Boxed.new w 49 (.slice a len cap)
  have b1 := Boxed.new (w.alloc (.cells #[.slice a len cap] 49)) 3 (.int .i64 failAt)
  have b3 := Boxed.new (((w.alloc (.cells #[.slice a len cap] 49)).alloc (.cells #[.int .i64 failAt] 3)).alloc (.cells #[.string ⟨#[122, 122]⟩] 144)) 51 (sent w.heap.size)
  have b4 := Boxed.new ((((w.alloc (.cells #[.slice a len cap] 49)).alloc (.cells #[.int .i64 failAt] 3)).alloc (.cells #[.string ⟨#[122, 122]⟩] 144)).alloc (.cells #[sent w.heap.size] 51)) 29 (.slice none 0 0)
  have b5 := Boxed.new (((((w.alloc (.cells #[.slice a len cap] 49)).alloc (.cells #[.int .i64 failAt] 3)).alloc (.cells #[.string ⟨#[122, 122]⟩] 144)).alloc (.cells #[sent w.heap.size] 51)).alloc (.cells #[.slice none 0 0] 29)) 3 (.int .i64 0)
  have b6 := Boxed.new ((((((w.alloc (.cells #[.slice a len cap] 49)).alloc (.cells #[.int .i64 failAt] 3)).alloc (.cells #[.string ⟨#[122, 122]⟩] 144)).alloc (.cells #[sent w.heap.size] 51)).alloc (.cells #[.slice none 0 0] 29)).alloc (.cells #[.int .i64 0] 3)) 3 (.int .i64 0)
  have b7 := World.alloc_heap_new (((((((w.alloc (.cells #[.slice a len cap] 49)).alloc (.cells #[.int .i64 failAt] 3)).alloc (.cells #[.string ⟨#[122, 122]⟩] 144)).alloc (.cells #[sent w.heap.size] 51)).alloc (.cells #[.slice none 0 0] 29)).alloc (.cells #[.int .i64 0] 3)).alloc (.cells #[.int .i64 0] 3)) (.cells #[.slice none 0 0, .int .i64 pos] 63)
  simp only [World.size_alloc] at b1 b3 b4 b5 b6 b7
  refine ⟨⟨?_, ((((((b0.alloc _).alloc _).alloc _).alloc _).alloc _).alloc _).alloc _, (((((b1.alloc _).alloc _).alloc _).alloc _).alloc _).alloc _, (((b3.alloc _).alloc _).alloc _).alloc _, ⟨_, ((b4.alloc _).alloc _).alloc _, World.ownsRow_nil _ _ _ _⟩, (b5.alloc _).alloc _, b6.alloc _⟩, b7⟩
  exact ((((((((Below.refl _ w).alloc (Nat.le_refl _) _).alloc (by simp) _).alloc (by simp; omega) _).alloc (by simp; omega) _).alloc (by simp; omega) _).alloc (by simp; omega) _).alloc (by simp; omega) _).alloc (by simp; omega) _

/-- Both ends of the chain, in one. -/
theorem chain_both {a : Option Addr} {len cap : Nat} {failAt : Int} {w W W' : World} {S : Nat → ByteArray} {m : Nat} {e : Ending} (hm : m ≤ 65536) (h : ChainEnd a len cap failAt w W S m e W') :
    ∃ t j k G E, e = .returned (.tuple #[G, E]) ∧ CInv a len cap failAt w W' t j k ∧ KT W W' ∧ 0 < t ∧ t ≤ 200000 ∧
      ((∃ f : Nat, failAt = f ∧ f ≤ m ∧ t = 2 * f + 1 ∧ G = .nilIface ∧ E = sent w.heap.size) ∨ ((failAt < 0 ∨ m < failAt) ∧ t = 2 * m + 2 ∧ E = .nilIface ∧ IsChain S W' m G)) := by
  rcases h with ⟨h0, h1, rfl, hC, hT⟩ | ⟨h0, v, rfl, hv, hC, hT⟩
  · exact ⟨_, _, _, _, _, rfl, hC, hT, by omega, by omega, .inl ⟨failAt.toNat, by omega, by omega, rfl, rfl, rfl⟩⟩
  · exact ⟨_, _, _, _, _, rfl, hC, hT, by omega, by omega, .inr ⟨h0, rfl, rfl, hv⟩⟩

set_option maxHeartbeats 1000000 in
set_option maxRecDepth 100000 in
theorem lawC_any (a : Option Addr) (len cap : Nat) (failAt pos : Int) (w : World) (S : Nat → ByteArray) (m : Nat) (hlen : len ≤ 65536) (hO : Ops a len w S m) :
    Calls Yba.prog 4 #[.slice a len cap, .int .i64 failAt, .int .i64 pos] w fun e W' => e = .returned (.bool true) ∧ Below w.heap.size w W' := by
  have hle := hO.le
  have hlz : ¬ (65536 : Int) < (len : Int) := by omega
  go_enter Yba.func4, Yba.ntmps4
  go_upto_block 0 with fail
  obtain ⟨W2, hW2⟩ : ∃ W2, W2 = (w.alloc (.cells #[.slice a len cap] 49)).alloc (.cells #[.int .i64 failAt] 3) := ⟨_, rfl⟩
  have c0 : W2.cell? ⟨w.heap.size, 0, none⟩ = some (.slice a len cap) := by rw [hW2]; exact ((Boxed.new w 49 (.slice a len cap)).alloc _).cell
  have hb2 : Below w.heap.size w W2 := by rw [hW2]; exact ((Below.refl _ w).alloc (Nat.le_refl _) _).alloc (by simp) _
  rw [← hW2]
  have HW2 : Hid (W2 = (w.alloc (.cells #[.slice a len cap] 49)).alloc (.cells #[.int .i64 failAt] 3)) := hW2
  clear hW2
  go_cut [7] (fun s7 wx => s7 = .int .i64 m ∧ wx = W2)
  case first =>
    go_wp2_with fail
    go_loopg [7, 8] m (fun g s7 s8 wr => ∃ i, i ≤ m ∧ g = m - i ∧ s7 = .int .i64 len ∧ s8 = .int .i64 i ∧ wr = W2)
    case atStart => exact ⟨0, Nat.zero_le _, rfl, rfl, rfl, rfl⟩
    case round =>
      obtain ⟨i, him, rfl, rfl, rfl, rfl⟩ := hrel
      by_cases hil : i < len
      · obtain ⟨ab, ao, rfl, hab, hS⟩ := hO.cell i hil
        have cS := (hb2.cell (p := ⟨ab, ao + i, none⟩) hab).trans hS
        clear hS
        by_cases hi : i < m
        · have hne := hO.ne i hi
          obtain ⟨s, hs⟩ : ∃ s, s = S i := ⟨_, rfl⟩
          rw [← hs] at cS hne
          clear hs
          go_wp2_with fail
          go_roundg (m - (i + 1))
          case measure => omega
          case rel => exact ⟨i + 1, by omega, rfl, rfl, by go_num, by trivial⟩
        · obtain rfl : i = m := by omega
          rw [hO.eq hil] at cS
          go_wp2_with fail
          go_meet
          case rel => exact ⟨rfl, rfl⟩
      · obtain rfl : i = len := by omega
        obtain rfl : m = i := by omega
        go_wp2_with fail
        go_meet
        case rel => exact ⟨rfl, rfl⟩
  case rest =>
    obtain ⟨rfl, rfl⟩ := hcut
    go_wp2_with (go_at_call 10; refine (errorsNew_any _ _).mono ?_; rintro e w' ⟨rfl, rfl⟩)
    have hsz : wc.heap.size = w.heap.size + 2 := by rw [HW2.out]; simp
    simp only [hsz, Nat.add_assoc, Nat.reduceAdd]
    have e3 : (((((wc.alloc (.cells #[.string ⟨#[122, 122]⟩] 144)).alloc (.cells #[sent w.heap.size] 51)).alloc (.cells #[.slice none 0 0] 29)).alloc (.cells #[.int .i64 0] 3)).alloc (.cells #[.int .i64 0] 3)).alloc (.cells #[.slice none 0 0, .int .i64 pos] 63) = startW w a len cap failAt pos := by rw [HW2.out]; rfl
    rw [e3]
    obtain ⟨hC0, h7⟩ := start_inv w a len cap failAt pos
    refine (chain_any a len cap failAt w _ S m hlen hO _ hC0).mono ?_
    intro e w4 hEnd
    obtain ⟨t, j, k, G, E, rfl, hC, hT, ht0, ht, hres⟩ := chain_both (by omega) hEnd
    have h7' := hT _ _ _ (by decide) (by decide) (by decide) h7
    clear h7 hT hEnd hC0 e3 hsz HW2 hb2 c0
    have p0 : w4.cell? ⟨w.heap.size + 7, 0, none⟩ = some (.slice none 0 0) := by simp [World.cell?, h7']
    have p1 : w4.cell? ⟨w.heap.size + 7, 1, none⟩ = some (.int .i64 pos) := by simp [World.cell?, h7']
    obtain ⟨v, hL, hrow⟩ := hC.log
    obtain ⟨t', rfl⟩ : ∃ t', t = t' + 1 := ⟨t - 1, by omega⟩
    obtain ⟨g, cp, rfl⟩ := ownsRow_succ hrow
    have c4 := hL.cell
    have c1 := hC.bF.cell
    have c0 := hC.bO.cell
    have c3 := hC.bS.cell
    have HRES : Hid _ := hres
    clear hres
    go_wp2_with fail
    go_loopg [18] (t' + 1) (fun gh s18 wr => ∃ i, i ≤ t' + 1 ∧ gh = t' + 1 - i ∧ s18 = .int .i64 i ∧ wr = w4)
    case atStart => exact ⟨0, Nat.zero_le _, rfl, rfl, rfl⟩
    case round =>
      obtain ⟨i, hi, rfl, rfl, hwr⟩ := hrel
      obtain rfl := hwr.symm
      by_cases hit : i < t' + 1
      · have hcell := hrow.cellAt i (by omega)
        have hv : (altv (t' + 1))[i]? = some (.int .u8 (if i % 2 = 0 then 110 else 111)) := by simp [altv, hit]
        rw [hv] at hcell
        clear hv
        by_cases hpar : i % 2 = 0
        · have hp0 : ((i : Int) % 2 == 0) = true := by simp; omega
          have hp1 : ((i : Int) % 2 == 1) = false := by simp; omega
          rw [if_pos hpar] at hcell
          go_wp2_with fail
          go_roundg (t' + 1 - (i + 1))
          case measure => omega
          case rel => exact ⟨i + 1, by omega, rfl, by go_num, by trivial⟩
        · have hp0 : ((i : Int) % 2 == 0) = false := by simp; omega
          have hp1 : ((i : Int) % 2 == 1) = true := by simp; omega
          rw [if_neg hpar] at hcell
          go_wp2_with fail
          go_roundg (t' + 1 - (i + 1))
          case measure => omega
          case rel => exact ⟨i + 1, by omega, rfl, by go_num, by trivial⟩
      · have hbw := hC.bel
        rcases HRES.out with ⟨f, rfl, hfm, hft, rfl, rfl⟩ | ⟨hf, hft, rfl, hch⟩
        · clear HRES
          have q0 : (0 : Int) ≤ (f : Int) := by omega
          have q1 : (f : Int) ≤ (m : Int) := by omega
          have hes := eql_sent ⟨w.heap.size + 2, 0, none⟩
          have htl : t' = 2 * f := by omega
          have hee : (((t' : Int) + 1) == (2 * (f : Int) + 1)) = true := by simp; omega
          have HTL : Hid (t' = 2 * f) := htl
          clear htl hft
          go_wp2_with fail
          go_ret
          exact ⟨by simp [HTL.out], hbw⟩
        · clear HRES
          have htl : t' = 2 * m + 1 := by omega
          subst htl
          clear hft ht0
          have hee : (((2 * m + 1 : Nat) : Int) + 1 != (2 * (m : Int) + 2)) = false := by simp; omega
          have HCH : Hid (IsChain S w4 m G) := hch
          clear hch
          have hfd : (0 ≤ failAt ∧ (m : Int) < failAt) ∨ failAt < 0 := by omega
          rcases hfd with ⟨q0, q1⟩ | q0
          all_goals
            go_wp2_with fail
            clear hi hit hee
            go_loopg [19, 20] m (fun gh s19 s20 w5 => ∃ i n, i ≤ m ∧ i ≤ gh ∧ s20 = .int .i64 i ∧ Hid (IsChain S w4 i s19) ∧ w5 = w4.drewN n)
            case atStart => exact ⟨m, 0, Nat.le_refl _, Nat.le_refl _, rfl, HCH.out, rfl⟩
            case round =>
              obtain ⟨i, n, him, hig, rfl, hch, hwr⟩ := hrel
              have HW : Hid (wr = w4.drewN n) := hwr
              clear hwr
              have d0 : wr.cell? ⟨w.heap.size, 0, none⟩ = some (.slice a len cap) := by rw [HW.out]; exact c0
              cases i with
              | zero =>
                obtain ⟨b, rfl, hb⟩ := hch.out
                have cb : wr.cell? ⟨b, 0, none⟩ = some (.int .i64 0) := by rw [HW.out]; exact cell_of_one hb
                go_wp2_with fail
                go_ret
                exact ⟨rfl, by rw [HW.out]; exact below_drewN hbw _⟩
              | succ i =>
                obtain ⟨b, c, vL, rfl, hb, hc, hl⟩ := hch.out
                have HL : Hid (IsChain S w4 i vL) := hl
                have cb0 : wr.cell? ⟨b, 0, none⟩ = some (.string (S i)) := by rw [HW.out]; simp [World.cell?, hb]
                have cb1 : wr.cell? ⟨b, 1, none⟩ = some vL := by rw [HW.out]; simp [World.cell?, hb]
                have cb2 : wr.cell? ⟨b, 2, none⟩ = some (.iface 55 (.pointer (some ⟨c, 0, none⟩))) := by rw [HW.out]; simp [World.cell?, hb]
                have cc : wr.cell? ⟨c, 0, none⟩ = some (.int .i64 ((i + 1 : Nat) : Int)) := by rw [HW.out]; exact cell_of_one hc
                obtain ⟨ab, ao, rfl, hab, hS⟩ := hO.cell i (by omega)
                have cS : wr.cell? ⟨ab, ao + i, none⟩ = some (.string (S i)) := by rw [HW.out]; exact (hbw.cell (p := ⟨ab, ao + i, none⟩) hab).trans hS
                clear hS hb hc hl hch
                generalize S i = s at cb0 cS
                have hlz2 : (i : Int) < (len : Int) := by omega
                obtain ⟨T, bl, rfl⟩ := isChain_shape HL.out
                go_wp2_with fail
                go_quiet (fail)
                go_wp2_with fail
                go_roundg i
                case measure => omega
                case rel => exact ⟨i, n + nq, by omega, Nat.le_refl _, by congr 1 <;> omega, HL.out, by rw [HW.out, World.drewN_drewN]⟩

set_option maxHeartbeats 1000000 in
set_option maxRecDepth 100000 in
theorem lawC_many (a : Option Addr) (len cap : Nat) (failAt pos : Int) (w : World) (hlen : 65536 < len) :
    Calls Yba.prog 4 #[.slice a len cap, .int .i64 failAt, .int .i64 pos] w fun e W' => e = .returned (.bool true) ∧ Below w.heap.size w W' := by
  have hlz : (65536 : Int) < (len : Int) := by omega
  go_enter Yba.func4, Yba.ntmps4
  go_wp2
  go_ret
  exact ⟨rfl, ((Below.refl _ w).alloc (Nat.le_refl _) _).alloc (by simp) _⟩

/-- The number of operators ahead of the first empty one. -/
def firstEmpty (S : Nat → ByteArray) : Nat → Nat → Nat
  | 0, i => i
  | n + 1, i => if (S i).toList.isEmpty then i else firstEmpty S n (i + 1)
theorem firstEmpty_spec (S : Nat → ByteArray) : ∀ (n i : Nat), i ≤ firstEmpty S n i ∧ firstEmpty S n i ≤ i + n ∧ (∀ x, i ≤ x → x < firstEmpty S n i → (S x).toList.isEmpty = false) ∧ (firstEmpty S n i < i + n → (S (firstEmpty S n i)).toList.isEmpty = true)
  | 0, i => ⟨Nat.le_refl _, Nat.le_refl _, fun x h1 h2 => by simp [firstEmpty] at h2; omega, fun h => by simp [firstEmpty] at h⟩
  | n + 1, i => by
    by_cases h : (S i).toList.isEmpty = true
    · have e : firstEmpty S (n + 1) i = i := by simp [firstEmpty, h]
      rw [e]
      exact ⟨Nat.le_refl _, by omega, fun x h1 h2 => by omega, fun _ => h⟩
    · have e : firstEmpty S (n + 1) i = firstEmpty S n (i + 1) := by rw [firstEmpty, if_neg h]
      rw [e]
      obtain ⟨h1, h2, h3, h4⟩ := firstEmpty_spec S n (i + 1)
      refine ⟨by omega, by omega, fun x hx1 hx2 => ?_, fun hlt => h4 (by omega)⟩
      rcases Nat.lt_or_ge i x with h' | h'
      · exact h3 x h' hx2
      · obtain rfl : x = i := by omega
        simpa using h

theorem empty_of_toList (s : ByteArray) (h : s.toList.isEmpty = true) : s = ⟨#[]⟩ := by
  have h1 : s.data.toList = [] := by rw [← Lib.toList_data]; simpa using h
  cases s with
  | mk d => cases d with
    | mk l => simp at h1; subst h1; rfl

theorem lawC (a : Option Addr) (len cap : Nat) (failAt pos : Int) (w : World) (S : Nat → ByteArray) (hc : ∀ i, i < len → ∃ ab ao, a = some ⟨ab, ao, none⟩ ∧ ab < w.heap.size ∧ w.cell? ⟨ab, ao + i, none⟩ = some (.string (S i))) :
    Calls Yba.prog 4 #[.slice a len cap, .int .i64 failAt, .int .i64 pos] w fun e W' => e = .returned (.bool true) ∧ Below w.heap.size w W' := by
  by_cases hlen : 65536 < len
  · exact lawC_many a len cap failAt pos w hlen
  · obtain ⟨_, h2, h3, h4⟩ := firstEmpty_spec S len 0
    exact lawC_any a len cap failAt pos w S (firstEmpty S len 0) (by omega) ⟨hc, by omega, fun i hi => h3 i (Nat.zero_le _) hi, fun h => empty_of_toList _ (h4 (by omega))⟩

end Go.Proofs.Ybulkexpgu
