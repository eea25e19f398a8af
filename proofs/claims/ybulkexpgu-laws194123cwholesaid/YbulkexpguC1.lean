/- LawS194123C: binaryChain over the two closures. -/
import Derived.Test.YbulkexpguC0
import Derived.Deep.LoopGhost
namespace Go.Proofs.Ybulkexpgu
open Go.RowKit

/-- The left-deep chain of i operators. -/
def IsChain (S : Nat → ByteArray) (W : World) : Nat → Value → Prop
  | 0, v => ∃ b, v = .iface 55 (.pointer (some ⟨b, 0, none⟩)) ∧ W.heap[b]? = some (.cells #[.int .i64 0] 57 (0, 0))
  | i + 1, v => ∃ b c vL, v = .iface 66 (.pointer (some ⟨b, 0, none⟩)) ∧ W.heap[b]? = some (.cells #[.string (S i), vL, .iface 55 (.pointer (some ⟨c, 0, none⟩))] 69 (0, 0)) ∧
      W.heap[c]? = some (.cells #[.int .i64 ((i + 1 : Nat) : Int)] 57 (0, 0)) ∧ IsChain S W i vL

theorem IsChain.kt {S : Nat → ByteArray} {W W' : World} (h : KT W W') : ∀ {i : Nat} {v : Value}, IsChain S W i v → IsChain S W' i v
  | 0, _, ⟨b, e, hb⟩ => ⟨b, e, h _ _ _ (by decide) (by decide) (by decide) hb⟩
  | _ + 1, _, ⟨b, c, vL, e, hb, hc, hl⟩ => ⟨b, c, vL, e, h _ _ _ (by decide) (by decide) (by decide) hb, h _ _ _ (by decide) (by decide) (by decide) hc, IsChain.kt h hl⟩

theorem isChain_shape {S : Nat → ByteArray} {W : World} {i : Nat} {v : Value} (h : IsChain S W i v) : ∃ T b, v = .iface T (.pointer (some ⟨b, 0, none⟩)) := by
  cases i with
  | zero => obtain ⟨b, e, _⟩ := h; exact ⟨_, b, e⟩
  | succ i => obtain ⟨b, _, _, e, _⟩ := h; exact ⟨_, b, e⟩

/-- What the chain is told of the operators. -/
structure Ops (a : Option Addr) (len : Nat) (w : World) (S : Nat → ByteArray) (m : Nat) : Prop where
  cell : ∀ i, i < len → ∃ ab ao, a = some ⟨ab, ao, none⟩ ∧ ab < w.heap.size ∧ w.cell? ⟨ab, ao + i, none⟩ = some (.string (S i))
  le : m ≤ len
  ne : ∀ i, i < m → (S i).toList.isEmpty = false
  eq : m < len → S m = ⟨#[]⟩

abbrev nextV (B : Nat) : Value := .func (.func 11) #[] #[.pointer (some ⟨B + 5, 0, none⟩), .pointer (some ⟨B + 4, 0, none⟩), .pointer (some ⟨B + 1, 0, none⟩), .pointer (some ⟨B + 3, 0, none⟩)]
abbrev opV (B : Nat) : Value := .func (.func 12) #[] #[.pointer (some ⟨B + 6, 0, none⟩), .pointer (some ⟨B + 4, 0, none⟩), .pointer (some ⟨B, 0, none⟩)]

/-- What the chain comes to. -/
def ChainEnd (a : Option Addr) (len cap : Nat) (failAt : Int) (w W : World) (S : Nat → ByteArray) (m : Nat) (e : Ending) (W' : World) : Prop :=
  (0 ≤ failAt ∧ failAt ≤ m ∧ e = .returned (.tuple #[.nilIface, sent w.heap.size]) ∧ CInv a len cap failAt w W' (2 * failAt.toNat + 1) (failAt.toNat + 1) failAt.toNat ∧ KT W W') ∨
  ((failAt < 0 ∨ m < failAt) ∧ ∃ v, e = .returned (.tuple #[v, .nilIface]) ∧ IsChain S W' m v ∧ CInv a len cap failAt w W' (2 * m + 2) (m + 1) (m + 1) ∧ KT W W')

theorem chain_fails {a : Option Addr} {len cap : Nat} {failAt : Int} {w W W' : World} {S : Nat → ByteArray} {m j : Nat} (hj : j ≤ m) (hf : ((j : Int) == failAt) = true) (hC : CInv a len cap failAt w W' (2 * j + 1) (j + 1) j) (hT : KT W W') :
    ChainEnd a len cap failAt w W S m (.returned (.tuple #[.nilIface, sent w.heap.size])) W' := by
  have e : (j : Int) = failAt := by simpa using hf
  subst e
  exact .inl ⟨by omega, by omega, rfl, by simpa using hC, hT⟩

theorem chain_ends {a : Option Addr} {len cap : Nat} {failAt : Int} {w W W' : World} {S : Nat → ByteArray} {m : Nat} {v : Value} (hf : ∀ x : Nat, x ≤ m → (x : Int) ≠ failAt) (hv : IsChain S W' m v) (hC : CInv a len cap failAt w W' (2 * m + 2) (m + 1) (m + 1)) (hT : KT W W') :
    ChainEnd a len cap failAt w W S m (.returned (.tuple #[v, .nilIface])) W' := by
  refine .inr ⟨?_, v, rfl, hv, hC, hT⟩
  by_cases h0 : failAt < 0
  · exact .inl h0
  · by_cases h1 : (m : Int) < failAt
    · exact .inr h1
    · exact absurd (by omega) (hf failAt.toNat (by omega))

set_option maxHeartbeats 1000000 in
theorem chain_any (a : Option Addr) (len cap : Nat) (failAt : Int) (w W : World) (S : Nat → ByteArray) (m : Nat) (hlen : len ≤ 65536) (hO : Ops a len w S m) (p : Value) (h : CInv a len cap failAt w W 0 0 0) :
    Calls Yba.prog 13 #[p, nextV w.heap.size, opV w.heap.size] W fun e W' => ChainEnd a len cap failAt w W S m e W' := by
  have hle := hO.le
  cases hf0 : ((0 : Int) == failAt)
  · have hN := next_ok a len cap failAt w W 0 (by omega) h hf0
    have HF0 : Hid (((0 : Int) == failAt) = false) := hf0
    clear hf0
    go_enter Yba.func13, Yba.ntmps13
    go_wp2_with (go_at_call 11; refine hN.mono ?_; rintro e w1 ⟨nb, rfl, hC, hT, hnb⟩)
    clear hN
    go_loopg [8] m (fun g v wr => ∃ i, i ≤ m ∧ g = m - i ∧ CInv a len cap failAt w wr (2 * i + 1) (i + 1) i ∧ IsChain S wr i v ∧ KT W wr ∧ Hid (∀ x : Nat, x ≤ i → (x : Int) ≠ failAt))
    case atStart =>
      refine ⟨0, Nat.zero_le _, rfl, hC, ⟨nb, rfl, hnb⟩, hT, fun x hx => ?_⟩
      obtain rfl : x = 0 := by omega
      simpa using HF0.out
    case round =>
      clear hC hT hnb HF0
      obtain ⟨i, him, rfl, hC, hch, hT, HF⟩ := hrel
      obtain ⟨T, b, rfl⟩ := isChain_shape hch
      by_cases hil : i < len
      · obtain ⟨ab, ao, rfl, hab, hS⟩ := hO.cell i hil
        have hOp := op_some ab ao len cap failAt w wr i hlen hil (S i) hab hS hC
        by_cases hi : i < m
        · have hne := hO.ne i hi
          obtain ⟨s, hs⟩ : ∃ s, s = S i := ⟨_, rfl⟩
          rw [← hs] at hOp hne
          have HS : Hid (s = S i) := hs
          clear hs hS
          go_wp2_with (go_at_call 12; refine hOp.mono ?_; rintro e w2 ⟨rfl, hC2, hT2⟩)
          have hC3 : CInv (some ⟨ab, ao, none⟩) len cap failAt w w2 (2 * (i + 1)) (i + 1) (i + 1) := hC2
          cases hfi : (((i + 1 : Nat) : Int) == failAt)
          · refine (next_ok _ len cap failAt w w2 (i + 1) (by omega) hC3 hfi).mono ?_
            rintro e w3 ⟨nb3, rfl, hC4, hT4, hnb4⟩
            have HFI : Hid ((((i + 1 : Nat) : Int) == failAt) = false) := hfi
            clear hfi hne
            have hB := World.alloc_heap_new w3 (.cells #[.string s, .iface T (.pointer (some ⟨b, 0, none⟩)), .iface 55 (.pointer (some ⟨nb3, 0, none⟩))] 69)
            go_wp2_with fail
            go_roundg (m - (i + 1))
            case measure => omega
            case rel =>
              have hT5 := (hT2.trans hT4).alloc (.cells #[.string s, .iface T (.pointer (some ⟨b, 0, none⟩)), .iface 55 (.pointer (some ⟨nb3, 0, none⟩))] 69)
              have hT6 := (KT.refl w3).alloc (.cells #[.string s, .iface T (.pointer (some ⟨b, 0, none⟩)), .iface 55 (.pointer (some ⟨nb3, 0, none⟩))] 69)
              refine ⟨i + 1, by omega, rfl, hC4.alloc _, ⟨w3.heap.size, nb3, _, rfl, by rw [← HS.out]; exact hB, hT6 _ _ _ (by decide) (by decide) (by decide) hnb4, hch.kt hT5⟩, hT.trans hT5, fun x hx => ?_⟩
              rcases Nat.lt_or_ge i x with h' | h'
              · obtain rfl : x = i + 1 := by omega
                simpa using HFI.out
              · exact HF.out x h'
          · refine (next_fail _ len cap failAt w w2 (i + 1) (by omega) hC3 hfi).mono ?_
            rintro e w3 ⟨x, rfl, hC4, hT4⟩
            have HFI : Hid ((((i + 1 : Nat) : Int) == failAt) = true) := hfi
            clear hfi hne
            go_wp2_with fail
            go_ret2
            exact chain_fails (by omega) HFI.out hC4 ((hT.trans hT2).trans hT4)
        · obtain rfl : i = m := by omega
          have heq := hO.eq hil
          rw [heq] at hOp
          go_wp2_with (go_at_call 12; refine hOp.mono ?_; rintro e w2 ⟨rfl, hC2, hT2⟩)
          go_ret2
          exact chain_ends HF.out (hch.kt hT2) hC2 (hT.trans hT2)
      · obtain rfl : i = len := by omega
        obtain rfl : m = i := by omega
        have hOp := op_none a m cap failAt w wr m hlen rfl hC
        go_wp2_with (go_at_call 12; refine hOp.mono ?_; rintro e w2 ⟨rfl, hC2, hT2⟩)
        go_ret2
        exact chain_ends HF.out (hch.kt hT2) hC2 (hT.trans hT2)
  · have hN := next_fail a len cap failAt w W 0 (by omega) h hf0
    have HF0 : Hid (((0 : Int) == failAt) = true) := hf0
    clear hf0
    go_enter Yba.func13, Yba.ntmps13
    go_wp2_with (go_at_call 11; refine hN.mono ?_; rintro e w1 ⟨x, rfl, hC, hT⟩)
    go_ret2
    exact chain_fails (j := 0) (Nat.zero_le _) HF0.out hC hT
end Go.Proofs.Ybulkexpgu
