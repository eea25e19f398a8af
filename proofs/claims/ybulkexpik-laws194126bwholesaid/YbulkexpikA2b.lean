/- LawS194126B: the writer's 105 cells, as the law makes it. -/
import Derived.Test.YbulkexpikA2
import Derived.Laws.Tables
namespace Go.Proofs.Ybulkexpik
open Go.RowKit

def wcells (stamp : Int) (signing noted chosen : Bool) (gs m gL lo cL gH lc cH : Nat) : Array Value :=
  #[.pointer none, .pointer none, .int .i64 0, .int .i64 0, .bool false, .bool false, .int .i64 0, .int .i64 0, .bool false, .bool false, .bool false, .int .i64 0, .int .i64 0, .int .i64 0, .int .i64 0, .bool false, .bool noted, .int .i64 0, .int .i64 0, .int .i64 0, .int .i64 0, .int .i64 0, .int .i64 0, .int .i64 0, .int .i64 0, .bool false, .bool false, .bool false, .int .i64 0, .slice none 0 0, .bool false, .slice (some ⟨gs, 0, none⟩) m m, .int .i64 0, .map none, .int .i64 0, .bool false, .bool false, .bool false, .bool false, .pointer none, .int .i64 0, .int .i64 0, .int .i64 0, .int .i64 0, .int .i64 stamp, .slice (some ⟨gL, 0, none⟩) lo cL, .bool false, .bool false, .bool chosen, .slice none 0 0, .int .i64 0, .bool false, .int .i64 0, .bool false, .int .i64 0, .int .i64 0, .int .i64 0, .int .u8 0, .int .u8 0, .int .u8 0, .int .u8 0, .int .u8 0, .int .u8 0, .int .u8 0, .int .u8 0, .int .u8 0, .int .u8 0, .int .u8 0, .int .u8 0, .int .u8 0, .int .u8 0, .int .u8 0, .int .u8 0, .bool false, .int .i64 0, .slice none 0 0, .int .i64 0, .bool false, .int .i64 0, .bool false, .int .i64 0, .int .i64 0, .int .i64 0, .int .u8 0, .int .u8 0, .int .u8 0, .int .u8 0, .int .u8 0, .int .u8 0, .int .u8 0, .int .u8 0, .int .u8 0, .int .u8 0, .int .u8 0, .int .u8 0, .int .u8 0, .int .u8 0, .int .u8 0, .int .u8 0, .bool false, .bool signing, .slice (some ⟨gH, 0, none⟩) lc cH, .nilIface, .nilIface, .slice none 0 0]
theorem built62 (stamp : Int) (signing noted chosen : Bool) (gs m gL lo cL gH lc cH : Nat) :
    Yba.prog.built 62 [(30, .int .i64 stamp), (40, .bool signing), (12, .bool noted), (34, .bool chosen), (17, .slice (some ⟨gs, 0, none⟩) m m), (31, .slice (some ⟨gL, 0, none⟩) lo cL), (41, .slice (some ⟨gH, 0, none⟩) lc cH)] = some (wcells stamp signing noted chosen gs m gL lo cL gH lc cH) := by kernel_rfl
/-- The making of the writer, as one step. -/
theorem wpList_writer {ops : Array Oper} {rest : List Oper} {o : Oper} {a : Act} {Q : Exit → Act → World → Prop} (w : World) (hgd : o.guard = none) (parts : Array (Nat × Operand)) (ho : o.op = .build 62 parts) (c : Array Value) (vals : List (Nat × Value)) (hc : Yba.prog.built 62 vals = some c) (hv : (parts.map fun (i, x) => (i, a.eval x)).toList = vals)
    (h : wpList Yba.prog ops Q rest (a.put o.dst (.agg c)) w) : wpList Yba.prog ops Q (o :: rest) a w :=
  wpList_plain hgd fun K hK => wp_build 62 parts ho (by rw [hv, hc]; rfl) (by rw [hv, hc]; exact hK _ _ h)
theorem wp_writer {o : Oper} {a : Act} {w : World} {K : Act → World → Prop} {Q : Exit → Act → World → Prop} (parts : Array (Nat × Operand)) (ho : o.op = .build 62 parts) (c : Array Value) (vals : List (Nat × Value)) (hc : Yba.prog.built 62 vals = some c) (hv : (parts.map fun (i, x) => (i, a.eval x)).toList = vals)
    (h : K (a.put o.dst (.agg c)) w) : o.wp Yba.prog a w K Q :=
  wp_build 62 parts ho (by rw [hv, hc]; rfl) (by rw [hv, hc]; exact h)
/-- The cells that the road comes to. -/
structure WC (c : Array Value) (stamp : Int) (signing noted chosen : Bool) (gs m gL lo cL gH lc cH : Nat) : Prop where
  c16 : c[16]? = some (.bool noted)
  c31 : c[31]? = some (.slice (some ⟨gs, 0, none⟩) m m)
  c44 : c[44]? = some (.int .i64 stamp)
  c45 : c[45]? = some (.slice (some ⟨gL, 0, none⟩) lo cL)
  c48 : c[48]? = some (.bool chosen)
  c100 : c[100]? = some (.bool signing)
  c101 : c[101]? = some (.slice (some ⟨gH, 0, none⟩) lc cH)
  size : c.size = 105
theorem writer_some (stamp : Int) (signing noted chosen : Bool) (gs m gL lo cL gH lc cH : Nat) : ∃ c, WC c stamp signing noted chosen gs m gL lo cL gH lc cH ∧ Yba.prog.built 62 [(30, .int .i64 stamp), (40, .bool signing), (12, .bool noted), (34, .bool chosen), (17, .slice (some ⟨gs, 0, none⟩) m m), (31, .slice (some ⟨gL, 0, none⟩) lo cL), (41, .slice (some ⟨gH, 0, none⟩) lc cH)] = some c :=
  ⟨_, ⟨rfl, rfl, rfl, rfl, rfl, rfl, rfl, rfl⟩, built62 stamp signing noted chosen gs m gL lo cL gH lc cH⟩
end Go.Proofs.Ybulkexpik
