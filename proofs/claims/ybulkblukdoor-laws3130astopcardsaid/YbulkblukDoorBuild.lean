import Derived.Test.YbulkblukDoorIter
namespace Go.Proofs.YbulkblukDoor
open Go.RowKit Go.Shelf

/-- A liveness whose one field that is set is pcs. -/
def lcells (s : Value) : Array Value :=
  (([.pointer none, .string ⟨#[]⟩, .int .i8 0, .slice none 0 0, s, .slice none 0 0, .slice none 0 0, .slice none 0 0] : List Value) ++ List.replicate 128 (Value.int .i32 0) ++ List.replicate 128 (Value.int .i8 0) ++
    ([.int .i64 0, .int .i64 0, .slice none 0 0, .slice none 0 0, .slice none 0 0, .slice none 0 0, .map none, .slice none 0 0, .slice none 0 0, .int .i64 0, .int .i64 0, .bool false, .int .i64 0, .int .i64 0, .slice none 0 0, .int .i64 0, .slice none 0 0,
     .slice none 0 0, .int .i64 0, .map none, .slice none 0 0, .slice none 0 0, .int .i64 0, .slice none 0 0, .slice none 0 0, .slice none 0 0, .int .u32 0, .slice none 0 0, .slice none 0 0, .slice none 0 0] : List Value)).toArray

theorem build42 (g n : Nat) : ∃ C : Array Value, C[4]? = some (.slice (some ⟨g, 0, none⟩) n n) ∧ ∀ w, (Instr.build 42 #[(4, .slice (some ⟨g, 0, none⟩) n n)]).run Ybad.prog w = .ok (.agg C) w :=
  ⟨lcells (.slice (some ⟨g, 0, none⟩) n n), by kernel_rfl, fun _ => by kernel_rfl⟩

theorem wpListIn_build {F : Fence} {n : Nat} {P : Program} {w : World} {ops : Array Oper} {rest : List Oper} {o : Oper} {a : Act} {Q : Exit → Act → World → Prop}
    (hg : o.guard = none) (t : TypeId) (i : Nat) (x : Operand) (hop : o.op = .build t #[(i, x)]) (s : Value) (hx : a.eval x = s) (v : Value) (hrun : ∀ w, (Instr.build t #[(i, s)]).run P w = .ok v w)
    (hK : wpListIn F n P ops Q rest (a.put o.dst v) w) : wpListIn F n P ops Q (o :: rest) a w := by
  refine wpListIn_plain hg fun K hK' => ?_
  unfold Oper.wpIn
  refine ⟨?_, ?_⟩
  · simp [Oper.about, hop]
  · rw [Oper.semAt_plain F _ _ (by rw [hop]; intro c hc'; cases hc')]
    simp [execOp, hop, hx, hrun, Result.andThen]
    exact hK' _ _ hK
end Go.Proofs.YbulkblukDoor
