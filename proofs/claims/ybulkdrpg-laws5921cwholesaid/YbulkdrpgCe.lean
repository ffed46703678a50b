import Derived.Test.YbulkdrpgC2
import Derived.LaidEqlPtr
namespace Go.Proofs.Ybulkdrpg
open Go.RowKit

theorem run_neq_ptr_same {P : Program} (w : World) {tp te : TypeId} {j : TypeInfo} (x : Option Addr) (hp : P.underlying tp = some (.pointer te)) (hte : P.info? te = some j) :
    (binOp .neq tp (.pointer x) (.pointer x)).run P w = .ok (.bool false) w := by
  have h : ∀ d : Nat, (Op.equalIn (d + 1) tp (.pointer x) (.pointer x)).run P w = .ok true w := fun d => by
    cases x with
    | none => simp [Op.equalIn, run_underlying hp]
    | some a => simp [Op.equalIn, run_underlying hp, sizeOf, typeInfo, hte, run_sameAddr_same]
  simp only [binOp]
  simp [Op.equal, Op.maxDepth, h 9999]

set_option maxHeartbeats 1000000 in
set_option maxRecDepth 10000 in
theorem neq_ent (c t s : Int) (tr gr : Bool) (pl : Int) (w : World) :
    (binOp .neq 62 (.agg #[.int .u64 c, .int .i64 t, .int .u64 0, .int .u64 0, .pointer none, .int .u16 0, .int .u64 s, .bool tr, .bool gr, .int .i64 pl]) (.agg #[.int .u64 c, .int .i64 t, .int .u64 0, .int .u64 0, .pointer none, .int .u16 0, .int .u64 s, .bool tr, .bool gr, .int .i64 pl])).run Yba.prog w = .ok (.bool false) w := by
  have h53' : ∀ d : Nat, (Op.equalIn (d + 1) 53 (.pointer none) (.pointer none)).run Yba.prog w = .ok true w := fun d => by simp [Op.equalIn, run_underlying Yba.underlying53]
  have h53 := h53' 9995
  rw [run_neq_struct]
  simp [go_sem, h53]

theorem neq_ptr63 (x : Option Addr) (w : World) : (binOp .neq 63 (.pointer x) (.pointer x)).run Yba.prog w = .ok (.bool false) w := by
  obtain ⟨i, hi, _⟩ := Option.map_eq_some_iff.1 Yba.info62
  exact run_neq_ptr_same w x Yba.underlying63 hi
end Go.Proofs.Ybulkdrpg
