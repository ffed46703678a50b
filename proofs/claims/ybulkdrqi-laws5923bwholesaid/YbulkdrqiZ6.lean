import Derived.Test.YbulkdrqiZ5
namespace Go.Proofs.Ybulkdrqi
open Go.RowKit Go.Conc

def Act.puts (a : Act) : List Nat → List Value → Act
  | d :: ds, v :: vs => Act.puts (a.put (some d) v) ds vs
  | _, _ => a
theorem wpN_seq_puts {P : Program} {Q : Exit → Act → World → Prop} {a : Act} {w : World} {x y : Code} (ds : List Nat) (F : List Value → World → Prop) (h1 : x.wp P (Exit.then (fun a' w' => ∃ vs, a' = Act.puts a ds vs ∧ F vs w') Q) a w)
    (h2 : ∀ vs w', F vs w' → wpN P y Q (Act.puts a ds vs) w') : wpN P (Code.seq x y) Q a w := by
  refine wpN_seq (wpN_of_wp (wp_mono h1 ?_))
  intro e a' w' he
  cases e with
  | normal => obtain ⟨vs, rfl, hf⟩ := he; exact h2 vs w' hf
  | exit id => exact he
  | goto l => exact he
  | ret => exact he
  | panic ch => exact he
  | outgrown => exact he

def pz : Array Value := #[.nilFunc, .int .i64 0, .int .i64 0, .int .i64 0, .chan none, .pointer none, .int .u64 0, .int .i64 0, .pointer none] ++ Array.replicate 64 (.int .u8 0) ++ #[.int .u32 0, .int .u32 0] ++ Array.replicate 64 (.int .u8 0) ++ #[.int .i32 0, .int .u32 0, .int .i64 0] ++ Array.replicate 64 (.int .u8 0) ++ #[.int .u32 0, .int .u32 0, .int .u32 0, .chan none, .int .u64 0, .int .u32 0] ++ Array.replicate 64 (.int .u8 0) ++ #[.slice none 0 0, .int .i64 0, .int .i64 0, .int .i64 0, .pointer none, .int .i8 0, .int .i64 0, .int .i64 0, .int .i64 0, .int .i64 0, .int .i64 0, .int .i64 0, .int .u64 0, .int .i64 0, .pointer none, .int .i64 0, .int .i64 0, .int .i64 0, .int .i64 0, .bool false] ++ Array.replicate 17 (.int .i64 0) ++ #[.bool false, .int .i64 0, .bool false, .int .i64 0, .int .i64 0, .int .i64 0, .int .i64 0, .bool false, .int .i64 0, .pointer none]
theorem pz_size : pz.size = 323 := by kernel_rfl
theorem zero64 (w : World) : (zeroValue 64).run Yba.prog w = .ok (.agg pz) w := by kernel_rfl
def p2 (n : Int) (q c : Value) : Array Value := ((((pz.setIfInBounds 1 (.int .i64 n)).setIfInBounds 2 (.int .i64 1)).setIfInBounds 3 (.int .i64 1)).setIfInBounds 5 q).setIfInBounds 209 c

end Go.Proofs.Ybulkdrqi
