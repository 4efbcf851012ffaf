/- A link and its two streams, as the laws build them. -/
import Derived.Test.YbulkcygiEnds
namespace Go.Proofs.Ybulkcygi
open Go.RowKit Go.MuLone

def linkArr (mu ct bd : Int) (o i : Value) (cl : Bool) : Array Value :=
  #[.pointer none, .int .u64 0, .int .u64 0, .pointer none, .int .u16 0, .nilFunc, .nilFunc, .nilFunc, .nilFunc, .slice none 0 0, .int .u64 0, .nilIface, .int .i32 mu, .int .u32 0, .int .u64 ct, .map none, .int .u64 bd, .slice none 0 0,
    .int .u64 0, .int .u64 0, .int .u64 0, .int .u64 0, .int .u64 0, .int .u64 0, .int .u64 0, .int .u64 0, .int .u64 0, .int .u64 0, .int .u64 0, .int .u64 0, .int .u64 0, .int .u64 0, .int .u64 0, .int .u64 0, .int .u64 0, .int .u64 0, .int .u64 0,
    .slice none 0 0, .int .u64 0, .int .i64 0, .pointer none, .int .u64 0, .int .i64 0, .pointer none, o, i, .bool cl]
def strArr (l : Value) (id to : Int) (mu : Int) (lk ck : Value) (ln : Int) (en : Bool) : Array Value :=
  #[l, .int .u64 id, .int .u64 to, .chan none, .int .i32 mu, .int .u32 0, lk, .int .u32 0, .int .u32 0, .int .u64 0, .pointer none, .pointer none, ck, .slice none 0 0, .slice none 0 0, .int .i64 0, .int .i64 0, .int .i64 0, .int .i64 ln,
    .int .u64 0, .int .i64 0, .pointer none, .bool false, .int .u64 0, .int .i64 0, .pointer none, .bool en]
def rdArr (id : Int) (mu : Int) (lk ck : Value) (tk : Int) (en : Bool) : Array Value :=
  #[.int .u64 id, .int .i32 mu, .int .u32 0, lk, .int .u32 0, .int .u32 0, .int .u64 0, .pointer none, .pointer none, ck, .slice none 0 0, .int .i64 0, .int .i8 0, .int .i64 tk, .int .i64 0, .map none, .bool false, .bool en, .int .i64 0]


set_option maxRecDepth 100000 in
theorem build_tt (cl oe ie : Bool) (bd ct oi ii ln tk : Int) (w : World) :
    Calls Yba.prog 11 #[.agg #[.bool true, .bool true, .bool cl, .int .u64 bd, .int .u64 ct, .int .u64 oi, .int .u64 ii, .bool oe, .bool ie, .int .i64 ln, .int .i64 tk]] w fun e w' => e = .returned (.tuple #[.pointer (some ⟨w.heap.size + 1, 0, none⟩), (.pointer (some ⟨w.heap.size + 2, 0, none⟩)), (.pointer (some ⟨w.heap.size + 3, 0, none⟩))]) ∧
      w' = (((w.alloc (.cells #[.bool true, .bool true, .bool cl, .int .u64 bd, .int .u64 ct, .int .u64 oi, .int .u64 ii, .bool oe, .bool ie, .int .i64 ln, .int .i64 tk] 47)).alloc (.cells (linkArr 0 ct bd (.pointer (some ⟨w.heap.size + 2, 0, none⟩)) (.pointer (some ⟨w.heap.size + 3, 0, none⟩)) cl) 93)).alloc (.cells (strArr (.pointer (some ⟨w.heap.size + 1, 0, none⟩)) oi bd 0 (.iface 106 (.pointer (some ⟨w.heap.size + 2, 4, none⟩))) (.int .u64 0) ln oe) 105)).alloc (.cells (rdArr ii 0 (.iface 106 (.pointer (some ⟨w.heap.size + 3, 1, none⟩))) (.int .u64 0) tk ie) 112) := by
  go_enter Yba.func11, Yba.ntmps11
  go_wp2
  go_ret3
  exact ⟨rfl, rfl⟩

set_option maxRecDepth 100000 in
theorem build_tf (cl oe ie : Bool) (bd ct oi ii ln tk : Int) (w : World) :
    Calls Yba.prog 11 #[.agg #[.bool true, .bool false, .bool cl, .int .u64 bd, .int .u64 ct, .int .u64 oi, .int .u64 ii, .bool oe, .bool ie, .int .i64 ln, .int .i64 tk]] w fun e w' => e = .returned (.tuple #[.pointer (some ⟨w.heap.size + 1, 0, none⟩), (.pointer (some ⟨w.heap.size + 2, 0, none⟩)), (.pointer none)]) ∧
      w' = ((w.alloc (.cells #[.bool true, .bool false, .bool cl, .int .u64 bd, .int .u64 ct, .int .u64 oi, .int .u64 ii, .bool oe, .bool ie, .int .i64 ln, .int .i64 tk] 47)).alloc (.cells (linkArr 0 ct bd (.pointer (some ⟨w.heap.size + 2, 0, none⟩)) (.pointer none) cl) 93)).alloc (.cells (strArr (.pointer (some ⟨w.heap.size + 1, 0, none⟩)) oi bd 0 (.iface 106 (.pointer (some ⟨w.heap.size + 2, 4, none⟩))) (.int .u64 0) ln oe) 105) := by
  go_enter Yba.func11, Yba.ntmps11
  go_wp2
  go_ret3
  exact ⟨rfl, rfl⟩

set_option maxRecDepth 100000 in
theorem build_ft (cl oe ie : Bool) (bd ct oi ii ln tk : Int) (w : World) :
    Calls Yba.prog 11 #[.agg #[.bool false, .bool true, .bool cl, .int .u64 bd, .int .u64 ct, .int .u64 oi, .int .u64 ii, .bool oe, .bool ie, .int .i64 ln, .int .i64 tk]] w fun e w' => e = .returned (.tuple #[.pointer (some ⟨w.heap.size + 1, 0, none⟩), (.pointer none), (.pointer (some ⟨w.heap.size + 2, 0, none⟩))]) ∧
      w' = ((w.alloc (.cells #[.bool false, .bool true, .bool cl, .int .u64 bd, .int .u64 ct, .int .u64 oi, .int .u64 ii, .bool oe, .bool ie, .int .i64 ln, .int .i64 tk] 47)).alloc (.cells (linkArr 0 ct bd (.pointer none) (.pointer (some ⟨w.heap.size + 2, 0, none⟩)) cl) 93)).alloc (.cells (rdArr ii 0 (.iface 106 (.pointer (some ⟨w.heap.size + 2, 1, none⟩))) (.int .u64 0) tk ie) 112) := by
  go_enter Yba.func11, Yba.ntmps11
  go_wp2
  go_ret3
  exact ⟨rfl, rfl⟩

set_option maxRecDepth 100000 in
theorem build_ff (cl oe ie : Bool) (bd ct oi ii ln tk : Int) (w : World) :
    Calls Yba.prog 11 #[.agg #[.bool false, .bool false, .bool cl, .int .u64 bd, .int .u64 ct, .int .u64 oi, .int .u64 ii, .bool oe, .bool ie, .int .i64 ln, .int .i64 tk]] w fun e w' => e = .returned (.tuple #[.pointer (some ⟨w.heap.size + 1, 0, none⟩), (.pointer none), (.pointer none)]) ∧
      w' = (w.alloc (.cells #[.bool false, .bool false, .bool cl, .int .u64 bd, .int .u64 ct, .int .u64 oi, .int .u64 ii, .bool oe, .bool ie, .int .i64 ln, .int .i64 tk] 47)).alloc (.cells (linkArr 0 ct bd (.pointer none) (.pointer none) cl) 93) := by
  go_enter Yba.func11, Yba.ntmps11
  go_wp2
  go_ret3
  exact ⟨rfl, rfl⟩
end Go.Proofs.Ybulkcygi
