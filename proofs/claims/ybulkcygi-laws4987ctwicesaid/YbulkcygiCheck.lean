/- The laws' own look at the link behind Close. -/
import Derived.Test.YbulkcygiClose
import Derived.WalkSmall
import Derived.Deep.RegionHeld
import Derived.LaidEql
namespace Go.Proofs.Ybulkcygi
open Go.RowKit

theorem keep_cell {w : World} {o : Obj} {a : Addr} {x : Value} (h : w.cell? a = some x) : (w.alloc o).cell? a = some x := (World.cell?_alloc_some _ _ _ (by rw [h]; rfl)).trans h
theorem neq48 (a : Addr) (w : World) : (binOp .neq 48 (.pointer (some a)) (.pointer (some a))).run Yba.prog w = .ok (.bool false) w := by
  have hz := Yba.sizeOf93 w
  have h : ∀ d : Nat, (Op.equalIn (d + 1) 48 (.pointer (some a)) (.pointer (some a))).run Yba.prog w = .ok true w := fun d => by simp [Op.equalIn, run_underlying Yba.underlying48, hz, run_sameAddr_same]
  simp only [binOp]
  simp [Op.equal, Op.maxDepth, h 9999]

set_option maxRecDepth 100000 in
theorem check_tt (L : Nat) (cl oe ie : Bool) (bd ct oi ii ln tk : Int) (S : Nat) (slk sck : Value) (R : Nat) (rlk rck : Value) (w : World) (hL : w.heap[L]? = some (.cells (linkArr 0 ct bd (.pointer none) (.pointer none) true) 93 (0, 0))) (hS : w.heap[S]? = some (.cells (strArr (.pointer (some ⟨L, 0, none⟩)) oi bd 0 slk sck ln true) 105 (0, 0))) (hR : w.heap[R]? = some (.cells (rdArr ii 0 rlk rck tk true) 112 (0, 0))) :
    Calls Yba.prog 13 #[.agg #[.bool true, .bool true, .bool cl, .int .u64 bd, .int .u64 ct, .int .u64 oi, .int .u64 ii, .bool oe, .bool ie, .int .i64 ln, .int .i64 tk], .pointer (some ⟨L, 0, none⟩), (.pointer (some ⟨S, 0, none⟩)), (.pointer (some ⟨R, 0, none⟩))] w fun e w' => e = .returned (.bool true) ∧ Below w.heap.size w w' := by
  have c46 : (w.alloc (.cells #[.bool true, .bool true, .bool cl, .int .u64 bd, .int .u64 ct, .int .u64 oi, .int .u64 ii, .bool oe, .bool ie, .int .i64 ln, .int .i64 tk] 47)).cell? ⟨L, 46, none⟩ = some (.bool true) := keep_cell (at_cells hL 46 (.bool true) rfl)
  have c44 : (w.alloc (.cells #[.bool true, .bool true, .bool cl, .int .u64 bd, .int .u64 ct, .int .u64 oi, .int .u64 ii, .bool oe, .bool ie, .int .i64 ln, .int .i64 tk] 47)).cell? ⟨L, 44, none⟩ = some (.pointer none) := keep_cell (at_cells hL 44 (.pointer none) rfl)
  have c45 : (w.alloc (.cells #[.bool true, .bool true, .bool cl, .int .u64 bd, .int .u64 ct, .int .u64 oi, .int .u64 ii, .bool oe, .bool ie, .int .i64 ln, .int .i64 tk] 47)).cell? ⟨L, 45, none⟩ = some (.pointer none) := keep_cell (at_cells hL 45 (.pointer none) rfl)
  have c16 : (w.alloc (.cells #[.bool true, .bool true, .bool cl, .int .u64 bd, .int .u64 ct, .int .u64 oi, .int .u64 ii, .bool oe, .bool ie, .int .i64 ln, .int .i64 tk] 47)).cell? ⟨L, 16, none⟩ = some (.int .u64 bd) := keep_cell (at_cells hL 16 (.int .u64 bd) rfl)
  have c14 : (w.alloc (.cells #[.bool true, .bool true, .bool cl, .int .u64 bd, .int .u64 ct, .int .u64 oi, .int .u64 ii, .bool oe, .bool ie, .int .i64 ln, .int .i64 tk] 47)).cell? ⟨L, 14, none⟩ = some (.int .u64 ct) := keep_cell (at_cells hL 14 (.int .u64 ct) rfl)
  have n48 := neq48
  have s26 : (w.alloc (.cells #[.bool true, .bool true, .bool cl, .int .u64 bd, .int .u64 ct, .int .u64 oi, .int .u64 ii, .bool oe, .bool ie, .int .i64 ln, .int .i64 tk] 47)).cell? ⟨S, 26, none⟩ = some (.bool true) := keep_cell (at_cells hS 26 (.bool true) rfl)
  have s1 : (w.alloc (.cells #[.bool true, .bool true, .bool cl, .int .u64 bd, .int .u64 ct, .int .u64 oi, .int .u64 ii, .bool oe, .bool ie, .int .i64 ln, .int .i64 tk] 47)).cell? ⟨S, 1, none⟩ = some (.int .u64 oi) := keep_cell (at_cells hS 1 (.int .u64 oi) rfl)
  have s18 : (w.alloc (.cells #[.bool true, .bool true, .bool cl, .int .u64 bd, .int .u64 ct, .int .u64 oi, .int .u64 ii, .bool oe, .bool ie, .int .i64 ln, .int .i64 tk] 47)).cell? ⟨S, 18, none⟩ = some (.int .i64 ln) := keep_cell (at_cells hS 18 (.int .i64 ln) rfl)
  have s0 : (w.alloc (.cells #[.bool true, .bool true, .bool cl, .int .u64 bd, .int .u64 ct, .int .u64 oi, .int .u64 ii, .bool oe, .bool ie, .int .i64 ln, .int .i64 tk] 47)).cell? ⟨S, 0, none⟩ = some (.pointer (some ⟨L, 0, none⟩)) := keep_cell (at_cells hS 0 (.pointer (some ⟨L, 0, none⟩)) rfl)
  have s2 : (w.alloc (.cells #[.bool true, .bool true, .bool cl, .int .u64 bd, .int .u64 ct, .int .u64 oi, .int .u64 ii, .bool oe, .bool ie, .int .i64 ln, .int .i64 tk] 47)).cell? ⟨S, 2, none⟩ = some (.int .u64 bd) := keep_cell (at_cells hS 2 (.int .u64 bd) rfl)
  have r17 : (w.alloc (.cells #[.bool true, .bool true, .bool cl, .int .u64 bd, .int .u64 ct, .int .u64 oi, .int .u64 ii, .bool oe, .bool ie, .int .i64 ln, .int .i64 tk] 47)).cell? ⟨R, 17, none⟩ = some (.bool true) := keep_cell (at_cells hR 17 (.bool true) rfl)
  have r0 : (w.alloc (.cells #[.bool true, .bool true, .bool cl, .int .u64 bd, .int .u64 ct, .int .u64 oi, .int .u64 ii, .bool oe, .bool ie, .int .i64 ln, .int .i64 tk] 47)).cell? ⟨R, 0, none⟩ = some (.int .u64 ii) := keep_cell (at_cells hR 0 (.int .u64 ii) rfl)
  have r13 : (w.alloc (.cells #[.bool true, .bool true, .bool cl, .int .u64 bd, .int .u64 ct, .int .u64 oi, .int .u64 ii, .bool oe, .bool ie, .int .i64 ln, .int .i64 tk] 47)).cell? ⟨R, 13, none⟩ = some (.int .i64 tk) := keep_cell (at_cells hR 13 (.int .i64 tk) rfl)
  clear hL hS hR
  go_enter Yba.func13, Yba.ntmps13
  go_wp2_with fail
  go_quiet (fail)
  go_wp2_with fail
  go_quiet (fail)
  go_wp2_with fail
  go_quiet (fail)
  go_wp2
  go_ret
  exact ⟨rfl, by first | exact below_drewN ((Below.refl _ _).alloc (Nat.le_refl _) _) _ | exact below_drewN (below_drewN ((Below.refl _ _).alloc (Nat.le_refl _) _) _) _ | exact below_drewN (below_drewN (below_drewN ((Below.refl _ _).alloc (Nat.le_refl _) _) _) _) _⟩

set_option maxRecDepth 100000 in
theorem check_tf (L : Nat) (cl oe ie : Bool) (bd ct oi ii ln tk : Int) (S : Nat) (slk sck : Value) (w : World) (hL : w.heap[L]? = some (.cells (linkArr 0 ct bd (.pointer none) (.pointer none) true) 93 (0, 0))) (hS : w.heap[S]? = some (.cells (strArr (.pointer (some ⟨L, 0, none⟩)) oi bd 0 slk sck ln true) 105 (0, 0))) :
    Calls Yba.prog 13 #[.agg #[.bool true, .bool false, .bool cl, .int .u64 bd, .int .u64 ct, .int .u64 oi, .int .u64 ii, .bool oe, .bool ie, .int .i64 ln, .int .i64 tk], .pointer (some ⟨L, 0, none⟩), (.pointer (some ⟨S, 0, none⟩)), (.pointer none)] w fun e w' => e = .returned (.bool true) ∧ Below w.heap.size w w' := by
  have c46 : (w.alloc (.cells #[.bool true, .bool false, .bool cl, .int .u64 bd, .int .u64 ct, .int .u64 oi, .int .u64 ii, .bool oe, .bool ie, .int .i64 ln, .int .i64 tk] 47)).cell? ⟨L, 46, none⟩ = some (.bool true) := keep_cell (at_cells hL 46 (.bool true) rfl)
  have c44 : (w.alloc (.cells #[.bool true, .bool false, .bool cl, .int .u64 bd, .int .u64 ct, .int .u64 oi, .int .u64 ii, .bool oe, .bool ie, .int .i64 ln, .int .i64 tk] 47)).cell? ⟨L, 44, none⟩ = some (.pointer none) := keep_cell (at_cells hL 44 (.pointer none) rfl)
  have c45 : (w.alloc (.cells #[.bool true, .bool false, .bool cl, .int .u64 bd, .int .u64 ct, .int .u64 oi, .int .u64 ii, .bool oe, .bool ie, .int .i64 ln, .int .i64 tk] 47)).cell? ⟨L, 45, none⟩ = some (.pointer none) := keep_cell (at_cells hL 45 (.pointer none) rfl)
  have c16 : (w.alloc (.cells #[.bool true, .bool false, .bool cl, .int .u64 bd, .int .u64 ct, .int .u64 oi, .int .u64 ii, .bool oe, .bool ie, .int .i64 ln, .int .i64 tk] 47)).cell? ⟨L, 16, none⟩ = some (.int .u64 bd) := keep_cell (at_cells hL 16 (.int .u64 bd) rfl)
  have c14 : (w.alloc (.cells #[.bool true, .bool false, .bool cl, .int .u64 bd, .int .u64 ct, .int .u64 oi, .int .u64 ii, .bool oe, .bool ie, .int .i64 ln, .int .i64 tk] 47)).cell? ⟨L, 14, none⟩ = some (.int .u64 ct) := keep_cell (at_cells hL 14 (.int .u64 ct) rfl)
  have n48 := neq48
  have s26 : (w.alloc (.cells #[.bool true, .bool false, .bool cl, .int .u64 bd, .int .u64 ct, .int .u64 oi, .int .u64 ii, .bool oe, .bool ie, .int .i64 ln, .int .i64 tk] 47)).cell? ⟨S, 26, none⟩ = some (.bool true) := keep_cell (at_cells hS 26 (.bool true) rfl)
  have s1 : (w.alloc (.cells #[.bool true, .bool false, .bool cl, .int .u64 bd, .int .u64 ct, .int .u64 oi, .int .u64 ii, .bool oe, .bool ie, .int .i64 ln, .int .i64 tk] 47)).cell? ⟨S, 1, none⟩ = some (.int .u64 oi) := keep_cell (at_cells hS 1 (.int .u64 oi) rfl)
  have s18 : (w.alloc (.cells #[.bool true, .bool false, .bool cl, .int .u64 bd, .int .u64 ct, .int .u64 oi, .int .u64 ii, .bool oe, .bool ie, .int .i64 ln, .int .i64 tk] 47)).cell? ⟨S, 18, none⟩ = some (.int .i64 ln) := keep_cell (at_cells hS 18 (.int .i64 ln) rfl)
  have s0 : (w.alloc (.cells #[.bool true, .bool false, .bool cl, .int .u64 bd, .int .u64 ct, .int .u64 oi, .int .u64 ii, .bool oe, .bool ie, .int .i64 ln, .int .i64 tk] 47)).cell? ⟨S, 0, none⟩ = some (.pointer (some ⟨L, 0, none⟩)) := keep_cell (at_cells hS 0 (.pointer (some ⟨L, 0, none⟩)) rfl)
  have s2 : (w.alloc (.cells #[.bool true, .bool false, .bool cl, .int .u64 bd, .int .u64 ct, .int .u64 oi, .int .u64 ii, .bool oe, .bool ie, .int .i64 ln, .int .i64 tk] 47)).cell? ⟨S, 2, none⟩ = some (.int .u64 bd) := keep_cell (at_cells hS 2 (.int .u64 bd) rfl)
  clear hL hS
  go_enter Yba.func13, Yba.ntmps13
  go_wp2_with fail
  go_quiet (fail)
  go_wp2_with fail
  go_quiet (fail)
  go_wp2
  go_ret
  exact ⟨rfl, by first | exact below_drewN ((Below.refl _ _).alloc (Nat.le_refl _) _) _ | exact below_drewN (below_drewN ((Below.refl _ _).alloc (Nat.le_refl _) _) _) _ | exact below_drewN (below_drewN (below_drewN ((Below.refl _ _).alloc (Nat.le_refl _) _) _) _) _⟩

set_option maxRecDepth 100000 in
theorem check_ft (L : Nat) (cl oe ie : Bool) (bd ct oi ii ln tk : Int) (R : Nat) (rlk rck : Value) (w : World) (hL : w.heap[L]? = some (.cells (linkArr 0 ct bd (.pointer none) (.pointer none) true) 93 (0, 0))) (hR : w.heap[R]? = some (.cells (rdArr ii 0 rlk rck tk true) 112 (0, 0))) :
    Calls Yba.prog 13 #[.agg #[.bool false, .bool true, .bool cl, .int .u64 bd, .int .u64 ct, .int .u64 oi, .int .u64 ii, .bool oe, .bool ie, .int .i64 ln, .int .i64 tk], .pointer (some ⟨L, 0, none⟩), (.pointer none), (.pointer (some ⟨R, 0, none⟩))] w fun e w' => e = .returned (.bool true) ∧ Below w.heap.size w w' := by
  have c46 : (w.alloc (.cells #[.bool false, .bool true, .bool cl, .int .u64 bd, .int .u64 ct, .int .u64 oi, .int .u64 ii, .bool oe, .bool ie, .int .i64 ln, .int .i64 tk] 47)).cell? ⟨L, 46, none⟩ = some (.bool true) := keep_cell (at_cells hL 46 (.bool true) rfl)
  have c44 : (w.alloc (.cells #[.bool false, .bool true, .bool cl, .int .u64 bd, .int .u64 ct, .int .u64 oi, .int .u64 ii, .bool oe, .bool ie, .int .i64 ln, .int .i64 tk] 47)).cell? ⟨L, 44, none⟩ = some (.pointer none) := keep_cell (at_cells hL 44 (.pointer none) rfl)
  have c45 : (w.alloc (.cells #[.bool false, .bool true, .bool cl, .int .u64 bd, .int .u64 ct, .int .u64 oi, .int .u64 ii, .bool oe, .bool ie, .int .i64 ln, .int .i64 tk] 47)).cell? ⟨L, 45, none⟩ = some (.pointer none) := keep_cell (at_cells hL 45 (.pointer none) rfl)
  have c16 : (w.alloc (.cells #[.bool false, .bool true, .bool cl, .int .u64 bd, .int .u64 ct, .int .u64 oi, .int .u64 ii, .bool oe, .bool ie, .int .i64 ln, .int .i64 tk] 47)).cell? ⟨L, 16, none⟩ = some (.int .u64 bd) := keep_cell (at_cells hL 16 (.int .u64 bd) rfl)
  have c14 : (w.alloc (.cells #[.bool false, .bool true, .bool cl, .int .u64 bd, .int .u64 ct, .int .u64 oi, .int .u64 ii, .bool oe, .bool ie, .int .i64 ln, .int .i64 tk] 47)).cell? ⟨L, 14, none⟩ = some (.int .u64 ct) := keep_cell (at_cells hL 14 (.int .u64 ct) rfl)
  have r17 : (w.alloc (.cells #[.bool false, .bool true, .bool cl, .int .u64 bd, .int .u64 ct, .int .u64 oi, .int .u64 ii, .bool oe, .bool ie, .int .i64 ln, .int .i64 tk] 47)).cell? ⟨R, 17, none⟩ = some (.bool true) := keep_cell (at_cells hR 17 (.bool true) rfl)
  have r0 : (w.alloc (.cells #[.bool false, .bool true, .bool cl, .int .u64 bd, .int .u64 ct, .int .u64 oi, .int .u64 ii, .bool oe, .bool ie, .int .i64 ln, .int .i64 tk] 47)).cell? ⟨R, 0, none⟩ = some (.int .u64 ii) := keep_cell (at_cells hR 0 (.int .u64 ii) rfl)
  have r13 : (w.alloc (.cells #[.bool false, .bool true, .bool cl, .int .u64 bd, .int .u64 ct, .int .u64 oi, .int .u64 ii, .bool oe, .bool ie, .int .i64 ln, .int .i64 tk] 47)).cell? ⟨R, 13, none⟩ = some (.int .i64 tk) := keep_cell (at_cells hR 13 (.int .i64 tk) rfl)
  clear hL hR
  go_enter Yba.func13, Yba.ntmps13
  go_wp2_with fail
  go_quiet (fail)
  go_wp2_with fail
  go_quiet (fail)
  go_wp2
  go_ret
  exact ⟨rfl, by first | exact below_drewN ((Below.refl _ _).alloc (Nat.le_refl _) _) _ | exact below_drewN (below_drewN ((Below.refl _ _).alloc (Nat.le_refl _) _) _) _ | exact below_drewN (below_drewN (below_drewN ((Below.refl _ _).alloc (Nat.le_refl _) _) _) _) _⟩

set_option maxRecDepth 100000 in
theorem check_ff (L : Nat) (cl oe ie : Bool) (bd ct oi ii ln tk : Int) (w : World) (hL : w.heap[L]? = some (.cells (linkArr 0 ct bd (.pointer none) (.pointer none) true) 93 (0, 0))) :
    Calls Yba.prog 13 #[.agg #[.bool false, .bool false, .bool cl, .int .u64 bd, .int .u64 ct, .int .u64 oi, .int .u64 ii, .bool oe, .bool ie, .int .i64 ln, .int .i64 tk], .pointer (some ⟨L, 0, none⟩), (.pointer none), (.pointer none)] w fun e w' => e = .returned (.bool true) ∧ Below w.heap.size w w' := by
  have c46 : (w.alloc (.cells #[.bool false, .bool false, .bool cl, .int .u64 bd, .int .u64 ct, .int .u64 oi, .int .u64 ii, .bool oe, .bool ie, .int .i64 ln, .int .i64 tk] 47)).cell? ⟨L, 46, none⟩ = some (.bool true) := keep_cell (at_cells hL 46 (.bool true) rfl)
  have c44 : (w.alloc (.cells #[.bool false, .bool false, .bool cl, .int .u64 bd, .int .u64 ct, .int .u64 oi, .int .u64 ii, .bool oe, .bool ie, .int .i64 ln, .int .i64 tk] 47)).cell? ⟨L, 44, none⟩ = some (.pointer none) := keep_cell (at_cells hL 44 (.pointer none) rfl)
  have c45 : (w.alloc (.cells #[.bool false, .bool false, .bool cl, .int .u64 bd, .int .u64 ct, .int .u64 oi, .int .u64 ii, .bool oe, .bool ie, .int .i64 ln, .int .i64 tk] 47)).cell? ⟨L, 45, none⟩ = some (.pointer none) := keep_cell (at_cells hL 45 (.pointer none) rfl)
  have c16 : (w.alloc (.cells #[.bool false, .bool false, .bool cl, .int .u64 bd, .int .u64 ct, .int .u64 oi, .int .u64 ii, .bool oe, .bool ie, .int .i64 ln, .int .i64 tk] 47)).cell? ⟨L, 16, none⟩ = some (.int .u64 bd) := keep_cell (at_cells hL 16 (.int .u64 bd) rfl)
  have c14 : (w.alloc (.cells #[.bool false, .bool false, .bool cl, .int .u64 bd, .int .u64 ct, .int .u64 oi, .int .u64 ii, .bool oe, .bool ie, .int .i64 ln, .int .i64 tk] 47)).cell? ⟨L, 14, none⟩ = some (.int .u64 ct) := keep_cell (at_cells hL 14 (.int .u64 ct) rfl)
  clear hL
  go_enter Yba.func13, Yba.ntmps13
  go_wp2_with fail
  go_quiet (fail)
  go_wp2
  go_ret
  exact ⟨rfl, by first | exact below_drewN ((Below.refl _ _).alloc (Nat.le_refl _) _) _ | exact below_drewN (below_drewN ((Below.refl _ _).alloc (Nat.le_refl _) _) _) _ | exact below_drewN (below_drewN (below_drewN ((Below.refl _ _).alloc (Nat.le_refl _) _) _) _) _⟩
end Go.Proofs.Ybulkcygi
