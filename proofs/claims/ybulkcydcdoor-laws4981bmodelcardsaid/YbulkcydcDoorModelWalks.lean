/- The walks of unitList and of LawS4981BModel. -/
import Derived.Test.YbulkcydcDoorShelf
import Derived.WalkKit
import Derived.WalkSpells
import Derived.WalkLawsBesides
import Derived.Deep.RegionWith
import Derived.LoopN
namespace Go.Proofs.YbulkcydcDoor
open Go.RowKit

def u0 : ByteArray := ⟨#[89, 69, 65, 82, 83]⟩
def u1 : ByteArray := ⟨#[77, 79, 78, 84, 72, 83]⟩
def u2 : ByteArray := ⟨#[68, 65, 89, 83]⟩
def u3 : ByteArray := ⟨#[72, 79, 85, 82, 83]⟩
def u4 : ByteArray := ⟨#[77, 73, 78, 85, 84, 69, 83]⟩
def u5 : ByteArray := ⟨#[83, 69, 67, 79, 78, 68, 83]⟩
def u6 : ByteArray := ⟨#[77, 73, 67, 82, 79, 83, 69, 67, 79, 78, 68, 83]⟩

theorem mk7 (w : World) : (Instr.makeSlice 41 (.int .i64 7) (.int .i64 7)).run Ybad.prog w = .ok (.slice (some ⟨w.heap.size, 0, none⟩) 7 7) (w.alloc (.cells #[.string ⟨#[]⟩, .string ⟨#[]⟩, .string ⟨#[]⟩, .string ⟨#[]⟩, .string ⟨#[]⟩, .string ⟨#[]⟩, .string ⟨#[]⟩] 9)) := by kernel_rfl
theorem ix0 (w : World) : (Instr.index 31 (.agg #[.string u0, .string u1, .string u2, .string u3, .string u4, .string u5, .string u6]) (.int .i64 0)).run Ybad.prog w = .ok (.string u0) w := by kernel_rfl
theorem ix1 (w : World) : (Instr.index 31 (.agg #[.string u0, .string u1, .string u2, .string u3, .string u4, .string u5, .string u6]) (.int .i64 1)).run Ybad.prog w = .ok (.string u1) w := by kernel_rfl
theorem ix2 (w : World) : (Instr.index 31 (.agg #[.string u0, .string u1, .string u2, .string u3, .string u4, .string u5, .string u6]) (.int .i64 2)).run Ybad.prog w = .ok (.string u2) w := by kernel_rfl
theorem ix3 (w : World) : (Instr.index 31 (.agg #[.string u0, .string u1, .string u2, .string u3, .string u4, .string u5, .string u6]) (.int .i64 3)).run Ybad.prog w = .ok (.string u3) w := by kernel_rfl
theorem ix4 (w : World) : (Instr.index 31 (.agg #[.string u0, .string u1, .string u2, .string u3, .string u4, .string u5, .string u6]) (.int .i64 4)).run Ybad.prog w = .ok (.string u4) w := by kernel_rfl
theorem ix5 (w : World) : (Instr.index 31 (.agg #[.string u0, .string u1, .string u2, .string u3, .string u4, .string u5, .string u6]) (.int .i64 5)).run Ybad.prog w = .ok (.string u5) w := by kernel_rfl
theorem ix6 (w : World) : (Instr.index 31 (.agg #[.string u0, .string u1, .string u2, .string u3, .string u4, .string u5, .string u6]) (.int .i64 6)).run Ybad.prog w = .ok (.string u6) w := by kernel_rfl
theorem heap_alloc0 {w : World} {x : Obj} (h : w.heap[0]? = some x) (o : Obj) : (w.alloc o).heap[0]? = some x := by
  have h1 : 0 < w.heap.size := (Array.getElem?_eq_some_iff.1 h).1
  simp only [World.alloc, Array.getElem?_push]
  rw [if_neg (by omega)]; exact h
def joined : ByteArray := ⟨#[89, 69, 65, 82, 83, 44, 32, 77, 79, 78, 84, 72, 83, 44, 32, 68, 65, 89, 83, 44, 32, 72, 79, 85, 82, 83, 44, 32, 77, 73, 78, 85, 84, 69, 83, 44, 32, 83, 69, 67, 79, 78, 68, 83]⟩
theorem join_at (b : Nat) (wx : World) (hb : b < wx.heap.size) (h0 : wx.cell? ⟨b, 0, none⟩ = some (.string u0)) (h1 : wx.cell? ⟨b, 1, none⟩ = some (.string u1)) (h2 : wx.cell? ⟨b, 2, none⟩ = some (.string u2))
    (h3 : wx.cell? ⟨b, 3, none⟩ = some (.string u3)) (h4 : wx.cell? ⟨b, 4, none⟩ = some (.string u4)) (h5 : wx.cell? ⟨b, 5, none⟩ = some (.string u5)) :
    Calls Ybad.prog 12 #[.slice (some ⟨b, 0, none⟩) 6 7, .string ⟨#[44, 32]⟩] wx fun e w' => e = .returned (.string joined) ∧ Below wx.heap.size wx w' := by
  have := Ybad.strings_Join b 0 7 [u0, u1, u2, u3, u4, u5] ⟨#[44, 32]⟩ wx (fun j x hj => by
    match j, hj with
    | 0, hj => simp at hj; subst hj; exact h0
    | 1, hj => simp at hj; subst hj; exact h1
    | 2, hj => simp at hj; subst hj; exact h2
    | 3, hj => simp at hj; subst hj; exact h3
    | 4, hj => simp at hj; subst hj; exact h4
    | 5, hj => simp at hj; subst hj; exact h5
    | (n + 6), hj => simp at hj) hb (by decide) (by decide) (by decide)
  exact this
set_option maxHeartbeats 1000000 in
theorem unitList_any (w : World) (fr : Nat × Nat) (t : TypeId) (hg : w.heap[0]? = some (.cells #[.string u0, .string u1, .string u2, .string u3, .string u4, .string u5, .string u6] t fr)) :
    Calls Ybad.prog 10 #[] w fun e w' => e = .returned (.string (joined ++ ⟨#[32, 111, 114, 32]⟩ ++ u6)) ∧ Below w.heap.size w w' := by
  have hmk := mk7
  have i0 := ix0
  have i1 := ix1
  have i2 := ix2
  have i3 := ix3
  have i4 := ix4
  have i5 := ix5
  have i6 := ix6
  go_enter Ybad.func10, Ybad.ntmps10
  go_wp2_with (refine wpList_load_row rfl 31 _ rfl 0 rfl t _ fr _ (heap_alloc0 hg _) Ybad.underlying31 rfl (by kernel_rfl) ?_)
  refine wp_loop_rounds 8 ?_
  iterate 8 (rw [rounds_succ]; go_wp2)
  go_region_with (go_at_call 12; refine (join_at w.heap.size _ (by simp) (by go_simp) (by go_simp) (by go_simp) (by go_simp) (by go_simp) (by go_simp)).mono ?_; rintro e w1 ⟨rfl, hb1⟩; have k6 := (hb1.cell (p := ⟨w.heap.size, 6, none⟩) (by simp)))
  all_goals (try go_wp2)
  all_goals go_ret
  all_goals exact ⟨rfl, ((Below.refl _ _).alloc (Nat.le_refl _) _).drew.trans (hb1.mono (by simp))⟩
theorem same : joined ++ ⟨#[32, 111, 114, 32]⟩ ++ u6 = ⟨#[]⟩ ++ u0 ++ ⟨#[44, 32]⟩ ++ u1 ++ ⟨#[44, 32]⟩ ++ u2 ++ ⟨#[44, 32]⟩ ++ u3 ++ ⟨#[44, 32]⟩ ++ u4 ++ ⟨#[44, 32]⟩ ++ u5 ++ (⟨#[32, 111, 114, 32]⟩ ++ u6) := by
  apply ByteArray.ext
  simp only [ByteArray.data_append]
  decide
theorem cell_of_heap0 {w : World} {cs : Array Value} {t : TypeId} {fr : Nat × Nat} (h : w.heap[0]? = some (.cells cs t fr)) (i : Nat) : w.cell? ⟨0, i, none⟩ = cs[i]? := by
  simp [World.cell?, h]
set_option maxHeartbeats 1000000 in
theorem model_any (w : World) (fr : Nat × Nat) (t : TypeId) (hg : w.heap[0]? = some (.cells #[.string u0, .string u1, .string u2, .string u3, .string u4, .string u5, .string u6] t fr)) :
    Calls Ybad.prog 5 #[] w fun e w' => e = .returned (.bool true) ∧ Below w.heap.size w w' := by
  have c0 : w.cell? ⟨0, 0, none⟩ = some (.string u0) := cell_of_heap0 hg 0
  have c1 : w.cell? ⟨0, 1, none⟩ = some (.string u1) := cell_of_heap0 hg 1
  have c2 : w.cell? ⟨0, 2, none⟩ = some (.string u2) := cell_of_heap0 hg 2
  have c3 : w.cell? ⟨0, 3, none⟩ = some (.string u3) := cell_of_heap0 hg 3
  have c4 : w.cell? ⟨0, 4, none⟩ = some (.string u4) := cell_of_heap0 hg 4
  have c5 : w.cell? ⟨0, 5, none⟩ = some (.string u5) := cell_of_heap0 hg 5
  have c6 : w.cell? ⟨0, 6, none⟩ = some (.string u6) := cell_of_heap0 hg 6
  go_enter Ybad.func5, Ybad.ntmps5
  go_wp2
  refine wp_loop_rounds 7 ?_
  iterate 6 (rw [rounds_succ]; go_wp2)
  rw [rounds_succ]
  go_wp2_with (go_at_call 10; refine (unitList_any _ fr t hg).mono ?_; rintro e w1 ⟨rfl, hb1⟩)
  go_ret
  rw [same, beq_self_eq_true]
  exact ⟨rfl, hb1⟩
end Go.Proofs.YbulkcydcDoor
