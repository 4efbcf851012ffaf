/- The two ends of a link's streams, and its Close. -/
import Derived.Test.YbulkcygiPoke
import Derived.Test.YbulkcygiLocks
import Derived.WalkKit
import Derived.Below
namespace Go.Proofs.Ybulkcygi
open Go.RowKit Go.MuLone

theorem set_same {w : World} {a : Addr} {u : Value} (v : Value) (h : w.cell? a = some u) : (w.setCell a v).cell? a = some v := World.cell?_setCell_same w a v h
theorem set_other {w : World} {a b : Addr} {x : Option Value} (v : Value) (h : a ≠ b) (hb : w.cell? b = x) : (w.setCell a v).cell? b = x := (World.cell?_setCell_other w a b v h).trans hb

theorem set_frozen {w : World} {b : Nat} (a : Addr) (v : Value) (h : ∀ i, w.frozen? ⟨b, i, none⟩ = false) : ∀ i, (w.setCell a v).frozen? ⟨b, i, none⟩ = false := fun i => by simp [h i]

set_option maxRecDepth 100000 in
theorem bc_any (b o : Nat) (w : World) (h1 : w.cell? ⟨b, o + 1, none⟩ = some (.int .u32 0)) (h2 : w.cell? ⟨b, o + 1 + 1, none⟩ = some (.int .u32 0)) (h6 : w.cell? ⟨b, o + 6, none⟩ = some (.int .u64 0)) (hz : ∀ i, w.frozen? ⟨b, i, none⟩ = false) :
    Calls Yba.prog 21 #[.pointer (some ⟨b, o, none⟩)] w fun e w' => e = .returned (.tuple #[]) ∧ w' = w.setCell ⟨b, o + 6, none⟩ (.pointer (some ⟨b, o + 6, none⟩)) := by
  have e1 := check_new ⟨b, o + 6, none⟩ w h6 (hz _)
  have e2 := notify_none b (o + 1) (w.setCell ⟨b, o + 6, none⟩ (.pointer (some ⟨b, o + 6, none⟩))) (set_other _ (by simp) h1) (set_other _ (by simp) h2)
  go_enter Yba.func21, Yba.ntmps21
  go_wp2
  go_end0
  exact ⟨rfl, rfl⟩

set_option maxRecDepth 100000 in
theorem stream_end (b : Nat) (x : Bool) (w : World) (k3 : w.cell? ⟨b, 3, none⟩ = some (.chan none)) (m4 : w.cell? ⟨b, 4, none⟩ = some (.int .i32 0)) (n7 : w.cell? ⟨b, 7, none⟩ = some (.int .u32 0)) (n8 : w.cell? ⟨b, 8, none⟩ = some (.int .u32 0))
    (c12 : w.cell? ⟨b, 12, none⟩ = some (.int .u64 0)) (e26 : w.cell? ⟨b, 26, none⟩ = some (.bool x)) (hz : ∀ i, w.frozen? ⟨b, i, none⟩ = false) :
    Calls Yba.prog 17 #[.pointer (some ⟨b, 0, none⟩)] w fun e w' => e = .returned (.tuple #[]) ∧
      w' = (((w.setCell ⟨b, 4, none⟩ (.int .i32 1)).setCell ⟨b, 26, none⟩ (.bool true)).setCell ⟨b, 12, none⟩ (.pointer (some ⟨b, 12, none⟩))).setCell ⟨b, 4, none⟩ (.int .i32 0) := by
  have z1 := set_frozen ⟨b, 4, none⟩ (.int .i32 1) hz
  have z2 := set_frozen ⟨b, 26, none⟩ (.bool true) z1
  have z3 := set_frozen ⟨b, 12, none⟩ (.pointer (some ⟨b, 12, none⟩)) z2
  have h26 : (w.setCell ⟨b, 4, none⟩ (.int .i32 1)).cell? ⟨b, 26, none⟩ = some (.bool x) := set_other _ (by simp) e26
  have z26 := z1 26
  go_enter Yba.func17, Yba.ntmps17
  go_wp2_with (first
    | (go_at_call 15; refine (lock_free muLib ⟨b, 4, none⟩ _ m4 (hz _)).mono ?_; rintro e w' ⟨rfl, rfl⟩)
    | (go_at_call 21; refine (bc_any b 6 _ (set_other _ (by simp) (set_other _ (by simp) n7)) (set_other _ (by simp) (set_other _ (by simp) n8)) (set_other _ (by simp) (set_other _ (by simp) c12)) z2).mono ?_; rintro e w' ⟨rfl, rfl⟩)
    | (go_at_call 16; refine (unlock_held muLib ⟨b, 4, none⟩ _ (set_other _ (by simp) (set_other _ (by simp) (set_same _ m4))) (z3 _)).mono ?_; rintro e w' ⟨rfl, rfl⟩)
    | (go_at_call 22; refine (poke_any b _ (set_other _ (by simp) (set_other _ (by simp) (set_other _ (by simp) (set_other _ (by simp) k3))))).mono ?_; rintro e w' ⟨rfl, rfl⟩))
  go_end0
  exact ⟨rfl, rfl⟩

set_option maxRecDepth 100000 in
theorem reader_end (b : Nat) (x : Bool) (w : World) (m1 : w.cell? ⟨b, 1, none⟩ = some (.int .i32 0)) (n4 : w.cell? ⟨b, 4, none⟩ = some (.int .u32 0)) (n5 : w.cell? ⟨b, 5, none⟩ = some (.int .u32 0))
    (c9 : w.cell? ⟨b, 9, none⟩ = some (.int .u64 0)) (e17 : w.cell? ⟨b, 17, none⟩ = some (.bool x)) (hz : ∀ i, w.frozen? ⟨b, i, none⟩ = false) :
    Calls Yba.prog 18 #[.pointer (some ⟨b, 0, none⟩)] w fun e w' => e = .returned (.tuple #[]) ∧
      w' = (((w.setCell ⟨b, 1, none⟩ (.int .i32 1)).setCell ⟨b, 17, none⟩ (.bool true)).setCell ⟨b, 9, none⟩ (.pointer (some ⟨b, 9, none⟩))).setCell ⟨b, 1, none⟩ (.int .i32 0) := by
  have z1 := set_frozen ⟨b, 1, none⟩ (.int .i32 1) hz
  have z2 := set_frozen ⟨b, 17, none⟩ (.bool true) z1
  have z3 := set_frozen ⟨b, 9, none⟩ (.pointer (some ⟨b, 9, none⟩)) z2
  have h17 : (w.setCell ⟨b, 1, none⟩ (.int .i32 1)).cell? ⟨b, 17, none⟩ = some (.bool x) := set_other _ (by simp) e17
  have z17 := z1 17
  go_enter Yba.func18, Yba.ntmps18
  go_wp2_with (first
    | (go_at_call 15; refine (lock_free muLib ⟨b, 1, none⟩ _ m1 (hz _)).mono ?_; rintro e w' ⟨rfl, rfl⟩)
    | (go_at_call 21; refine (bc_any b 3 _ (set_other _ (by simp) (set_other _ (by simp) n4)) (set_other _ (by simp) (set_other _ (by simp) n5)) (set_other _ (by simp) (set_other _ (by simp) c9)) z2).mono ?_; rintro e w' ⟨rfl, rfl⟩)
    | (go_at_call 16; refine (unlock_held muLib ⟨b, 1, none⟩ _ (set_other _ (by simp) (set_other _ (by simp) (set_same _ m1))) (z3 _)).mono ?_; rintro e w' ⟨rfl, rfl⟩))
  go_end0
  exact ⟨rfl, rfl⟩
end Go.Proofs.Ybulkcygi
