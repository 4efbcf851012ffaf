/- appendPadded, fieldShape, appendFields, appendZone. -/
import Derived.Test.YbulkcydcDoorUint
import Derived.LoopN
import Derived.WalkSpells
import Derived.WalkLawsBesides
namespace Go.Proofs.YbulkcydcDoor
open Go.RowKit Go.Sort Go.Lib

/-- The numeral of u, at least two digits. -/
def pad (u : Nat) : List UInt8 := if u < 10 then 48 :: Lib.decDigits u else Lib.decDigits u
theorem pad_le (u : Nat) (hu : u < 18446744073709551616) : (pad u).length ≤ 21 := by
  have := decDigits_le u hu
  unfold pad
  split <;> simp <;> omega
def zeros20 : Array Value := #[.int .u8 0, .int .u8 0, .int .u8 0, .int .u8 0, .int .u8 0, .int .u8 0, .int .u8 0, .int .u8 0, .int .u8 0, .int .u8 0, .int .u8 0, .int .u8 0, .int .u8 0, .int .u8 0, .int .u8 0, .int .u8 0, .int .u8 0, .int .u8 0, .int .u8 0, .int .u8 0]

theorem bytes_one (l : List UInt8) : ∀ u ∈ Lib.byteCells l, u.oneCell' = true := by
  intro u' hu'; simp only [Lib.byteCells, List.mem_map] at hu'; obtain ⟨b, _, rfl⟩ := hu'; rfl
theorem one_one (k : IntKind) (x : Int) : ∀ u ∈ [Value.int k x], u.oneCell' = true := by
  intro u hu; simp at hu; subst hu; rfl
/-- The one cell of a new block, as a source. -/
theorem src_new {P : Program} (w : World) (x : Value) (t : TypeId) : ∀ wd : World, wd.heap = (w.alloc (.cells #[x] t)).heap → (Builtin.firstCells 1 1 (.slice (some ⟨w.heap.size, 0, none⟩) 1 1)).run P wd = .ok [x].toArray wd :=
  src_slice _ rfl (fun j u hj => by
    match j, hj with
    | 0, hj => simp at hj; subst hj; simp
    | (j + 1), hj => simp at hj)

set_option maxHeartbeats 3200000 in
set_option maxRecDepth 100000 in
theorem pad_any (B n u : Nat) (hu64 : u < 18446744073709551616) (sv : Value) (xs : List Value) (w : World) (hown : Owns w B sv n xs) (hBw : B ≤ w.heap.size) (hlim : n + 40 ≤ 140737488355328) (htab : Tab w) :
    Calls Ybad.prog 14 #[sv, .int .u64 u, .int .i64 2] w fun e w' => ∃ v', e = .returned v' ∧ Ext B w sv n w' v' (n + (pad u).length) (xs ++ Lib.byteCells (pad u)) := by
  obtain ⟨i0, hi, hz0, hz1, hz2⟩ := info_parts info5
  have hd := decDigits_le u hu64
  go_enter Ybad.func14, Ybad.ntmps14
  go_wp2_with fail
  refine (aup_any w.heap.size 0 u hu64 (.slice (some ⟨w.heap.size, 0, none⟩) 0 20) [] (w.alloc (.cells zeros20 39)) (Owns.made (cur := zeros20) (T := 39) (heap_alloc_new w _) (Nat.le_refl _) 0 20 (by omega) (by decide) rfl) (by simp) (by omega) (Lib.tabIs_alloc htab _)).mono ?_
  rintro e w1 ⟨v1, rfl, hx⟩
  rw [Nat.zero_add, List.nil_append] at hx
  have hb1 : Below w.heap.size w w1 := ((Below.refl _ _).alloc (Nat.le_refl _) _).trans (hx.kept.toBelow (by simp) (fun k hk => by simp [Value.ownBlock] at hk; omega))
  have hs1 : Ext B w sv n w1 sv n xs := (Ext.refl hown).below hb1
  have hsz1 := hb1.size
  obtain ⟨g, cap, rfl, hg1, hg2, hg3⟩ := hx.own.shape (by omega)
  have hne : ∀ k, sv.ownBlock = some k → k < w.heap.size := fun k hk => (hown.lt k hk).2
  by_cases h10 : u < 10
  · have hl : (Lib.decDigits u).length = 1 := by rw [Lib.decDigits_length, Lib.nDigits_small h10]
    have hp : pad u = 48 :: Lib.decDigits u := by unfold pad; rw [if_pos h10]
    have HD : Hid (Owns w1 w.heap.size (.slice (some ⟨g, 0, none⟩) 1 cap) 1 (Lib.byteCells (Lib.decDigits u))) := by have := hx.own; rw [hl] at this; exact this
    have HL := Lib.hid hl
    have HP := Lib.hid hp
    rw [hl]
    clear hx hl hp hd
    go_wp2
    refine wp_loop_rounds 2 ?_
    rw [rounds_succ]
    go_wp2_with (at_builtin; refine wpList_append_ext _ rfl _ _ 22 22 rfl B 5 i0 (.int .u8 0) 1 Ybad.underlying22 (.inl Ybad.underlying22) hi hz0 hz1 hz2 rfl _ _ _ rfl (hs1.own.alloc _) (.slice (some ⟨w1.heap.size, 0, none⟩) 1 1) rfl 1 [.int .u8 48] rfl rfl (src_new _ _ _) (one_one _ _) (by unfold maxLen; omega) (by omega) (by simp; omega) ?_)
    intro v2 w2 hx2
    have hs2 : Ext B w sv n w2 v2 (n + 1) (xs ++ [.int .u8 48]) := (hs1.alloc _).trans hx2
    have hD2 : Owns w2 w.heap.size (.slice (some ⟨g, 0, none⟩) 1 cap) 1 (Lib.byteCells (Lib.decDigits u)) := hx2.other (HD.out.alloc _) (.inl (fun e => by have := hne g (by rw [← e]; rfl); omega))
    have hsz2 := hs2.kept.size
    have HD2 := Lib.hid hD2
    clear hD2 hx2
    go_wp2
    rw [rounds_succ]
    go_wp2_with (at_builtin; refine wpList_append_ext _ rfl _ _ 22 22 rfl B 5 i0 (.int .u8 0) 1 Ybad.underlying22 (.inl Ybad.underlying22) hi hz0 hz1 hz2 rfl _ _ _ rfl hs2.own (.slice (some ⟨g, 0, none⟩) 1 cap) rfl 1 (Lib.byteCells (Lib.decDigits u)) (by rw [Lib.byteCells_length, HL.out]) rfl (src_slice _ (by rw [Lib.byteCells_length, HL.out]) (fun j u hj => by rw [Nat.zero_add]; exact HD2.out.cells rfl j u hj)) (bytes_one _) (by unfold maxLen; omega) (by omega) (by omega) ?_)
    intro v3 w3 hx3
    go_wp2
    go_ret
    refine ⟨v3, rfl, ?_⟩
    have := hs2.trans hx3
    rw [HP.out, List.length_cons, HL.out]
    simpa [Lib.byteCells, Nat.add_assoc] using this
  · have hp : pad u = Lib.decDigits u := by unfold pad; rw [if_neg h10]
    have h2 : 2 ≤ (Lib.decDigits u).length := by rw [Lib.decDigits_length, Lib.nDigits_big h10]; have := Lib.nDigits_pos (u / 10); omega
    have HD : Hid (Owns w1 w.heap.size (.slice (some ⟨g, 0, none⟩) (Lib.decDigits u).length cap) (Lib.decDigits u).length (Lib.byteCells (Lib.decDigits u))) := hx.own
    have HP := Lib.hid hp
    clear hx hp
    generalize hL : (Lib.decDigits u).length = L at *
    have HL := Lib.hid hL
    clear hL
    go_wp2
    refine wp_loop_rounds 1 ?_
    rw [rounds_succ]
    go_wp2_with (at_builtin; refine wpList_append_ext _ rfl _ _ 22 22 rfl B 5 i0 (.int .u8 0) 1 Ybad.underlying22 (.inl Ybad.underlying22) hi hz0 hz1 hz2 rfl _ _ _ rfl hs1.own (.slice (some ⟨g, 0, none⟩) L cap) rfl L (Lib.byteCells (Lib.decDigits u)) (by rw [Lib.byteCells_length, HL.out]) rfl (src_slice _ (by rw [Lib.byteCells_length, HL.out]) (fun j u hj => by rw [Nat.zero_add]; exact HD.out.cells rfl j u hj)) (bytes_one _) (by unfold maxLen; omega) (by omega) (by omega) ?_)
    intro v3 w3 hx3
    go_wp2
    go_ret
    refine ⟨v3, rfl, ?_⟩
    rw [HP.out, HL.out]
    exact hs1.trans hx3

theorem gPow : Ybad.prog.globalNamed (Rows.lawS4981ASignRow.named.getD 1 "") = some 3 := by kernel_rfl
theorem tab_below {B : Nat} {w w' : World} (h : Tab w) (hb : Below B w w') (hB : 3 < B) : Tab w' := by
  unfold Tab Lib.TabIs World.var? at *
  rw [gPow] at h ⊢
  simp only [Option.bind_some] at h ⊢
  rw [hb.block 3 hB]
  exact h

theorem shape_z (w : World) : Calls Ybad.prog 13 #[.int .u8 122] w fun e w' => e = .returned (.tuple #[.int .i64 2, .int .i64 2, .int .i64 0]) ∧ w' = w := by
  go_enter Ybad.func13, Ybad.ntmps13
  go_wp2
  go_ret3
  exact ⟨rfl, rfl⟩
theorem shape_M (w : World) : Calls Ybad.prog 13 #[.int .u8 77] w fun e w' => e = .returned (.tuple #[.int .i64 2, .int .i64 2, .int .i64 1]) ∧ w' = w := by
  go_enter Ybad.func13, Ybad.ntmps13
  go_wp2
  go_ret3
  exact ⟨rfl, rfl⟩

set_option maxHeartbeats 3200000 in
set_option maxRecDepth 100000 in
theorem fields_any (B n h m : Nat) (hh : h < 9223372036854775808) (hm : m < 9223372036854775808) (sv : Value) (xs : List Value) (w : World) (hown : Owns w B sv n xs) (hB1 : 5 < B) (hBw : B ≤ w.heap.size) (hlim : n + 100 ≤ 140737488355328) (htab : Tab w)
    (c1 : w.cell? ⟨1, 1, none⟩ = some (.int .u8 58)) (c2 : w.cell? ⟨1, 2, none⟩ = some (.string ⟨#[122, 77]⟩)) :
    Calls Ybad.prog 11 #[sv, .agg #[.int .i64 h, .int .i64 m, .int .i64 0], .pointer (some ⟨1, 0, none⟩)] w fun e w' => ∃ v', e = .returned v' ∧ Ext B w sv n w' v' (n + (pad h ++ 58 :: pad m).length) (xs ++ Lib.byteCells (pad h ++ 58 :: pad m)) := by
  obtain ⟨i0, hi, hz0, hz1, hz2⟩ := info_parts info5
  have hph := pad_le h (by omega)
  have hpm := pad_le m (by omega)
  have k2 : ∀ o, (w.alloc o).cell? ⟨1, 2, none⟩ = some (.string ⟨#[122, 77]⟩) := fun o => (((Below.refl w.heap.size w).alloc (Nat.le_refl _) o).cell (p := ⟨1, 2, none⟩) (by show 1 < w.heap.size; omega)).trans c2
  go_enter Ybad.func11, Ybad.ntmps11
  go_wp2_with fail
  refine wp_loop_rounds 3 ?_
  rw [rounds_succ]
  go_wp2_with fail
  refine (shape_z _).mono ?_
  rintro e w' ⟨rfl, rfl⟩
  go_wp2_with fail
  have hx0 : Ext B w sv n (w.alloc (.cells #[.int .i64 h, .int .i64 m, .int .i64 0] 35)) sv n xs := (Ext.refl hown).alloc _
  have hsb : ∀ k, sv.ownBlock = some k → B ≤ k ∧ k < w.heap.size := fun k hk => hown.lt k hk
  refine (pad_any B n h (by omega) sv xs _ hx0.own (by simp; omega) (by omega) (Lib.tabIs_alloc htab _)).mono ?_
  rintro e w1 ⟨v1, rfl, hx1⟩
  have hX1 := hx0.trans hx1
  have hb1 : Below B w w1 := hX1.toBelow hown hBw
  have f1 : w1.cell? ⟨w.heap.size, 1, none⟩ = some (.int .i64 m) := by
    rw [World.cell?_of_block (hx1.kept.block w.heap.size (by simp) (fun e => by have := hsb _ e.symm; omega))]
    simp
  have g1 : w1.cell? ⟨1, 1, none⟩ = some (.int .u8 58) := (hb1.cell (p := ⟨1, 1, none⟩) (by show 1 < B; omega)).trans c1
  have g2 : w1.cell? ⟨1, 2, none⟩ = some (.string ⟨#[122, 77]⟩) := (hb1.cell (p := ⟨1, 2, none⟩) (by show 1 < B; omega)).trans c2
  have hs1 := hX1.kept.size
  have hs1' : w.heap.size + 1 ≤ w1.heap.size := by have := hx1.kept.size; simpa using this
  have nx1 : v1.ownBlock ≠ some w.heap.size := by
    intro e
    rcases hx1.next with h | h
    · have := hsb _ (h.symm.trans e); omega
    · have := h _ e; simp only [World.size_alloc] at this; omega
  clear hx0 hx1 k2 c1 c2
  go_wp2
  rw [rounds_succ]
  go_wp2_with (at_builtin; refine wpList_append_ext _ rfl _ _ 22 22 rfl B 5 i0 (.int .u8 0) 1 Ybad.underlying22 (.inl Ybad.underlying22) hi hz0 hz1 hz2 rfl _ _ _ rfl (hX1.own.alloc _) (.slice (some ⟨w1.heap.size, 0, none⟩) 1 1) rfl 1 [.int .u8 58] rfl rfl (src_new _ _ _) (one_one _ _) (by unfold maxLen; omega) (by omega) (by simp; omega) ?_)
  intro v2 w2 hx2
  have hX2 := (hX1.alloc _).trans hx2
  have hb2 : Below B w1 w2 := ((Below.refl _ _).alloc (by omega) _).trans (hx2.toBelow (hX1.own.alloc _) (by simp; omega))
  have j2 : w2.cell? ⟨1, 2, none⟩ = some (.string ⟨#[122, 77]⟩) := (hb2.cell (p := ⟨1, 2, none⟩) (by show 1 < B; omega)).trans g2
  have j1 : w2.cell? ⟨w.heap.size, 1, none⟩ = some (.int .i64 m) := by
    refine (World.cell?_of_block (hx2.kept.block w.heap.size (by simp; omega) (fun e => nx1 e.symm))).trans ?_
    exact (World.cell?_of_block (Below.heap_alloc w1 _ w.heap.size (by omega))).trans f1
  have hs2 := hX2.kept.size
  have t2 : Tab w2 := tab_below htab (hb1.trans hb2) (by omega)
  clear hx2 f1 g1 g2
  go_wp2_with fail
  refine (shape_M _).mono ?_
  rintro e w' ⟨rfl, rfl⟩
  go_wp2_with fail
  refine (pad_any B _ m (by omega) v2 _ _ hX2.own (by omega) (by omega) t2).mono ?_
  rintro e w3 ⟨v3, rfl, hx3⟩
  have hX3 := hX2.trans hx3
  go_wp2
  rw [rounds_succ]
  go_wp2
  go_ret
  refine ⟨v3, rfl, ?_⟩
  have := hX3
  simpa [Lib.byteCells, Nat.add_assoc, Nat.add_comm, Nat.add_left_comm] using this
end Go.Proofs.YbulkcydcDoor
