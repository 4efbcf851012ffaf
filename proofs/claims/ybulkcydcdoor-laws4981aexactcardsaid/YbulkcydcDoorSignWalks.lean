/- appendZone, zoneString, LawS4981ASign. -/
import Derived.Test.YbulkcydcDoorZone
import Derived.Deep.QuietTactic
import Derived.BigQuiet
namespace Go.Proofs.YbulkcydcDoor
open Go.RowKit Go.Sort Go.Lib

/-- The text of a zone of a minutes, its sign s. -/
def zone (s : UInt8) (a : Nat) : List UInt8 := s :: (pad (a / 60) ++ 58 :: pad (a % 60))
theorem zone_le (s : UInt8) (a : Nat) (ha : a < 9223372036854775808) : (zone s a).length ≤ 44 := by
  have := pad_le (a / 60) (by omega)
  have := pad_le (a % 60) (by omega)
  simp [zone]; omega

set_option maxHeartbeats 3200000 in
set_option maxRecDepth 100000 in
theorem zone_pos (B n a : Nat) (ha : a ≤ 4611686018427387904) (sv : Value) (xs : List Value) (w : World) (hown : Owns w B sv n xs) (hB1 : 5 < B) (hBw : B ≤ w.heap.size) (hlim : n + 200 ≤ 140737488355328) (htab : Tab w)
    (c1 : w.cell? ⟨1, 1, none⟩ = some (.int .u8 58)) (c2 : w.cell? ⟨1, 2, none⟩ = some (.string ⟨#[122, 77]⟩)) :
    Calls Ybad.prog 6 #[sv, .int .i64 (a : Int)] w fun e w' => ∃ v', e = .returned v' ∧ Ext B w sv n w' v' (n + (zone 43 a).length) (xs ++ Lib.byteCells (zone 43 a)) := by
  obtain ⟨i0, hi, hz0, hz1, hz2⟩ := info_parts info5
  have h0 : ¬ ((a : Int) < 0) := by omega
  go_enter Ybad.func6, Ybad.ntmps6
  go_wp2_with (at_builtin; refine wpList_append_ext _ rfl _ _ 22 22 rfl B 5 i0 (.int .u8 0) 1 Ybad.underlying22 (.inl Ybad.underlying22) hi hz0 hz1 hz2 rfl _ _ _ rfl (hown.alloc _) (.slice (some ⟨w.heap.size, 0, none⟩) 1 1) rfl 1 [.int .u8 43] rfl rfl (src_new _ _ _) (one_one _ _) (by unfold maxLen; omega) (by omega) (by simp; omega) ?_)
  intro v1 w1 hx1
  have hX1 := ((Ext.refl hown).alloc _).trans hx1
  have hb1 : Below B w w1 := hX1.toBelow hown hBw
  have hs1 := hX1.kept.size
  have hf := fields_any B (n + 1) (a / 60) (a % 60) (by omega) (by omega) v1 _ w1 hX1.own hB1 (by omega) (by omega) (tab_below htab hb1 (by omega)) ((hb1.cell (p := ⟨1, 1, none⟩) (by show 1 < B; omega)).trans c1) ((hb1.cell (p := ⟨1, 2, none⟩) (by show 1 < B; omega)).trans c2)
  rw [show ((a / 60 : Nat) : Int) = (a : Int) / 60 from by omega, show ((a % 60 : Nat) : Int) = (a : Int) % 60 from by omega] at hf
  have HF := Lib.hid hf
  clear hf c1 c2
  go_wp2_with fail
  refine HF.out.mono ?_
  rintro e w2 ⟨v2, rfl, hx2⟩
  go_wp2
  go_ret
  refine ⟨v2, rfl, ?_⟩
  have := hX1.trans hx2
  simpa [Lib.byteCells, zone, Nat.add_assoc, Nat.add_comm, Nat.add_left_comm] using this

set_option maxHeartbeats 3200000 in
set_option maxRecDepth 100000 in
theorem zone_neg (B n a : Nat) (ha : a ≤ 4611686018427387904) (ha0 : 0 < a) (sv : Value) (xs : List Value) (w : World) (hown : Owns w B sv n xs) (hB1 : 5 < B) (hBw : B ≤ w.heap.size) (hlim : n + 200 ≤ 140737488355328) (htab : Tab w)
    (c1 : w.cell? ⟨1, 1, none⟩ = some (.int .u8 58)) (c2 : w.cell? ⟨1, 2, none⟩ = some (.string ⟨#[122, 77]⟩)) :
    Calls Ybad.prog 6 #[sv, .int .i64 (-(a : Int))] w fun e w' => ∃ v', e = .returned v' ∧ Ext B w sv n w' v' (n + (zone 45 a).length) (xs ++ Lib.byteCells (zone 45 a)) := by
  obtain ⟨i0, hi, hz0, hz1, hz2⟩ := info_parts info5
  have h0 : -(a : Int) < 0 := by omega
  go_enter Ybad.func6, Ybad.ntmps6
  go_wp2_with (at_builtin; refine wpList_append_ext _ rfl _ _ 22 22 rfl B 5 i0 (.int .u8 0) 1 Ybad.underlying22 (.inl Ybad.underlying22) hi hz0 hz1 hz2 rfl _ _ _ rfl (hown.alloc _) (.slice (some ⟨w.heap.size, 0, none⟩) 1 1) rfl 1 [.int .u8 45] rfl rfl (src_new _ _ _) (one_one _ _) (by unfold maxLen; omega) (by omega) (by simp; omega) ?_)
  intro v1 w1 hx1
  have hX1 := ((Ext.refl hown).alloc _).trans hx1
  have hb1 : Below B w w1 := hX1.toBelow hown hBw
  have hs1 := hX1.kept.size
  have hf := fields_any B (n + 1) (a / 60) (a % 60) (by omega) (by omega) v1 _ w1 hX1.own hB1 (by omega) (by omega) (tab_below htab hb1 (by omega)) ((hb1.cell (p := ⟨1, 1, none⟩) (by show 1 < B; omega)).trans c1) ((hb1.cell (p := ⟨1, 2, none⟩) (by show 1 < B; omega)).trans c2)
  rw [show ((a / 60 : Nat) : Int) = (a : Int) / 60 from by omega, show ((a % 60 : Nat) : Int) = (a : Int) % 60 from by omega] at hf
  have HF := Lib.hid hf
  clear hf c1 c2
  go_wp2_with fail
  refine HF.out.mono ?_
  rintro e w2 ⟨v2, rfl, hx2⟩
  go_wp2
  go_ret
  refine ⟨v2, rfl, ?_⟩
  have := hX1.trans hx2
  simpa [Lib.byteCells, zone, Nat.add_assoc, Nat.add_comm, Nat.add_left_comm] using this

/-- What appendZone does at the number x. -/
def ZoneAt (x : Int) (s : UInt8) (a : Nat) : Prop := ∀ (B n : Nat) (sv : Value) (xs : List Value) (w : World), Owns w B sv n xs → 5 < B → B ≤ w.heap.size → n + 200 ≤ 140737488355328 → Tab w →
    w.cell? ⟨1, 1, none⟩ = some (.int .u8 58) → w.cell? ⟨1, 2, none⟩ = some (.string ⟨#[122, 77]⟩) →
    Calls Ybad.prog 6 #[sv, .int .i64 x] w fun e w' => ∃ v', e = .returned v' ∧ Ext B w sv n w' v' (n + (zone s a).length) (xs ++ Lib.byteCells (zone s a))
theorem zoneAt_pos (a : Nat) (ha : a ≤ 4611686018427387904) : ZoneAt (a : Int) 43 a := fun B n sv xs w h1 h2 h3 h4 h5 h6 h7 => zone_pos B n a ha sv xs w h1 h2 h3 h4 h5 h6 h7
theorem zoneAt_neg (a : Nat) (ha : a ≤ 4611686018427387904) (h0 : 0 < a) : ZoneAt (-(a : Int)) 45 a := fun B n sv xs w h1 h2 h3 h4 h5 h6 h7 => zone_neg B n a ha h0 sv xs w h1 h2 h3 h4 h5 h6 h7

set_option maxHeartbeats 3200000 in
set_option maxRecDepth 100000 in
theorem zs_any (x : Int) (s : UInt8) (a : Nat) (hza : ZoneAt x s a) (w : World) (hw : 5 < w.heap.size) (htab : Tab w)
    (c1 : w.cell? ⟨1, 1, none⟩ = some (.int .u8 58)) (c2 : w.cell? ⟨1, 2, none⟩ = some (.string ⟨#[122, 77]⟩)) :
    Calls Ybad.prog 9 #[.int .i64 x] w fun e w' => e = .returned (.string ⟨(zone s a).toArray⟩) ∧ Below w.heap.size w w' := by
  have hb0 : ∀ o, Below w.heap.size w (w.alloc o) := fun o => (Below.refl _ _).alloc (Nat.le_refl _) o
  have hpos : 0 < (zone s a).length := by simp [zone]
  go_enter Ybad.func9, Ybad.ntmps9
  go_wp2_with fail
  refine (hza w.heap.size 0 (.slice (some ⟨w.heap.size, 0, none⟩) 0 6) [] (w.alloc (.cells #[.int .u8 0, .int .u8 0, .int .u8 0, .int .u8 0, .int .u8 0, .int .u8 0] 40)) (Owns.made (T := 40) (heap_alloc_new w _) (Nat.le_refl _) 0 6 (by omega) (by decide) rfl) hw (by simp) (by omega) (Lib.tabIs_alloc htab _) (((hb0 _).cell (p := ⟨1, 1, none⟩) (by show 1 < w.heap.size; omega)).trans c1) (((hb0 _).cell (p := ⟨1, 2, none⟩) (by show 1 < w.heap.size; omega)).trans c2)).mono ?_
  rintro e w1 ⟨v1, rfl, hx⟩
  rw [Nat.zero_add, List.nil_append] at hx
  have hb1 : Below w.heap.size w w1 := (hb0 _).trans (hx.kept.toBelow (by simp) (fun k hk => by simp [Value.ownBlock] at hk; omega))
  obtain ⟨g, cap, rfl, -, -, -⟩ := hx.own.shape hpos
  have hcv := run_convert_bytes_back (P := Ybad.prog) w1 22 9 5 ⟨g, 0, none⟩ cap (zone s a) Ybad.underlying22 Ybad.underlying5 Ybad.underlying9 (fun j hj => by rw [Addr.add_lit, Nat.zero_add]; exact hx.own.cells (g := g) rfl j _ (by simp [Lib.byteCells, hj]))
  clear hx hza c1 c2
  go_wp2
  go_ret
  exact ⟨rfl, hb1⟩

theorem size_mk (l : List UInt8) : (⟨l.toArray⟩ : ByteArray).size = l.length := by simp [ByteArray.size]
theorem zone_len (s : UInt8) (a : Nat) : (zone s a).length = (zone 43 a).length := by simp [zone]
theorem zone_six (a : Nat) (ha : a < 18446744073709551616) : 6 ≤ (zone 43 a).length := by
  have h2 : ∀ u, u < 18446744073709551616 → 2 ≤ (pad u).length := by
    intro u hu
    have := decDigits_le u hu
    unfold pad
    split
    · simp; omega
    · rename_i h; rw [Lib.decDigits_length, Lib.nDigits_big h]; have := Lib.nDigits_pos (u / 10); omega
  have := h2 (a / 60) (by omega)
  have := h2 (a % 60) (by omega)
  simp [zone]; omega

/-- What zoneString does at the number x. -/
def Gives (w : World) (x : Int) (p : ByteArray) : Prop := ∀ w', Below w.heap.size w w' → Calls Ybad.prog 9 #[.int .i64 x] w' fun e w'' => e = .returned (.string p) ∧ Below w.heap.size w w''
theorem gives {x : Int} {s : UInt8} {a : Nat} (hza : ZoneAt x s a) {w : World} (hw : 5 < w.heap.size) (htab : Tab w)
    (c1 : w.cell? ⟨1, 1, none⟩ = some (.int .u8 58)) (c2 : w.cell? ⟨1, 2, none⟩ = some (.string ⟨#[122, 77]⟩)) : Gives w x ⟨(zone s a).toArray⟩ := fun w' hb =>
  (zs_any x s a hza w' (by have := hb.size; omega) (tab_below htab hb (by omega)) ((hb.cell (p := ⟨1, 1, none⟩) (by show 1 < w.heap.size; omega)).trans c1) ((hb.cell (p := ⟨1, 2, none⟩) (by show 1 < w.heap.size; omega)).trans c2)).mono
    fun _ _ ⟨he, h⟩ => ⟨he, hb.trans (h.mono hb.size)⟩

set_option maxHeartbeats 3200000 in
set_option maxRecDepth 100000 in
theorem sign_pos (a : Nat) (h0 : 0 < a) (ha : a ≤ 4611686018427387904) (w : World) (p q : ByteArray) (N : Nat) (hN : 6 ≤ N) (hp : p.size = N) (hq : q.size = N) (he : p.extract 1 N = q.extract 1 N) (p0 : ∀ h : 0 < p.size, p[0]'h = 43) (q0 : ∀ h : 0 < q.size, q[0]'h = 45)
    (gp : Gives w (a : Int) p) (gq : Gives w (-(a : Int)) q) :
    Calls Ybad.prog 4 #[.int .i64 (a : Int)] w fun e w' => e = .returned (.bool true) ∧ Below w.heap.size w w' := by
  have b1 : ¬ ((a : Int) < -4611686018427387904) := by omega
  have b2 : ¬ (4611686018427387904 < (a : Int)) := by omega
  have b3 : (0 : Int) < (a : Int) := by omega
  go_enter Ybad.func4, Ybad.ntmps4
  go_wp2_with fail
  refine (gp w (Below.refl _ _)).mono ?_
  rintro e w1 ⟨rfl, hb1⟩
  go_wp2_with fail
  refine (gq w1 hb1).mono ?_
  rintro e w2 ⟨rfl, hb2⟩
  go_wp2_with fail
  go_quiet (fail)
  go_wp2
  go_ret
  exact ⟨rfl, ⟨hb2.os, hb2.tape, hb2.output, hb2.size, hb2.block⟩⟩
set_option maxHeartbeats 3200000 in
set_option maxRecDepth 100000 in
theorem sign_neg (a : Nat) (h0 : 0 < a) (ha : a ≤ 4611686018427387904) (w : World) (p q : ByteArray) (N : Nat) (hN : 6 ≤ N) (hp : p.size = N) (hq : q.size = N) (he : p.extract 1 N = q.extract 1 N) (p0 : ∀ h : 0 < p.size, p[0]'h = 45) (q0 : ∀ h : 0 < q.size, q[0]'h = 43)
    (gp : Gives w (-(a : Int)) p) (gq : Gives w (a : Int) q) :
    Calls Ybad.prog 4 #[.int .i64 (-(a : Int))] w fun e w' => e = .returned (.bool true) ∧ Below w.heap.size w w' := by
  have b1 : ¬ (-(a : Int) < -4611686018427387904) := by omega
  have b2 : ¬ (4611686018427387904 < -(a : Int)) := by omega
  have b3 : ¬ ((0 : Int) < -(a : Int)) := by omega
  have b4 : -(a : Int) < 0 := by omega
  go_enter Ybad.func4, Ybad.ntmps4
  go_wp2_with fail
  refine (gp w (Below.refl _ _)).mono ?_
  rintro e w1 ⟨rfl, hb1⟩
  go_wp2_with fail
  refine (gq w1 hb1).mono ?_
  rintro e w2 ⟨rfl, hb2⟩
  go_wp2_with fail
  go_quiet (fail)
  go_wp2
  go_ret
  exact ⟨rfl, ⟨hb2.os, hb2.tape, hb2.output, hb2.size, hb2.block⟩⟩
set_option maxHeartbeats 3200000 in
set_option maxRecDepth 100000 in
theorem sign_zero (w : World) (p : ByteArray) (hp : p.size = 6) (pl : (p.toList == [43, 48, 48, 58, 48, 48]) = true) (gp : Gives w 0 p) :
    Calls Ybad.prog 4 #[.int .i64 0] w fun e w' => e = .returned (.bool true) ∧ Below w.heap.size w w' := by
  go_enter Ybad.func4, Ybad.ntmps4
  go_wp2_with fail
  refine (gp w (Below.refl _ _)).mono ?_
  rintro e w1 ⟨rfl, hb1⟩
  go_wp2_with fail
  refine (gp w1 hb1).mono ?_
  rintro e w2 ⟨rfl, hb2⟩
  go_wp2_with fail
  go_quiet (fail)
  go_wp2
  go_ret
  exact ⟨rfl, ⟨hb2.os, hb2.tape, hb2.output, hb2.size, hb2.block⟩⟩
theorem sign_out (x : Int) (h : x < -4611686018427387904 ∨ 4611686018427387904 < x) (w : World) :
    Calls Ybad.prog 4 #[.int .i64 x] w fun e w' => e = .returned (.bool true) ∧ Below w.heap.size w w' := by
  rcases h with h | h
  · go_enter Ybad.func4, Ybad.ntmps4
    go_wp2
    go_ret
    exact ⟨rfl, Below.refl _ _⟩
  · have b1 : ¬ (x < -4611686018427387904) := by omega
    go_enter Ybad.func4, Ybad.ntmps4
    go_wp2
    go_ret
    exact ⟨rfl, Below.refl _ _⟩

theorem extract_tail (s : UInt8) (l : List UInt8) (N : Nat) (h : N = l.length + 1) : (⟨(s :: l).toArray⟩ : ByteArray).extract 1 N = ⟨l.toArray⟩ := by
  subst h
  apply ByteArray.ext
  simp

theorem sign_any (x : Int) (w : World) (hw : 5 < w.heap.size) (htab : Tab w)
    (c1 : w.cell? ⟨1, 1, none⟩ = some (.int .u8 58)) (c2 : w.cell? ⟨1, 2, none⟩ = some (.string ⟨#[122, 77]⟩)) :
    Calls Ybad.prog 4 #[.int .i64 x] w fun e w' => e = .returned (.bool true) ∧ Below w.heap.size w w' := by
  by_cases ho : x < -4611686018427387904 ∨ 4611686018427387904 < x
  · exact sign_out x ho w
  · have len : ∀ s a, (⟨(zone s a).toArray⟩ : ByteArray).size = (zone 43 a).length := fun s a => by rw [size_mk, zone_len]
    have tl : ∀ s a, (⟨(zone s a).toArray⟩ : ByteArray).extract 1 (zone 43 a).length = ⟨(pad (a / 60) ++ 58 :: pad (a % 60)).toArray⟩ := fun s a => extract_tail s _ _ (by simp [zone])
    obtain ⟨a, ha⟩ : ∃ a : Nat, a = x.natAbs := ⟨_, rfl⟩
    have ha4 : a ≤ 4611686018427387904 := by omega
    by_cases h1 : 0 < x
    · obtain rfl : x = (a : Int) := by omega
      exact sign_pos a (by omega) ha4 w ⟨(zone 43 a).toArray⟩ ⟨(zone 45 a).toArray⟩ (zone 43 a).length (zone_six a (by omega)) (len _ _) (len _ _) ((tl _ _).trans (tl _ _).symm) (fun _ => rfl) (fun _ => rfl) (gives (zoneAt_pos a ha4) hw htab c1 c2) (gives (zoneAt_neg a ha4 (by omega)) hw htab c1 c2)
    · by_cases h2 : x < 0
      · obtain rfl : x = -(a : Int) := by omega
        exact sign_neg a (by omega) ha4 w ⟨(zone 45 a).toArray⟩ ⟨(zone 43 a).toArray⟩ (zone 43 a).length (zone_six a (by omega)) (len _ _) (len _ _) ((tl _ _).trans (tl _ _).symm) (fun _ => rfl) (fun _ => rfl) (gives (zoneAt_neg a ha4 (by omega)) hw htab c1 c2) (gives (zoneAt_pos a ha4) hw htab c1 c2)
      · obtain rfl : x = 0 := by omega
        have hz : zone 43 0 = [43, 48, 48, 58, 48, 48] := by decide +kernel
        have g := gives (zoneAt_pos 0 (by omega)) hw htab c1 c2
        rw [hz] at g
        exact sign_zero w _ rfl (by decide +kernel) g
end Go.Proofs.YbulkcydcDoor
