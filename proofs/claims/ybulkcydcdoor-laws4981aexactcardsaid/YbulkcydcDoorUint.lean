/- internal/strconv.AppendUint at base 10 onto an owned row, whatever type's number its block bears. -/
import Derived.Test.YbulkcydcDoorOwn
import Derived.Test.YbulkcydcDoorShelf
import Derived.Lib.Walk
import Derived.Lib.ItoaWalk
import Derived.Lib.ItoaMem
import Derived.Lib.AppendIntMem
import Derived.Lib.Hide
import Derived.BigCall
import Derived.BigGuard
namespace Go.Proofs.YbulkcydcDoor
open Go.RowKit Go.Sort Go.Lib

theorem info5 : (Ybad.prog.info? 5).map (fun i => (i.zero, i.size, i.bytes)) = some (some (.int .u8 0), 1, 1) := by kernel_rfl
abbrev Tab (w : World) : Prop := Lib.TabIs Ybad.prog w (Rows.lawS4981ASignRow.named.getD 1 "") .u64 Lib.pow10Tab

theorem decDigits_le (u : Nat) (hu : u < 18446744073709551616) : 1 ≤ (Lib.decDigits u).length ∧ (Lib.decDigits u).length ≤ 20 := by
  rw [Lib.decDigits_length]
  by_cases h10 : u < 10
  · rw [Lib.nDigits_small h10]; omega
  · have := Lib.numDigits_eq u (by omega) hu
    have h2 := Lib.nDigits_big h10
    split at this <;> omega

set_option maxHeartbeats 1600000 in
set_option maxRecDepth 100000 in
theorem au_small (B n u : Nat) (hu : u < 100) (sv : Value) (xs : List Value) (w : World) (hown : Owns w B sv n xs) (hBw : B ≤ w.heap.size) (hlim : n + 20 ≤ 140737488355328) :
    Calls Ybad.prog 21 #[sv, .int .u64 u, .int .i64 10] w fun e w' => ∃ v', e = .returned v' ∧ Ext B w sv n w' v' (n + (Lib.decDigits u).length) (xs ++ Lib.byteCells (Lib.decDigits u)) := by
  obtain ⟨i0, hi, hz0, hz1, hz2⟩ := info_parts info5
  have hlen := (decDigits_le u (by omega)).2
  have hsz : (⟨(Lib.decDigits u).toArray⟩ : ByteArray).size = (Lib.decDigits u).length := by simp [ByteArray.size]
  go_enter Ybad.func21, Ybad.ntmps21
  go_wp2_with (first
    | (go_at_call 24; refine (Ybad.internal_strconv_small u hu _).mono ?_; rintro e w' ⟨rfl, rfl⟩)
    | (at_builtin; refine wpList_append_ext _ rfl _ _ 22 9 rfl B 5 i0 (.int .u8 0) 1 Ybad.underlying22 (.inr Ybad.underlying9) hi hz0 hz1 hz2 rfl _ _ _ rfl hown (.string ⟨(Lib.decDigits u).toArray⟩) rfl _ _ (Lib.strCells_length _) rfl (src_string _ _) (Lib.strCells_oneCell _) (by rw [hsz]; unfold maxLen; omega) (by rw [hsz]; omega) hBw ?_))
  intro v' w1 hx
  go_wp2
  go_ret
  exact ⟨v', rfl, hx⟩

set_option maxHeartbeats 3200000 in
set_option maxRecDepth 100000 in
theorem au_big (B n u : Nat) (hu : 100 ≤ u) (hu64 : u < 18446744073709551616) (sv : Value) (xs : List Value) (w : World) (hown : Owns w B sv n xs) (hBw : B ≤ w.heap.size) (hlim : n + 20 ≤ 140737488355328) (htab : Tab w) :
    Calls Ybad.prog 21 #[sv, .int .u64 u, .int .i64 10] w fun e w' => ∃ v', e = .returned v' ∧ Ext B w sv n w' v' (n + (Lib.decDigits u).length) (xs ++ Lib.byteCells (Lib.decDigits u)) := by
  obtain ⟨i0, hi, hz0, hz1, hz2⟩ := info_parts info5
  have hu1 : 1 ≤ u := by omega
  have hnd20 : Lib.nDigits u ≤ 20 := by have := Lib.numDigits_eq u hu1 hu64; split at this <;> omega
  have hal : Ybad.prog.arrayLen 58 = 24 := by kernel_rfl
  have hsl : ∀ W, (Instr.sliceAt 58 (.pointer (some ⟨w.heap.size, 0, none⟩)) none (some (.int .i64 (Lib.nDigits u : Int))) none).run Ybad.prog W = .ok (.slice (some ⟨w.heap.size, 0, none⟩) (Lib.nDigits u) 24) W := fun W => by
    rw [run_sliceAt_array_h W 58 ⟨w.heap.size, 0, none⟩ (by kernel_rfl) .i64 (Lib.nDigits u : Int) (by omega) (by rw [hal]; omega)]
    go_simp
  have hH0 := Lib.holds_zero0 w 58 (Lib.nDigits u) (by omega)
  have hfmt := Ybad.internal_strconv_formatBase10 w.heap.size 0 24 u (Array.replicate (Lib.nDigits u) 0) (w.alloc (.cells Lib.zeros24 58)) hH0 (by rw [Array.size_replicate]; exact Lib.lt_pow_nDigits u) hu64 (by rw [Array.size_replicate]; omega)
  rw [Array.size_replicate] at hfmt
  have HH0 := Lib.hid hH0
  have HF := Lib.hid hfmt
  have iu : (100 : Int) ≤ (u : Int) := by omega
  clear hH0 hal hfmt
  go_enter Ybad.func21, Ybad.ntmps21
  go_wp2_with (first
    | (go_at_call 25; refine (Ybad.internal_strconv_numDigits u hu1 hu64 _ (Lib.tabIs_alloc htab _)).mono ?_; rintro e w' ⟨rfl, rfl⟩))
  go_at_call 26
  refine HF.out.mono ?_
  rintro e w' ⟨rfl, k, v', dk, rfl, hF⟩
  have hcells : ∀ (j : Nat) u', (Lib.byteCells (Lib.decDigits u))[j]? = some u' → ((putRow (fun (b : UInt8) => Value.int .u8 (b.toNat : Int)) (w.alloc (.cells Lib.zeros24 58)) w.heap.size 0 dk).drewN k).cell? ⟨w.heap.size, 0 + j, none⟩ = some u' := by
    intro j u' hj
    have hjl : j < (Lib.decDigits u).length := by
      have h5 := (List.getElem?_eq_some_iff.1 hj).1
      rwa [Lib.byteCells_length] at h5
    have e5 : (Lib.byteCells (Lib.decDigits u))[j]? = some (Value.int .u8 ((Lib.decDigits u)[j].toNat : Int)) := by simp [Lib.byteCells, hjl]
    rw [e5] at hj
    cases hj
    rw [Lib.row_is_numeral hF j hjl, World.cell?_drewN]
    exact cell?_putRow (fun (b : UInt8) => Value.int .u8 (b.toNat : Int)) _ w.heap.size 0 _ dk HH0.out (by rw [hF.size, Array.size_replicate]) j (by rw [hF.size]; rw [Lib.decDigits_length] at hjl; exact hjl)
  obtain ⟨os, eo⟩ := Lib.fin_at w (.cells Lib.zeros24 58) dk k 0
  have hnx : Below w.heap.size w ((putRow (fun (b : UInt8) => Value.int .u8 (b.toNat : Int)) (w.alloc (.cells Lib.zeros24 58)) w.heap.size 0 dk).drewN k) := by rw [eo]; exact Lib.below_grow w.heap.size w (Nat.le_refl _) k os
  generalize (putRow (fun (b : UInt8) => Value.int .u8 (b.toNat : Int)) (w.alloc (.cells Lib.zeros24 58)) w.heap.size 0 dk).drewN k = W2 at hcells hnx ⊢
  have hx0 : Ext B w sv n W2 sv n xs := (Ext.refl hown).below hnx
  have HC := Lib.hid hcells
  clear eo HH0 HF hcells
  have hwz := hnx.size
  go_wp2_with (at_builtin; refine wpList_append_ext _ rfl _ _ 22 22 rfl B 5 i0 (.int .u8 0) 1 Ybad.underlying22 (.inl Ybad.underlying22) hi hz0 hz1 hz2 rfl _ _ _ rfl hx0.own (.slice (some ⟨w.heap.size, 0, none⟩) (Lib.nDigits u) 24) rfl (Lib.nDigits u) (Lib.byteCells (Lib.decDigits u)) ?c0 rfl (src_slice _ ?c1 HC.out) ?c2 ?c3 ?c4 ?c5 ?_)
  case c0 => rw [Lib.byteCells_length, Lib.decDigits_length]
  case c1 => rw [Lib.byteCells_length, Lib.decDigits_length]
  case c2 => intro u' hu'; simp only [Lib.byteCells, List.mem_map] at hu'; obtain ⟨b, _, rfl⟩ := hu'; rfl
  case c3 => unfold maxLen; omega
  case c4 => omega
  case c5 => omega
  intro v2 w3 hx
  go_wp2
  go_ret
  refine ⟨v2, rfl, ?_⟩
  rw [Lib.decDigits_length]
  exact hx0.trans hx

theorem au_any (B n u : Nat) (hu64 : u < 18446744073709551616) (sv : Value) (xs : List Value) (w : World) (hown : Owns w B sv n xs) (hBw : B ≤ w.heap.size) (hlim : n + 20 ≤ 140737488355328) (htab : Tab w) :
    Calls Ybad.prog 21 #[sv, .int .u64 u, .int .i64 10] w fun e w' => ∃ v', e = .returned v' ∧ Ext B w sv n w' v' (n + (Lib.decDigits u).length) (xs ++ Lib.byteCells (Lib.decDigits u)) := by
  by_cases h : u < 100
  · exact au_small B n u h sv xs w hown hBw hlim
  · exact au_big B n u (by omega) hu64 sv xs w hown hBw hlim htab

/-- strconv.AppendUint hands on. -/
theorem aup_any (B n u : Nat) (hu64 : u < 18446744073709551616) (sv : Value) (xs : List Value) (w : World) (hown : Owns w B sv n xs) (hBw : B ≤ w.heap.size) (hlim : n + 20 ≤ 140737488355328) (htab : Tab w) :
    Calls Ybad.prog 18 #[sv, .int .u64 u, .int .i64 10] w fun e w' => ∃ v', e = .returned v' ∧ Ext B w sv n w' v' (n + (Lib.decDigits u).length) (xs ++ Lib.byteCells (Lib.decDigits u)) := by
  go_enter Ybad.func18, Ybad.ntmps18
  go_wp2_with (go_at_call 21; refine (au_any B n u hu64 sv xs _ hown hBw hlim htab).mono ?_; rintro e w' ⟨v', rfl, hx⟩)
  go_ret
  exact ⟨v', rfl, hx⟩
end Go.Proofs.YbulkcydcDoor
