/- zzs4981apad2: the digits written from the back. -/
import Derived.Test.YbulkcydcDoorZone
namespace Go.Proofs.YbulkcydcDoor
open Go.RowKit Go.Sort Go.Lib

theorem dec_big {m : Nat} (h : ¬ m < 10) : Lib.decDigits m = Lib.decDigits (m / 10) ++ [UInt8.ofNat (48 + m % 10)] := by
  rw [Lib.decDigits, dif_neg h]

/-- The array's cells from p on are the bytes t. -/
def TailAt (w : World) (g p : Nat) (t : List UInt8) : Prop := ∃ cur, w.heap[g]? = some (.cells cur 39 (0, 0)) ∧ cur.size = 20 ∧ cur.toList.drop p = Lib.byteCells t

theorem TailAt.cell {w : World} {g p : Nat} {t : List UInt8} (h : TailAt w g p t) (q : Nat) (hq : q < 20) : (∃ v, w.cell? ⟨g, q, none⟩ = some v) ∧ w.frozen? ⟨g, q, none⟩ = false := by
  obtain ⟨cur, h1, h2, h3⟩ := h
  exact ⟨⟨cur[q]'(by omega), by rw [cell_of_row w g q cur 39 (0, 0) h1]; simp [h2, hq]⟩, by simp [World.frozen?, h1]⟩

theorem TailAt.set {w : World} {g p : Nat} {t : List UInt8} (h : TailAt w g (p + 1) t) (hp : p < 20) (b : UInt8) : TailAt (w.setCell ⟨g, p, none⟩ (.int .u8 (b.toNat : Int))) g p (b :: t) := by
  obtain ⟨cur, h1, h2, h3⟩ := h
  refine ⟨cur.setIfInBounds p (.int .u8 (b.toNat : Int)), ?_, by simp [h2], ?_⟩
  · exact heap_setCell_same w g p cur 39 _ h1
  · rw [Array.toList_setIfInBounds, List.drop_set]
    simp only [Nat.lt_irrefl, if_false, Nat.sub_self]
    rw [List.drop_eq_getElem_cons (by simp; omega), h3]
    simp [Lib.byteCells]

theorem TailAt.cells {w : World} {g p : Nat} {t : List UInt8} (h : TailAt w g p t) : ∀ (j : Nat) u, (Lib.byteCells t)[j]? = some u → w.cell? ⟨g, p + j, none⟩ = some u := by
  obtain ⟨cur, h1, h2, h3⟩ := h
  intro j u hj
  rw [cell_of_row w g (p + j) cur 39 (0, 0) h1]
  rw [← h3, List.getElem?_drop] at hj
  simpa using hj
theorem TailAt.block {w w' : World} {g p : Nat} {t : List UInt8} (h : TailAt w g p t) (hb : w'.heap[g]? = w.heap[g]?) : TailAt w' g p t := by
  obtain ⟨cur, h1, h2, h3⟩ := h
  exact ⟨cur, hb.trans h1, h2, h3⟩
theorem src_new' {P : Program} (w : World) (g : Nat) (hg : w.heap.size = g) (x : Value) (t : TypeId) : ∀ wd : World, wd.heap = (w.alloc (.cells #[x] t)).heap → (Builtin.firstCells 1 1 (.slice (some ⟨g, 0, none⟩) 1 1)).run P wd = .ok [x].toArray wd := by
  subst hg
  exact src_new w x t

theorem al39 : Ybad.prog.arrayLen 39 = 20 := by kernel_rfl
theorem sl39 (g p : Nat) (hp : p < 20) (W : World) : (Instr.sliceAt 39 (.pointer (some ⟨g, 0, none⟩)) (some (.int .i64 (p : Int))) none none).run Ybad.prog W = .ok (.slice (some ⟨g, p, none⟩) (20 - p) (20 - p)) W := by
  have hne : ¬ (20 = p) := by omega
  rw [run_sliceAt_array_l W 39 ⟨g, 0, none⟩ (by kernel_rfl) .i64 (p : Int) (by omega) (by rw [al39]; omega)]
  simp [slicedAt, hne, go_sem, Addr.add_lit]

set_option maxHeartbeats 3200000 in
set_option maxRecDepth 100000 in
theorem pad2_any (B n u : Nat) (hu64 : u < 18446744073709551616) (sv : Value) (xs : List Value) (w : World) (hown : Owns w B sv n xs) (hBw : B ≤ w.heap.size) (hlim : n + 40 ≤ 140737488355328) :
    Calls Ybad.prog 7 #[sv, .int .u64 u] w fun e w' => ∃ v', e = .returned v' ∧ Ext B w sv n w' v' (n + (pad u).length) (xs ++ Lib.byteCells (pad u)) := by
  obtain ⟨i0, hi, hz0, hz1, hz2⟩ := info_parts info5
  have hd := decDigits_le u hu64
  go_enter Ybad.func7, Ybad.ntmps7
  go_wp2
  go_loopw [1, 6] (fun nv iv wr => ∃ (m j : Nat) (t : List UInt8), nv = .int .u64 (m : Int) ∧ iv = .int .i64 (j : Int) ∧ m < 18446744073709551616 ∧ j ≤ 20 ∧ Lib.decDigits u = Lib.decDigits m ++ t ∧ t.length + j = 20 ∧ Below w.heap.size w wr ∧ TailAt wr w.heap.size j t)
    (fun _ iv _ => (RowKit.intOf iv).toNat)
  case atStart => exact ⟨u, 20, [], rfl, rfl, hu64, by omega, by simp, rfl, (Below.refl _ _).alloc (Nat.le_refl _) _, ⟨_, heap_alloc_new w _, rfl, rfl⟩⟩
  case round =>
    obtain ⟨m, j, t, rfl, rfl, hm, hj, hdec, hlen, hb, htail⟩ := hrel
    have hml := decDigits_le m hm
    have htl : t.length ≤ 19 := by have := congrArg List.length hdec; rw [List.length_append] at this; omega
    obtain ⟨p, rfl⟩ : ∃ p, j = p + 1 := ⟨j - 1, by omega⟩
    have hp : p < 20 := by omega
    obtain ⟨⟨v0, hc⟩, hfz⟩ := htail.cell p hp
    have HT := Lib.hid htail
    have HD := Lib.hid hdec
    have HB := Lib.hid hb
    have HL := Lib.hid hlen
    clear htail hdec hb hlen
    obtain ⟨b, hbv⟩ : ∃ b : UInt8, b = UInt8.ofNat (48 + m % 10) := ⟨_, rfl⟩
    have hbn : (b.toNat : Int) = 48 + (m : Int) % 10 := by rw [hbv]; simp; omega
    obtain ⟨W1, hW1⟩ : ∃ W1, W1 = wr.setCell ⟨w.heap.size, p, none⟩ (.int .u8 (48 + (m : Int) % 10)) := ⟨_, rfl⟩
    have hT1 : TailAt W1 w.heap.size p (b :: t) := by rw [hW1, ← hbn]; exact HT.out.set hp b
    have hB1 : Below w.heap.size w W1 := by rw [hW1]; exact HB.out.setCell (Nat.le_refl _) _
    have HT1 := Lib.hid hT1
    have HB1 := Lib.hid hB1
    have HBV := Lib.hid hbv
    have HW := Lib.hid hW1
    have hsz1 := hB1.size
    clear hT1 hB1 hbv hbn hW1
    by_cases h10 : m < 10
    · have hz : ((m : Int) / 10 == 0) = true := by simp; omega
      have hdu : Lib.decDigits u = b :: t := by
        have : b = UInt8.ofNat (48 + m) := by rw [HBV.out, Nat.mod_eq_of_lt h10]
        rw [HD.out, Lib.decDigits_one h10, this]; rfl
      have hx1 : Ext B w sv n W1 sv n xs := (Ext.refl hown).below HB1.out
      have hne : ∀ k, sv.ownBlock = some k → k < w.heap.size := fun k hk => (hown.lt k hk).2
      have HDU := Lib.hid hdu
      have htl2 : t.length + 1 = 20 - p := by have := HL.out; omega
      have HTL := Lib.hid htl2
      clear hdu htl2
      by_cases h19 : p = 19
      · subst h19
        have hp2 : pad u = 48 :: [b] := by
          have h0 : t = [] := List.eq_nil_of_length_eq_zero (by have := HL.out; omega)
          have hu10 : u < 10 := by
            rcases Nat.lt_or_ge u 10 with h | h
            · exact h
            · have := congrArg List.length HDU.out
              rw [h0, Lib.decDigits_length, Lib.nDigits_big (by omega)] at this
              have h3 := Lib.nDigits_pos (u / 10)
              simp at this; omega
          unfold pad
          rw [if_pos hu10, HDU.out, h0]
        have HP := Lib.hid hp2
        have hX1 : Ext B w sv n (wr.setCell ⟨w.heap.size, 19, none⟩ (.int .u8 (48 + (m : Int) % 10))) sv n xs := by rw [← HW.out]; exact hx1
        have hs1 : (wr.setCell ⟨w.heap.size, 19, none⟩ (.int .u8 (48 + (m : Int) % 10))).heap.size = wr.heap.size := by simp
        have hTx : TailAt (wr.setCell ⟨w.heap.size, 19, none⟩ (.int .u8 (48 + (m : Int) % 10))) w.heap.size 19 (b :: t) := by rw [← HW.out]; exact HT1.out
        have HTX := Lib.hid hTx
        have hsz : w.heap.size ≤ wr.heap.size := HB.out.size
        have hlw : w.heap.size < wr.heap.size := World.block_lt_of_cell? _ _ hc
        clear hp2 hx1 HT HT1 hTx
        go_wp2_with (at_builtin; refine wpList_append_ext _ rfl (.tmp 22) (.tmp 23) 22 22 rfl B 5 i0 (.int .u8 0) 1 Ybad.underlying22 (.inl Ybad.underlying22) hi hz0 hz1 hz2 rfl _ _ _ rfl (hX1.own.alloc _) (.slice (some ⟨wr.heap.size, 0, none⟩) 1 1) rfl 1 [.int .u8 48] rfl rfl (src_new' _ _ hs1 _ _) (one_one _ _) (by unfold maxLen; omega) (by omega) (by simp; omega) ?_)
        intro v2 w2 hx2
        have hX2 := (hX1.alloc _).trans hx2
        have hT2 : TailAt w2 w.heap.size 19 (b :: t) := (HTX.out.block (Below.heap_alloc _ _ _ (by rw [hs1]; exact hlw))).block (hx2.kept.block w.heap.size (by simp; omega) (fun e => by have := hne _ e.symm; omega))
        have HT2 := Lib.hid hT2
        have hs2 := hX2.kept.size
        have h0 : t.length = 0 := by have := HTL.out; omega
        clear hT2 hx2 hX1
        go_wp2_with (at_builtin; refine wpList_append_ext _ rfl (.tmp 25) (.tmp 27) 22 22 rfl B 5 i0 (.int .u8 0) 1 Ybad.underlying22 (.inl Ybad.underlying22) hi hz0 hz1 hz2 rfl _ _ _ rfl hX2.own (.slice (some ⟨w.heap.size, 19, none⟩) 1 1) rfl 1 (Lib.byteCells (b :: t)) (by rw [Lib.byteCells_length, List.length_cons, h0]) rfl (src_slice _ (by rw [Lib.byteCells_length, List.length_cons, h0]) HT2.out.cells) (bytes_one _) (by unfold maxLen; omega) (by omega) (by omega) ?_)
        intro v3 w3 hx3
        go_wp2
        go_ret
        refine ⟨v3, rfl, ?_⟩
        have h := hX2.trans hx3
        obtain rfl := List.eq_nil_of_length_eq_zero h0
        rw [HP.out]
        simpa [Lib.byteCells, Nat.add_assoc] using h
      · have hlt : ¬ ((20 : Int) - (p : Int) < 2) := by omega
        have hp2 : pad u = b :: t := by
          have hu10 : ¬ u < 10 := by
            intro h
            have := congrArg List.length HDU.out
            rw [Lib.decDigits_length, Lib.nDigits_small h, List.length_cons] at this
            have := HTL.out
            omega
          unfold pad
          rw [if_neg hu10, HDU.out]
        have HP := Lib.hid hp2
        have hX1 : Ext B w sv n (wr.setCell ⟨w.heap.size, p, none⟩ (.int .u8 (48 + (m : Int) % 10))) sv n xs := by rw [← HW.out]; exact hx1
        have hs1 : (wr.setCell ⟨w.heap.size, p, none⟩ (.int .u8 (48 + (m : Int) % 10))).heap.size = wr.heap.size := by simp
        have hTx : TailAt (wr.setCell ⟨w.heap.size, p, none⟩ (.int .u8 (48 + (m : Int) % 10))) w.heap.size p (b :: t) := by rw [← HW.out]; exact HT1.out
        have HTX := Lib.hid hTx
        have hsz : w.heap.size ≤ wr.heap.size := HB.out.size
        have hsl := fun W => sl39 w.heap.size p hp W
        clear hp2 hx1 HT HT1 hTx
        go_wp2_with (at_builtin; refine wpList_append_ext _ rfl (.tmp 25) (.tmp 27) 22 22 rfl B 5 i0 (.int .u8 0) 1 Ybad.underlying22 (.inl Ybad.underlying22) hi hz0 hz1 hz2 rfl _ _ _ rfl hX1.own (.slice (some ⟨w.heap.size, p, none⟩) (20 - p) (20 - p)) rfl (20 - p) (Lib.byteCells (b :: t)) (by rw [Lib.byteCells_length, List.length_cons, HTL.out]) rfl (src_slice _ (by rw [Lib.byteCells_length, List.length_cons, HTL.out]) HTX.out.cells) (bytes_one _) (by unfold maxLen; omega) (by omega) (by simp; omega) ?_)
        intro v3 w3 hx3
        go_wp2
        go_ret
        refine ⟨v3, rfl, ?_⟩
        have h := hX1.trans hx3
        rw [HP.out, List.length_cons, HTL.out]
        exact h
    · have hz : ((m : Int) / 10 == 0) = false := by simp; omega
      go_wp2_with fail
      go_roundw
      case rel => 
        rw [← HW.out]
        exact ⟨m / 10, p, b :: t, by go_num, rfl, by omega, by omega, by rw [HD.out, dec_big h10, HBV.out]; simp, by have := HL.out; simp; omega, HB1.out, HT1.out⟩
      case measure => simp [RowKit.intOf]
end Go.Proofs.YbulkcydcDoor
