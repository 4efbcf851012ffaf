/- LawS4985BHex: the walk. -/
import Derived.Test.YbulkcyfgSplitWalk
import Derived.Laws.CopyOwn
namespace Go.Proofs.Ybulkcyfg
open Go.RowKit Go.Lib
set_option linter.unusedVariables false

theorem digit_any (q : Nat) (hq : q < 16) (x : Int) (hx : x = (q : Int)) (w : World) : Calls Yba.prog 6 #[.int .u8 x] w fun e w' => e = .returned (.int .u8 ((hexd q).toNat : Int)) ∧ w' = w := by
  subst hx
  have h16 : q = 0 ∨ q = 1 ∨ q = 2 ∨ q = 3 ∨ q = 4 ∨ q = 5 ∨ q = 6 ∨ q = 7 ∨ q = 8 ∨ q = 9 ∨ q = 10 ∨ q = 11 ∨ q = 12 ∨ q = 13 ∨ q = 14 ∨ q = 15 := by omega
  rcases h16 with rfl | rfl | rfl | rfl | rfl | rfl | rfl | rfl | rfl | rfl | rfl | rfl | rfl | rfl | rfl | rfl
  all_goals
    go_enter Yba.func6, Yba.ntmps6
    go_wp2
    go_ret
    exact ⟨rfl, rfl⟩

theorem hex_out (a0 : Option Addr) (len0 cap0 : Nat) (a1 : Option Addr) (len1 cap1 : Nat) (h : 4096 < len0 ∨ 4096 < len1) (w : World) :
    Calls Yba.prog 3 #[.slice a0 len0 cap0, .slice a1 len1 cap1] w fun e w' => e = .returned (.bool true) ∧ Below w.heap.size w w' := by
  by_cases h1 : 4096 < len0
  · have b1 : (4096 : Int) < (len0 : Int) := by omega
    go_enter Yba.func3, Yba.ntmps3
    go_wp2
    go_ret
    exact ⟨rfl, Below.refl _ _⟩
  · have b1 : ¬ ((4096 : Int) < (len0 : Int)) := by omega
    have b2 : (4096 : Int) < (len1 : Int) := by omega
    go_enter Yba.func3, Yba.ntmps3
    go_wp2
    go_ret
    exact ⟨rfl, Below.refl _ _⟩

theorem bytes_one (l : List UInt8) : ∀ u ∈ Lib.byteCells l, u.oneCell' = true := by
  intro u' hu'; simp only [Lib.byteCells, List.mem_map] at hu'; obtain ⟨b, _, rfl⟩ := hu'; rfl
theorem ArgIn.cells {B : Nat} {w : World} {a0 : Option Addr} {bs : List UInt8} (h : ArgIn B w a0 bs) (h0 : 0 < bs.length) : ∃ ad : Addr, a0 = some ad ∧ ∀ (j : Nat) v, (Lib.byteCells bs)[j]? = some v → w.cell? (ad.add j) = some v := by
  obtain ⟨b, o, e, hlt, hc⟩ := h h0
  refine ⟨⟨b, o, none⟩, e, fun j v hj => ?_⟩
  have hjl : j < bs.length := by
    have h5 := (List.getElem?_eq_some_iff.1 hj).1
    rwa [Lib.byteCells_length] at h5
  have e5 : (Lib.byteCells bs)[j]? = some (Value.int .u8 (bs[j].toNat : Int)) := by simp [Lib.byteCells, hjl]
  rw [e5] at hj
  cases hj
  rw [Addr.add_lit]
  exact hc j hjl
theorem below_of_grown {w w' : World} (h : w.grownBy w' none) : Below w.heap.size w w' := ⟨h.os, h.tape, h.output, h.size, fun k hk => h.block k hk (by simp)⟩

theorem hexAll_at (bs : List UInt8) (j : Nat) (hj : j < bs.length) (h1 : 2 * j < (hexAll bs).length) (h2 : 2 * j + 1 < (hexAll bs).length) : (hexAll bs)[2 * j] = hexd (bs[j].toNat / 16) ∧ (hexAll bs)[2 * j + 1] = hexd (bs[j].toNat % 16) := by
  have e : hexAll bs = hexAll (bs.take j) ++ ([hexd (bs[j].toNat / 16), hexd (bs[j].toNat % 16)] ++ hexAll (bs.drop (j + 1))) := by
    have : bs = bs.take j ++ ([bs[j]] ++ bs.drop (j + 1)) := by simp
    conv => lhs; rw [this]
    rw [hexAll_append, hexAll_append]
    rfl
  have hl : (hexAll (bs.take j)).length = 2 * j := by rw [hexAll_length, List.length_take]; omega
  constructor
  · apply Option.some.inj
    rw [← List.getElem?_eq_getElem h1, e, List.getElem?_append_right (by omega), hl]
    simp
  · apply Option.some.inj
    rw [← List.getElem?_eq_getElem h2, e, List.getElem?_append_right (by omega), hl]
    simp

set_option maxHeartbeats 3200000 in
set_option maxRecDepth 100000 in
theorem hex_in (a0 : Option Addr) (len0 cap0 : Nat) (bs0 : List UInt8) (a1 : Option Addr) (len1 cap1 N : Nat) (bs1 : List UInt8) (hl0 : bs0.length = len0) (hl1 : bs1.length = len1) (h0 : len0 ≤ 4096) (h1 : len1 ≤ 4096) (hN : len0 + 2 * len1 = N) (hpos : 0 < N)
    (w : World) (hA0 : ArgIn w.heap.size w a0 bs0) (hA1 : ArgIn w.heap.size w a1 bs1) :
    Calls Yba.prog 3 #[.slice a0 len0 cap0, .slice a1 len1 cap1] w fun e w' => e = .returned (.bool true) ∧ Below w.heap.size w w' := by
  obtain ⟨i0, hi, hz0, hz1, hz2⟩ := info_parts info5
  have b1 : ¬ ((4096 : Int) < (len0 : Int)) := by omega
  have b2 : ¬ ((4096 : Int) < (len1 : Int)) := by omega
  have hne : ((N : Int) != (len0 : Int) + 2 * (len1 : Int)) = false := by simp; omega
  have hNs : N ≤ 20000 := by omega
  have HL0 := Lib.hid hl0
  have HL1 := Lib.hid hl1
  have HN := Lib.hid hN
  clear hl0 hl1 hN
  go_enter Yba.func3, Yba.ntmps3
  go_wp2_with (at_make; refine wpList_make_full _ rfl _ _ 22 rfl w.heap.size 5 i0 (.int .u8 0) 1 Yba.underlying22 hi hz0 hz1 _ _ _ _ len0 rfl rfl rfl rfl (by rw [hz2]; omega) (by unfold maxLen; omega) (Nat.le_refl _) ?_)
  intro w1 ho1 hg1
  obtain ⟨g, cp, cur, hv1, -, hcur, -, -, hcs, -⟩ : ∃ g cap cur, Value.slice (some ⟨w.heap.size, 0, none⟩) len0 len0 = .slice (some ⟨g, 0, none⟩) len0 cap ∧ w.heap.size ≤ g ∧ w1.heap[g]? = some (.cells cur 5 (0, 0)) ∧ len0 ≤ cap ∧ cap ≤ maxLen ∧ cur.size = cap * 1 ∧ _ := by
    rcases ho1.2 with ⟨h, _⟩ | h
    · cases h
    · exact h
  cases hv1
  have hb1 := below_of_grown hg1
  have hA01 := hA0.below hb1
  have hcl : cur.toList.length = len0 := by simpa using hcs
  have HC := Lib.hid hcur
  have HCL := Lib.hid hcl
  have HA1 := Lib.hid hA01
  clear ho1 hg1 hcur hcs hcl hA01
  go_wp2_with (refine wpList_copy_splice rfl (.tmp 21) (.tmp 22) 22 22 rfl 5 Yba.underlying22 (by kernel_rfl) _ _ _ _ _ _ rfl rfl w.heap.size 0 cur.toList 5 (by simpa using HC.out) (Lib.byteCells bs0) (by rw [Lib.byteCells_length, HL0.out]; simp) (fun h0 => ⟨rfl, HA1.out.cells (by rwa [Lib.byteCells_length] at h0)⟩) (by rw [Lib.byteCells_length, HL0.out, HCL.out]; omega) (bytes_one _) w.heap.size w hb1 (Nat.le_refl _) ?_)
  intro w2 HG2 hb2
  have hin : Owns w2 w.heap.size (.slice (some ⟨w.heap.size, 0, none⟩) len0 len0) len0 (Lib.byteCells bs0) := by
    have e : splice cur.toList 0 (Lib.byteCells bs0) = Lib.byteCells bs0 := by
      have : cur.toList.length ≤ (Lib.byteCells bs0).length := by rw [Lib.byteCells_length, HL0.out, HCL.out]; omega
      simp only [splice, List.take_zero, List.nil_append, Nat.zero_add, List.drop_of_length_le this, List.append_nil]
    have h := HG2.out
    rw [e] at h
    have := Owns.made (B := w.heap.size) h (Nat.le_refl _) len0 len0 (Nat.le_refl _) (by unfold maxLen; omega) (by rw [List.size_toArray, Lib.byteCells_length, HL0.out])
    rwa [List.take_of_length_le (by rw [Lib.byteCells_length, HL0.out]; omega)] at this
  have hs2 := hb2.size
  go_wp2_with fail
  refine (hex_at w.heap.size len0 N _ _ a1 len1 cap1 bs1 w2 hin hs2 (hA1.below hb2) HL1.out h1 (by omega) HN.out).mono ?_
  rintro e w3 ⟨v3, rfl, hx3⟩
  have hb3 : Below w.heap.size w w3 := hb2.trans (hx3.toBelow hin hs2)
  have hin3 : Owns w3 w.heap.size (.slice (some ⟨w.heap.size, 0, none⟩) len0 len0) len0 (Lib.byteCells bs0) := hx3.other hin (.inr (Nat.le_refl _))
  have hout := hx3.own
  obtain ⟨g3, c3, rfl, -, -, -⟩ := hout.shape hpos
  have HIN := Lib.hid hin3
  have HOUT := Lib.hid hout
  have HB3 := Lib.hid hb3
  clear hx3 hin hin3 hout HG2 HC HCL HA1 hb1 hb2 hb3
  go_wp2_with fail
  go_loopw [7] (fun iv wr => ∃ k : Nat, k ≤ len0 ∧ iv = .int .i64 (k : Int) ∧ wr.heap = w3.heap ∧ wr.os = w3.os ∧ wr.tape = w3.tape ∧ wr.output = w3.output) (fun iv _ => len0 - (intOf iv).toNat)
  case atStart => exact ⟨0, Nat.zero_le _, rfl, rfl, rfl, rfl, rfl⟩
  case round =>
    obtain ⟨k, hk, rfl, r1, r2, r3, r4⟩ := hrel
    have R1 := Lib.hid r1
    have R2 := Lib.hid r2
    have R3 := Lib.hid r3
    have R4 := Lib.hid r4
    clear r1 r2 r3 r4
    by_cases hlt : k < len0
    · have hki : (k : Int) < (len0 : Int) := by omega
      have hkN : (k : Int) < (N : Int) := by have := HN.out; omega
      have hkl : k < bs0.length := by rw [HL0.out]; exact hlt
      obtain ⟨c, hc⟩ : ∃ c : UInt8, c = bs0[k] := ⟨_, rfl⟩
      obtain ⟨b, o, rfl, hbB, hcell⟩ := hA0 (by omega)
      have hc0 : wr.cell? ⟨b, o + k, none⟩ = some (.int .u8 (c.toNat : Int)) := by
        rw [hc, ← hcell k hkl, ← HB3.out.cell (p := ⟨b, o + k, none⟩) hbB]
        simp [World.cell?, R1.out]
      have hc1 : wr.cell? ⟨g3, k, none⟩ = some (.int .u8 (c.toNat : Int)) := (HOUT.out.of_heap R1.out).cells rfl k _ (by rw [List.getElem?_append_left (by rw [Lib.byteCells_length]; exact hkl)]; simp [Lib.byteCells, hkl, hc])
      have hc2 : wr.cell? ⟨w.heap.size, k, none⟩ = some (.int .u8 (c.toNat : Int)) := (HIN.out.of_heap R1.out).cells rfl k _ (by simp [Lib.byteCells, hkl, hc])
      clear hc hcell hA0 hA1
      go_wp2_with fail
      go_quiet (fail)
      go_wp2
      go_roundw
      case rel => exact ⟨k + 1, by omega, by go_num, R1.out, R2.out, R3.out, R4.out⟩
      case measure => simp [intOf]; omega
    · go_wp2_with fail
      go_loopw [8] (fun iv wx => ∃ j : Nat, j ≤ len1 ∧ iv = .int .i64 (j : Int) ∧ wx.heap = w3.heap ∧ wx.os = w3.os ∧ wx.tape = w3.tape ∧ wx.output = w3.output) (fun iv _ => len1 - (intOf iv).toNat)
      case atStart => exact ⟨0, Nat.zero_le _, rfl, R1.out, R2.out, R3.out, R4.out⟩
      case round =>
        obtain ⟨j, hj, rfl, r1, r2, r3, r4⟩ := hrel
        have S1 := Lib.hid r1
        have S2 := Lib.hid r2
        have S3 := Lib.hid r3
        have S4 := Lib.hid r4
        clear r1 r2 r3 r4 R1 R2 R3 R4
        by_cases hlt1 : j < len1
        · have hki : (j : Int) < (len1 : Int) := by omega
          obtain ⟨q, hq⟩ : ∃ q : Nat, (len0 : Int) + 2 * (j : Int) = (q : Int) := ⟨len0 + 2 * j, by omega⟩
          have hq1 : (q : Int) < (N : Int) := by have := HN.out; omega
          obtain ⟨r, hr⟩ : ∃ r : Nat, (q : Int) + 1 = (r : Int) := ⟨q + 1, by omega⟩
          have hq2 : (r : Int) < (N : Int) := by have := HN.out; omega
          have hjl : j < bs1.length := by rw [HL1.out]; exact hlt1
          obtain ⟨c, hc⟩ : ∃ c : UInt8, c = bs1[j] := ⟨_, rfl⟩
          have hcl : c.toNat < 256 := c.toNat_lt
          obtain ⟨b, o, rfl, hbB, hcell⟩ := hA1 (by omega)
          have hc0 : wr.cell? ⟨b, o + j, none⟩ = some (.int .u8 (c.toNat : Int)) := by
            rw [hc, ← hcell j hjl, ← HB3.out.cell (p := ⟨b, o + j, none⟩) hbB]
            simp [World.cell?, S1.out]
          have hall : ∀ (t : Nat) (ht : t < (hexAll bs1).length), wr.cell? ⟨g3, len0 + t, none⟩ = some (.int .u8 ((hexAll bs1)[t].toNat : Int)) := fun t ht =>
            (HOUT.out.of_heap S1.out).cells rfl (len0 + t) _ (by rw [List.getElem?_append_right (by rw [Lib.byteCells_length, HL0.out]; omega), Lib.byteCells_length, HL0.out, Nat.add_sub_cancel_left]; simp [Lib.byteCells, ht])
          have hhl : 2 * j + 1 < (hexAll bs1).length := by rw [hexAll_length]; omega
          have hqn : q = len0 + 2 * j := by omega
          have hrn : r = q + 1 := by omega
          have hc1 : wr.cell? ⟨g3, q, none⟩ = some (.int .u8 ((hexd (c.toNat / 16)).toNat : Int)) := by
            rw [hqn, hall (2 * j) (by omega), (hexAll_at bs1 j hjl (by omega) hhl).1, hc]
          have hc2 : wr.cell? ⟨g3, r, none⟩ = some (.int .u8 ((hexd (c.toNat % 16)).toNat : Int)) := by
            rw [hrn, hqn, Nat.add_assoc, hall (2 * j + 1) hhl, (hexAll_at bs1 j hjl (by omega) hhl).2, hc]
          clear hcell hA0 hA1 hall hqn hrn hc hhl
          go_wp2_with fail
          go_quiet ((go_at_call 6; exact Calls.quiet_of_same (digit_any (c.toNat / 16) (by omega) ((c.toNat : Int) / 16) (by omega) _)))
          go_wp2_with fail
          go_quiet ((go_at_call 6; exact (digit_any (c.toNat % 16) (by omega) ((c.toNat : Int) % 16) (by omega) _).mono fun _ _ h => ⟨h.1, _, h.2⟩))
          go_wp2
          go_roundw
          case rel => exact ⟨j + 1, by omega, by go_num, S1.out, S2.out, S3.out, S4.out⟩
          case measure => simp [intOf]; omega
        · go_wp2
          go_ret
          exact ⟨rfl, below_of_heap HB3.out S1.out S2.out S3.out S4.out⟩

set_option maxHeartbeats 3200000 in
set_option maxRecDepth 100000 in
theorem hex_zero (a0 : Option Addr) (cap0 : Nat) (a1 : Option Addr) (cap1 : Nat) (w : World) :
    Calls Yba.prog 3 #[.slice a0 0 cap0, .slice a1 0 cap1] w fun e w' => e = .returned (.bool true) ∧ Below w.heap.size w w' := by
  obtain ⟨i0, hi, hz0, hz1, hz2⟩ := info_parts info5
  have hmk : ∀ W : World, (Instr.makeSlice 22 (.int .i64 0) (.int .i64 0)).run Yba.prog W = .ok (.slice (some ⟨W.heap.size, 0, none⟩) 0 0) (W.alloc (.cells #[] 5)) := fun _ => by kernel_rfl
  go_enter Yba.func3, Yba.ntmps3
  go_wp2_with (refine wpList_copy_splice rfl (.tmp 21) (.tmp 22) 22 22 rfl 5 Yba.underlying22 (by kernel_rfl) _ _ _ _ _ _ rfl rfl w.heap.size 0 [] 5 (heap_alloc_new w _) [] rfl (fun h0 => by simp at h0) (by simp) (by simp) w.heap.size w ((Below.refl _ _).alloc (Nat.le_refl _) _) (Nat.le_refl _) ?_)
  intro w2 HG2 hb2
  have hin : Owns w2 w.heap.size (.slice (some ⟨w.heap.size, 0, none⟩) 0 0) 0 [] := by
    have := Owns.made (B := w.heap.size) HG2.out (Nat.le_refl _) 0 0 (Nat.le_refl _) (by decide) rfl
    simpa using this
  have hs2 := hb2.size
  go_wp2_with fail
  refine (hex_at w.heap.size 0 0 _ _ a1 0 cap1 [] w2 hin hs2 (ArgIn.nil _ _ _) rfl (by omega) (by omega) rfl).mono ?_
  rintro e w3 ⟨v3, rfl, hx3⟩
  have hb3 : Below w.heap.size w w3 := hb2.trans (hx3.toBelow hin hs2)
  obtain ⟨p3, c3, rfl, -⟩ := hx3.own.form
  clear hx3 hin HG2
  go_wp2_with fail
  refine wp_loop_rounds 1 ?_
  rw [rounds_succ]
  go_wp2_with fail
  refine wp_loop_rounds 1 ?_
  rw [rounds_succ]
  go_wp2
  go_ret
  exact ⟨rfl, hb3⟩

theorem hexlaw_any (a0 : Option Addr) (len0 cap0 : Nat) (bs0 : List UInt8) (a1 : Option Addr) (len1 cap1 : Nat) (bs1 : List UInt8) (hl0 : bs0.length = len0) (hl1 : bs1.length = len1)
    (w : World) (hA0 : ArgIn w.heap.size w a0 bs0) (hA1 : ArgIn w.heap.size w a1 bs1) :
    Calls Yba.prog 3 #[.slice a0 len0 cap0, .slice a1 len1 cap1] w fun e w' => e = .returned (.bool true) ∧ Below w.heap.size w w' := by
  by_cases h : 4096 < len0 ∨ 4096 < len1
  · exact hex_out a0 len0 cap0 a1 len1 cap1 h w
  · by_cases h0 : len0 + 2 * len1 = 0
    · obtain rfl : len0 = 0 := by omega
      obtain rfl : len1 = 0 := by omega
      exact hex_zero a0 cap0 a1 cap1 w
    · exact hex_in a0 len0 cap0 bs0 a1 len1 cap1 (len0 + 2 * len1) bs1 hl0 hl1 (by omega) (by omega) rfl (by omega) w hA0 hA1
end Go.Proofs.Ybulkcyfg
