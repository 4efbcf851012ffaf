/- LawS4987AAppendLines: the walk. -/
import Derived.Test.YbulkcygiHelp
namespace Go.Proofs.Ybulkcygi
open Go.RowKit Go.Lib

set_option maxHeartbeats 3200000 in
set_option maxRecDepth 100000 in
theorem main_false (nm pre : ByteArray) (nOld kk m q : Nat) (fr r : Int) (pv : Option Addr) (lv cv : Nat) (bs : List UInt8) (ph : Option Addr) (lh ch : Nat) (hs : List Bool) (w : World)
    (hnm : nm.size ≤ 1024) (hpre : pre.size ≤ 1024) (hlv : bs.length = lv) (hlvm : lv ≤ 1024) (hlh : hs.length = lh) (hlhm : lh ≤ 1024) (hnO : nOld < 256) (hkk : kk < 256) (hm : (nOld : Int) % 8 = (m : Int)) (hm7 : m ≤ 7) (hq : (kk : Int) % 3 = (q : Int)) (_hq2 : q ≤ 2)
    (hf1 : -128 ≤ fr) (hf2 : fr ≤ 127) (hr1 : -128 ≤ r) (hr2 : r ≤ 127) (hV : BytesIn w.heap.size w pv bs) (hH : BoolsIn w.heap.size w ph hs) :
    Calls Yba.prog 3 #[.string nm, .string pre, .int .u8 (nOld : Int), .int .i8 fr, .int .u8 (kk : Int), .int .i8 r, .slice pv lv cv, .slice ph lh ch, .bool false] w fun e w' => e = .returned (.bool true) ∧ Below w.heap.size w w' := by
  obtain ⟨i5, hi5, hz50, hz51, hz52⟩ := info_parts info5
  obtain ⟨i4, hi4, hz40, hz41, hz42⟩ := info_parts info4
  obtain ⟨i0, hi0, hz0, hz1, hz2⟩ := info_parts info42
  have g1 : ¬ ((1024 : Int) < (nm.size : Int)) := by omega
  have g2 : ¬ ((1024 : Int) < (pre.size : Int)) := by omega
  have g3 : ¬ ((1024 : Int) < (lv : Int)) := by omega
  have g4 : ¬ ((1024 : Int) < (lh : Int)) := by omega
  have HLV := Lib.hid hlv
  have HLH := Lib.hid hlh
  clear hlv hlh
  go_enter Yba.func3, Yba.ntmps3
  go_wp2_with (at_builtin; refine wpList_append_ext _ rfl (.const (.slice none 0 0)) (.tmp 73) 23 23 rfl w.heap.size 5 i5 (.int .u8 0) 1 Yba.underlying23 (.inl Yba.underlying23) hi5 hz50 hz51 hz52 rfl _ _ _ rfl (Owns.nil w w.heap.size) (.slice pv lv cv) rfl lv (Lib.byteCells bs) (by rw [Lib.byteCells_length, HLV.out]) rfl (bytesIn_src hV lv cv HLV.out) (bytes_one _) (by unfold maxLen; omega) (by omega) (Nat.le_refl _) ?_)
  intro v1 w1 hx1
  have hb1 : Below w.heap.size w w1 := below_nil hx1
  have hH1 := hH.below hb1
  go_wp2_with (at_builtin; refine wpList_append_ext _ rfl (.const (.slice none 0 0)) (.tmp 75) 24 24 rfl w.heap.size 4 i4 (.bool false) 1 Yba.underlying24 (.inl Yba.underlying24) hi4 hz40 hz41 hz42 rfl _ _ _ rfl (Owns.nil w1 w.heap.size) (.slice ph lh ch) rfl lh (boolCells hs) (by simp [boolCells, HLH.out]) rfl (boolsIn_src hH1 lh ch HLH.out) (bools_one _) (by unfold maxLen; omega) (by omega) hb1.size ?_)
  intro v2 w2 hx2
  have hb2 : Below w1.heap.size w1 w2 := below_nil hx2
  have hv1 : Owns w2 w.heap.size v1 lv (Lib.byteCells bs) := by
    have := hx1.own.below hb2 (fun k hk => (hx1.own.lt k hk).2)
    simpa using this
  have hv2 : Owns w2 w.heap.size v2 lh (boolCells hs) := by simpa using hx2.own
  obtain ⟨p1, k1, rfl, hp1⟩ := hv1.form
  obtain ⟨p2, k2, rfl, hp2⟩ := hv2.form
  have HV1 := Lib.hid hv1
  have HV2 := Lib.hid hv2
  have hbw2 : Below w.heap.size w w2 := hb1.trans (hb2.mono hb1.size)
  have HB2 := Lib.hid hbw2
  have hsw2 := hbw2.size
  clear hx1 hx2 hv1 hv2 hb1 hb2 hbw2 hp1 hp2 hH1
  go_wp2_with (at_make; refine wpList_make_full _ rfl _ _ 36 rfl w.heap.size 42 i0 _ 6 Yba.underlying36 hi0 hz0 hz1 _ _ _ _ m rfl rfl rfl rfl (by rw [hz2]; omega) (by unfold maxLen; omega) (by simp; omega) ?_)
  intro w3 ho3 hg3
  rw [olds_made m hm7] at ho3
  obtain ⟨H, hH0⟩ : ∃ H, H = w2.heap.size + 1 + 1 := ⟨_, rfl⟩
  have hH3 : w3.heap[H]? = some (.cells (olds 0 m).toArray 42 (0, 0)) := by
    rcases ho3.2 with ⟨h, _⟩ | ⟨g, cap, cur, h1, _, h2, _, _, h3, h4⟩
    · cases h
    · cases h1
      rw [hH0, h2]
      have : cur.toList = olds 0 m := by rw [← h4, List.take_of_length_le (by simp; omega)]
      rw [← this]
  rw [← hH0]
  have hb3 : Below (w2.heap.size + 2) ((w2.alloc (Obj.cells #[Value.slice p1 lv k1, Value.slice p2 lh k2] 27)).alloc (Obj.cells #[Value.string nm, Value.nilFunc, Value.bool false, Value.bool false, Value.nilFunc, Value.func (Fn.func 6) #[] #[], Value.nilFunc] 34)) w3 := ⟨hg3.os, hg3.tape, hg3.output, hg3.size, fun k hk => hg3.block k (by simp; omega) (by simp)⟩
  have hb23 : Below w2.heap.size w2 w3 := (((Below.refl _ _).alloc (Nat.le_refl _) _).alloc (by simp) _).trans (hb3.mono (by omega))
  have t3 : w3.heap[w2.heap.size]? = some (.cells #[Value.slice p1 lv k1, Value.slice p2 lh k2] 27 (0, 0)) := by
    rw [hb3.block w2.heap.size (by omega), Below.heap_alloc _ _ _ (by simp)]; exact heap_alloc_new w2 _
  have f3 : w3.heap[w2.heap.size + 1]? = some (.cells #[Value.string nm, Value.nilFunc, Value.bool false, Value.bool false, Value.nilFunc, Value.func (Fn.func 6) #[] #[], Value.nilFunc] 34 (0, 0)) := by
    rw [hb3.block (w2.heap.size + 1) (by omega)]
    have := heap_alloc_new (w2.alloc (Obj.cells #[Value.slice p1 lv k1, Value.slice p2 lh k2] 27)) (Obj.cells #[Value.string nm, Value.nilFunc, Value.bool false, Value.bool false, Value.nilFunc, Value.func (Fn.func 6) #[] #[], Value.nilFunc] 34)
    simpa using this
  have hs3 : H < w3.heap.size := (Array.getElem?_eq_some_iff.1 hH3).1
  have HH3 := Lib.hid hH3
  have HB23 := Lib.hid hb23
  have HT3 := Lib.hid t3
  have HF3 := Lib.hid f3
  have HH0 := Lib.hid hH0
  have hHn : w2.heap.size + 2 = H := by omega
  have HHN := Lib.hid hHn
  clear ho3 hg3 hb3 hH3 hb23 t3 f3 hH0 hHn
  go_wp2_with fail
  go_loopw [26] (fun iv wr => ∃ k : Nat, k ≤ m ∧ iv = .int .i64 (k : Int) ∧ wr.heap[H]? = some (.cells (olds k m).toArray 42 (0, 0)) ∧ Below H w3 wr ∧ wr.heap.size = w3.heap.size) (fun iv _ => m - (intOf iv).toNat)
  case atStart => exact ⟨0, Nat.zero_le _, rfl, HH3.out, Below.refl _ _, rfl⟩
  case round =>
    obtain ⟨k, hk, rfl, rH, rB, rS⟩ := hrel
    have RH := Lib.hid rH
    have RB := Lib.hid rB
    have RS := Lib.hid rS
    clear rH rB rS
    by_cases hlt : k < m
    · have hki : (k : Int) < (m : Int) := by omega
      have a1 : wr.cell? ⟨H, k * 6 + 2, none⟩ = some (.int .i64 0) := by simp [World.cell?, RH.out, (olds_at k m hm7 hlt).1]
      have a2 : wr.cell? ⟨H, k * 6 + 2 + 1, none⟩ = some (.int .i64 0) := by simp [World.cell?, RH.out, (olds_at k m hm7 hlt).2]
      have z1 : wr.frozen? ⟨H, k * 6 + 2, none⟩ = false := by simp [World.frozen?, RH.out]
      have z2 : wr.frozen? ⟨H, k * 6 + 2 + 1, none⟩ = false := by simp [World.frozen?, RH.out]
      go_wp2_with fail
      go_roundw
      · refine ⟨k + 1, by omega, by go_num, ?_, ?_, ?_⟩
        · have h1 := cell_set (cell_set RH.out (.int .i64 (k : Int)) (i := k * 6 + 2)) (.int .i64 1) (i := k * 6 + 2 + 1)
          rw [h1, List.setIfInBounds_toArray, List.setIfInBounds_toArray, olds_step k m hm7 hlt]
        · exact (RB.out.setCell (Nat.le_refl _) _).setCell (Nat.le_refl _) _
        · simp [RS.out]
      · simp [intOf]; omega
    · have hki : ¬ ((k : Int) < (m : Int)) := by omega
      obtain rfl : m = k := by omega
      have F := fun (i : Nat) (v : Value) (h : (#[Value.string nm, Value.nilFunc, Value.bool false, Value.bool false, Value.nilFunc, Value.func (Fn.func 6) #[] #[], Value.nilFunc] : Array Value)[i]? = some v) => cells_at ((RB.out.block (w2.heap.size + 1) (by have := HHN.out; omega)).trans HF3.out) i v h
      have F0 := F 0 _ rfl
      have F1 := F 1 _ rfl
      have F2 := F 2 _ rfl
      have F3 := F 3 _ rfl
      have F4 := F 4 _ rfl
      have F5 := F 5 _ rfl
      have F6 := F 6 _ rfl
      clear F
      obtain ⟨K, hK⟩ : ∃ K : Nat, (K : Int) = (((q : Int) * 8192 + r) + 8191) / 8192 := ⟨((((q : Int) * 8192 + r) + 8191) / 8192).toNat, by omega⟩
      have HK := Lib.hid hK
      have hK3 : K ≤ 3 := by omega
      clear hK
      obtain ⟨F, hF⟩ : ∃ F, F = wr.heap.size := ⟨_, rfl⟩
      have HBR := Lib.hid RB.out
      by_cases hsp : 0 < (q : Int) * 8192 + r
      · have hKd : ((q : Int) * 8192 + r + 8192 - 1) / 8192 = (K : Int) := by have := HK.out; omega
        go_wp2_with (go_at_call 10; refine (lines_any H m K w2.heap.size nm .nilFunc (.slice (some ⟨H, 0, none⟩) m m) (olds m m) fr (fr + ((q : Int) * 8192 + r)) wr (by omega) (by omega) (by omega) (by omega) (fun k => by have := HK.out; omega) hK3 hm7 rfl ⟨olds_length m m hm7 (Nat.le_refl _), .inr ⟨H, m, (olds m m).toArray, rfl, Nat.le_refl _, RH.out, Nat.le_refl _, by unfold maxLen; omega, by simp [olds_length m m hm7 (Nat.le_refl _)], by simpa using List.take_of_length_le (Nat.le_of_eq (olds_length m m hm7 (Nat.le_refl _)))⟩⟩ (by have := RS.out; omega)).mono ?_; rintro e w5 ⟨v5, bl, rfl, hbl, hI⟩; rw [← hF] at hI; obtain ⟨p5, c5, rfl, hp5⟩ := row_form hI.own; rw [hbl] at hp5 ⊢; have HI := Lib.hid hI; have HP5 := Lib.hid hp5; have HBL := Lib.hid hbl; clear hI hp5 hbl hF)
        go_loopw [29] (fun iv wx => ∃ j : Nat, j ≤ m ∧ iv = .int .i64 (j : Int) ∧ wx = w5) (fun iv _ => m - (intOf iv).toNat)
        case atStart => exact ⟨0, Nat.zero_le _, rfl, rfl⟩
        case round =>
          obtain ⟨j, hj, rfl, hwx⟩ := hrel
          have hwx := hwx.symm
          subst hwx
          by_cases hjt : j < m
          · have hji : (j : Int) < (m : Int) := by omega
            obtain ⟨g5, rfl, hc5⟩ := HP5.out (by omega)
            obtain ⟨o0, o1, o2, o3, o4, o5⟩ := olds_cells m j hm7 hjt (pieces F (F + 1) bl)
            have d0 := hc5 _ _ o0
            have d1 := hc5 _ _ o1
            have d2 := hc5 _ _ o2
            have d3 := hc5 _ _ o3
            have d4 := hc5 _ _ o4
            have d5 := hc5 _ _ o5
            have hjl : (j : Int) < (m : Int) + (K : Int) := by omega
            clear o0 o1 o2 o3 o4 o5 hc5
            have n1 := neq39_nil
            have n2 := neq38
            have n3 := neq38_zero
            go_wp2_with (first | rw [neq39_nil] | rw [neq38] | rw [neq38_zero])
            go_roundw
            · exact ⟨j + 1, by omega, by go_num, trivial⟩
            · simp [intOf]; omega
          · have hji : ¬ ((j : Int) < (m : Int)) := by omega
            obtain rfl : m = j := by omega
            have hBh5 : Below H w3 w5 := HBR.out.trans HI.out.below
            have hB25 : Below w2.heap.size w2 w5 := HB23.out.trans (hBh5.mono (by have := HHN.out; omega))
            have hB5 : Below w.heap.size w w5 := HB2.out.trans (hB25.mono hsw2)
            have hF5 : F + 1 < w5.heap.size := (Array.getElem?_eq_some_iff.1 HI.out.pbk).1
            have hs25 := hB25.size
            have t5 := (hBh5.block w2.heap.size (by have := HHN.out; omega)).trans HT3.out
            have hEnv : Env w5.heap.size w5 F (F + 1) w2.heap.size nm false p1 lv k1 bs p2 lh k2 hs := by
              refine ⟨by omega, hF5, (Array.getElem?_eq_some_iff.1 t5).1, cells_at HI.out.fbk 0 _ rfl, cells_at HI.out.fbk 4 _ rfl, cells_at HI.out.fbk 5 _ rfl, cells_at HI.out.pbk 0 _ rfl, cells_at t5 0 _ rfl, cells_at t5 1 _ rfl, ?_, ?_⟩
              · intro h0
                obtain ⟨b, o, e, hlt, hc⟩ := ((HV1.out.bytesIn HLV.out).below hB25) h0
                exact ⟨b, o, e, by omega, hc⟩
              · intro h0
                obtain ⟨b, o, e, hlt, hc⟩ := ((HV2.out.boolsIn HLH.out).below hB25) h0
                exact ⟨b, o, e, by omega, hc⟩
            have HENV := Lib.hid hEnv
            have HB5 := Lib.hid hB5
            clear t5 hEnv hB5 hB25 hBh5
            go_wp2_with fail
            go_loopw [30] (fun iv wx => ∃ j : Nat, j ≤ K ∧ iv = .int .i64 (j : Int) ∧ Below w5.heap.size w5 wx) (fun iv _ => K - (intOf iv).toNat)
            case atStart => exact ⟨0, Nat.zero_le _, rfl, Below.refl _ _⟩
            case round =>
              obtain ⟨j, hj, rfl, hBx⟩ := hrel
              obtain ⟨w6, hw6⟩ : ∃ w6, w6 = wr := ⟨_, rfl⟩
              subst hw6
              have HBX := Lib.hid hBx
              have hsx := hBx.size
              clear hBx
              by_cases hjt : j < K
              · have hji2 : (j : Int) < (K : Int) := by omega
                obtain ⟨g5, rfl, hc5⟩ := HP5.out (by omega)
                have hbl := HBL.out
                have hjb : j < bl.length := by omega
                obtain ⟨b1, b2, hb12⟩ : ∃ b1 b2, bl[j] = (b1, b2) := ⟨_, _, rfl⟩
                have hpc := pieces_cells F (F + 1) m hm7 bl j hjb
                rw [hb12] at hpc
                have hat1 := (HI.out.at1 j hjb).1
                have hat2 := (HI.out.at2 j hjb).1
                rw [hb12] at hat1 hat2
                obtain ⟨x, hx⟩ : ∃ x, x = m + j := ⟨_, rfl⟩
                rw [← hx] at hpc
                have hmx : (m : Int) + (j : Int) = (x : Int) := by omega
                have hxl : (x : Int) < (m : Int) + (K : Int) := by omega
                have hxb : x ≤ 10 := by omega
                have e0 := hc5 _ _ (hpc 0 (by omega))
                have hg5 := World.block_lt_of_cell? _ _ e0
                have d0 := (HBX.out.cell (p := ⟨g5, x * 6, none⟩) hg5).trans e0
                have d1 := (HBX.out.cell (p := ⟨g5, x * 6 + 1, none⟩) hg5).trans (hc5 _ _ (hpc 1 (by omega)))
                have d2 := (HBX.out.cell (p := ⟨g5, x * 6 + 2, none⟩) hg5).trans (hc5 _ _ (hpc 2 (by omega)))
                have d3 := (HBX.out.cell (p := ⟨g5, x * 6 + 3, none⟩) hg5).trans (hc5 _ _ (hpc 3 (by omega)))
                have d4 := (HBX.out.cell (p := ⟨g5, x * 6 + 4, none⟩) hg5).trans (hc5 _ _ (hpc 4 (by omega)))
                have d5 := (HBX.out.cell (p := ⟨g5, x * 6 + 5, none⟩) hg5).trans (hc5 _ _ (hpc 5 (by omega)))
                obtain ⟨lo, hlo⟩ : ∃ lo, lo = fr + 8192 * (j : Int) := ⟨_, rfl⟩
                have hlo' : fr + (j : Int) * 8192 = lo := by omega
                have hlo1 : -128 ≤ lo := by omega
                have hlo2 : lo ≤ 24703 := by omega
                have HLO := Lib.hid hlo
                have HAT1 := Lib.hid hat1
                have HAT2 := Lib.hid hat2
                clear hpc e0 hc5 hlo hx hbl hb12 hjb hat1 hat2
                have n1 := eq39_fn
                have n3 := neq38_zero
                obtain ⟨wA, cA, eA, oA, bA, sA⟩ := conv_any (w6.alloc (.cells #[.func (.func 14) #[] #[.pointer (some ⟨b1, 0, none⟩), .pointer (some ⟨b2, 0, none⟩), .pointer (some ⟨F, 0, none⟩), .pointer (some ⟨F + 1, 0, none⟩)], .pointer none, .int .i64 0, .int .i64 0, .int .i64 0, .int .i64 0] 42)) pre hpre (w6.heap.size + 1) (by simp)
                have OA := Lib.hid oA
                have BA := Lib.hid bA
                clear oA bA
                by_cases hhi : fr + ((q : Int) * 8192 + r) < lo + 8192
                · obtain ⟨cnt, hcnt⟩ : ∃ cnt : Nat, cnt = (endOf fr (fr + ((q : Int) * 8192 + r)) j - lo).toNat := ⟨_, rfl⟩
                  have hend : lo + (cnt : Int) = fr + ((q : Int) * 8192 + r) := by
                    rw [hcnt, endOf, if_neg (by have := HLO.out; omega)]; have := HLO.out; have := HK.out; omega
                  have hcn2 : cnt ≤ 8192 := by have := HLO.out; omega
                  have HC := Lib.hid hcnt
                  clear hcnt
                  go_wp2_with fail
                  go_loopw [34, 35] (fun v iv wy => ∃ i : Nat, i ≤ cnt ∧ iv = .int .i64 (lo + (i : Int)) ∧ Ext (w6.heap.size + 1) wA (.slice (some ⟨w6.heap.size + 1, 0, none⟩) pre.size cA) pre.size wy v (pre.size + (linesN (lineOf nm.data.toList bs (admOf false hs)) lo i).length) (Lib.byteCells pre.data.toList ++ Lib.byteCells (linesN (lineOf nm.data.toList bs (admOf false hs)) lo i))) (fun _ iv _ => (lo + cnt - intOf iv).toNat)
                  case atStart => exact ⟨0, Nat.zero_le _, by show _ = Value.int .i64 (lo + 0); rw [Int.add_zero], by simpa [linesN, Lib.byteCells] using Ext.refl OA.out⟩
                  case round =>
                    obtain ⟨i, hi, rfl, hx⟩ := hrel
                    have hxs := hx.kept.size
                    have HX := Lib.hid hx
                    have hBA : Below (w6.heap.size + 1) wA wr := hx.toBelow OA.out (by omega)
                    have HBA := Lib.hid hBA
                    have hB6 : Below w5.heap.size w5 wr := HBX.out.trans ((((Below.refl w6.heap.size w6).alloc (Nat.le_refl _) _).trans (BA.out.mono (by omega))).trans (hBA.mono (by omega)) |>.mono hsx)
                    have HB6 := Lib.hid hB6
                    have hBw : Below w.heap.size w wr := HB5.out.trans (hB6.mono HB5.out.size)
                    have HBW := Lib.hid hBw
                    have hnml : nm.data.toList.length ≤ 1024 := by rw [Array.length_toList]; exact hnm
                    clear hx hBA hB6 hBw
                    have hle := linesN_le nm.data.toList bs (admOf false hs) lo i
                    have hle2 : i * (nm.data.toList.length + 3) ≤ 8192 * 1027 := Nat.mul_le_mul (by omega) (by omega)
                    by_cases hit : i < cnt
                    · have hlti : lo + (i : Int) < fr + ((q : Int) * 8192 + r) := by omega
                      have hstep : linesN (lineOf nm.data.toList bs (admOf false hs)) lo (i + 1) = linesN (lineOf nm.data.toList bs (admOf false hs)) lo i ++ lineOf nm.data.toList bs (admOf false hs) (lo + i) := rfl
                      generalize hL : linesN (lineOf nm.data.toList bs (admOf false hs)) lo i = L at *
                      have HS := Lib.hid hstep
                      clear hstep hL
                      have hl1 : lineOf nm.data.toList bs (admOf false hs) (lo + i) = nm.data.toList ++ [32, valOf bs (lo + i), 10] := by unfold lineOf; rw [if_pos (by rfl)]
                      have HLN := Lib.hid hl1
                      clear hl1
                      go_wp2_with (first | (go_at_call 7; refine (aval_any pv lv cv bs (lo + (i : Int)) _ HLV.out hlvm (bytesAt_of BY.out) (by omega) (by omega)).mono ?_; rintro e w' ⟨rfl, hw⟩; have hw := hw.symm; subst hw) | (at_builtin; refine wpList_append_ext _ rfl (.tmp 218) (.tmp 219) 23 9 rfl (w6.heap.size + 1) 5 i5 (.int .u8 0) 1 Yba.underlying23 (.inr Yba.underlying9) hi5 hz50 hz51 hz52 rfl _ _ _ rfl HX.out.own (.string nm) rfl nm.size (Lib.strCells nm) (Lib.strCells_length _) rfl (src_string _ _) (Lib.strCells_oneCell _) (by unfold maxLen; omega) (by omega) (by omega) ?_; intro v1 w7 hx1; have hE1 := HX.out.trans hx1; have hb1 := hE1.toBelow OA.out (by omega); have hE1s := hE1.kept.size; have BY := Lib.hid (hV.below (HB5.out.trans ((HBX.out.trans ((((Below.refl w6.heap.size w6).alloc (Nat.le_refl _) _).trans (BA.out.mono (by omega))).trans (hb1.mono (by omega)) |>.mono hsx)).mono HB5.out.size))); have HE1 := Lib.hid hE1; clear hE1 hx1 hb1) | (at_builtin; refine wpList_append_ext _ rfl (.tmp 221) (.tmp 225) 23 23 rfl (w6.heap.size + 1) 5 i5 (.int .u8 0) 1 Yba.underlying23 (.inl Yba.underlying23) hi5 hz50 hz51 hz52 rfl _ _ _ rfl (HE1.out.own.alloc _) (.slice (some ⟨w7.heap.size, 0, none⟩) 3 3) rfl 3 [.int .u8 32, .int .u8 ((valOf bs (lo + (i : Int))).toNat : Int), .int .u8 10] rfl rfl (src_three rfl) (by simp [Value.oneCell']) (by unfold maxLen; omega) (by omega) (by simp; omega) ?_; intro v2' w8 hx2; have hE2 := (HE1.out.alloc _).trans hx2; have HE2 := Lib.hid hE2; clear hE2 hx2))
                      go_roundw
                      · refine ⟨i + 1, by omega, by go_num, ?_⟩
                        rw [HS.out, HLN.out]
                        exact ext_line3 HE2.out
                      · simp [intOf]; omega
                    · have hlti : ¬ (lo + (i : Int) < fr + ((q : Int) * 8192 + r)) := by omega
                      obtain rfl : cnt = i := by omega
                      have hmk : wr.cell? ⟨w6.heap.size, 0, none⟩ = some (.func (.func 14) #[] #[.pointer (some ⟨b1, 0, none⟩), .pointer (some ⟨b2, 0, none⟩), .pointer (some ⟨F, 0, none⟩), .pointer (some ⟨F + 1, 0, none⟩)]) := by
                        rw [HBA.out.cell (p := ⟨w6.heap.size, 0, none⟩) (by simp), BA.out.cell (p := ⟨w6.heap.size, 0, none⟩) (by simp)]
                        exact cells_at (heap_alloc_new w6 _) 0 _ rfl
                      have HCN := Lib.hid HC.out.symm
                      generalize hL : linesN (lineOf nm.data.toList bs (admOf false hs)) lo cnt = L at *
                      have HLL := Lib.hid hL
                      clear hL
                      obtain ⟨p34, c34, e34, _⟩ := HX.out.own.form
                      subst e34
                      obtain ⟨wC, cC, eC, oC, bC, sC⟩ := conv_any wr pre hpre wr.heap.size rfl
                      have hb5w := HB6.out.size
                      have hEnvC : Env wr.heap.size wC F (F + 1) w2.heap.size nm false p1 lv k1 bs p2 lh k2 hs := ((HENV.out.below HB6.out).base hb5w).below bC
                      have q1 := HAT1.out
                      have q2 := HAT2.out
                      rw [← HLO.out] at q1
                      have l1 := World.block_lt_of_cell? _ _ q1
                      have l2 := World.block_lt_of_cell? _ _ q2
                      have c1 := (bC.cell (p := ⟨b1, 0, none⟩) (Nat.lt_of_lt_of_le l1 hb5w)).trans ((HB6.out.cell (p := ⟨b1, 0, none⟩) l1).trans q1)
                      have c2 := (bC.cell (p := ⟨b2, 0, none⟩) (Nat.lt_of_lt_of_le l2 hb5w)).trans ((HB6.out.cell (p := ⟨b2, 0, none⟩) l2).trans q2)
                      have hmake := make_any wr.heap.size pre.size F (F + 1) w2.heap.size b1 b2 nm false p1 lv k1 bs p2 lh k2 hs lo cnt (endOf fr (fr + ((q : Int) * 8192 + r)) j) (.slice (some ⟨wr.heap.size, 0, none⟩) pre.size cC) (Lib.byteCells pre.data.toList) wC hEnvC HLV.out hlvm HLH.out hlhm (by simp) hnm (Nat.lt_of_lt_of_le l1 hb5w) (Nat.lt_of_lt_of_le l2 hb5w) c1 c2 (by omega) (by omega) hcn2 HCN.out oC (by omega) hpre
                      rw [HLL.out] at hmake
                      have HM := Lib.hid hmake
                      have OC := Lib.hid oC
                      have BC := Lib.hid bC
                      obtain ⟨S, hS⟩ : ∃ S : ByteArray, S = ⟨(pre.data.toList ++ L).toArray⟩ := ⟨_, rfl⟩
                      have HS := Lib.hid hS
                      have hlen : (pre.data.toList ++ L).length = pre.size + L.length := by rw [List.length_append, Array.length_toList]; rfl
                      have HLEN := Lib.hid hlen
                      clear hmake oC bC hEnvC q1 q2 c1 c2 l1 l2 hS hlen
                      go_wp2_with (go_at_call 14; refine HM.out.mono ?_; rintro e w9 ⟨v9, rfl, hx9⟩; have hb9 := hx9.toBelow OC.out (by omega); have o9 := hx9.own; rw [← Lib.byteCells_append] at o9; obtain ⟨p9, c9, rfl, _⟩ := o9.form; have e1 := back_any w9 _ _ _ _ _ HLEN.out o9; have o34 := HX.out.own.below (BC.out.trans hb9) (fun k hk => (HX.out.own.lt k hk).2); rw [← Lib.byteCells_append] at o34; have e2 := back_any w9 _ _ _ _ _ HLEN.out o34; rw [← HS.out] at e1 e2; have HB9 := Lib.hid (HB6.out.trans ((BC.out.trans hb9).mono hb5w)); clear hb9 o9 o34 hx9)
                      go_roundw
                      · exact ⟨j + 1, by omega, by go_num, HB9.out⟩
                      · simp [intOf]; omega
                · obtain ⟨cnt, hcnt⟩ : ∃ cnt : Nat, cnt = (endOf fr (fr + ((q : Int) * 8192 + r)) j - lo).toNat := ⟨_, rfl⟩
                  have hend : lo + (cnt : Int) = lo + 8192 := by
                    rw [hcnt, endOf, if_pos (by have := HLO.out; omega)]; have := HLO.out; have := HK.out; omega
                  have hcn2 : cnt ≤ 8192 := by have := HLO.out; omega
                  have HC := Lib.hid hcnt
                  clear hcnt
                  go_wp2_with fail
                  go_loopw [34, 35] (fun v iv wy => ∃ i : Nat, i ≤ cnt ∧ iv = .int .i64 (lo + (i : Int)) ∧ Ext (w6.heap.size + 1) wA (.slice (some ⟨w6.heap.size + 1, 0, none⟩) pre.size cA) pre.size wy v (pre.size + (linesN (lineOf nm.data.toList bs (admOf false hs)) lo i).length) (Lib.byteCells pre.data.toList ++ Lib.byteCells (linesN (lineOf nm.data.toList bs (admOf false hs)) lo i))) (fun _ iv _ => (lo + cnt - intOf iv).toNat)
                  case atStart => exact ⟨0, Nat.zero_le _, by show _ = Value.int .i64 (lo + 0); rw [Int.add_zero], by simpa [linesN, Lib.byteCells] using Ext.refl OA.out⟩
                  case round =>
                    obtain ⟨i, hi, rfl, hx⟩ := hrel
                    have hxs := hx.kept.size
                    have HX := Lib.hid hx
                    have hBA : Below (w6.heap.size + 1) wA wr := hx.toBelow OA.out (by omega)
                    have HBA := Lib.hid hBA
                    have hB6 : Below w5.heap.size w5 wr := HBX.out.trans ((((Below.refl w6.heap.size w6).alloc (Nat.le_refl _) _).trans (BA.out.mono (by omega))).trans (hBA.mono (by omega)) |>.mono hsx)
                    have HB6 := Lib.hid hB6
                    have hBw : Below w.heap.size w wr := HB5.out.trans (hB6.mono HB5.out.size)
                    have HBW := Lib.hid hBw
                    have hnml : nm.data.toList.length ≤ 1024 := by rw [Array.length_toList]; exact hnm
                    clear hx hBA hB6 hBw
                    have hle := linesN_le nm.data.toList bs (admOf false hs) lo i
                    have hle2 : i * (nm.data.toList.length + 3) ≤ 8192 * 1027 := Nat.mul_le_mul (by omega) (by omega)
                    by_cases hit : i < cnt
                    · have hlti : lo + (i : Int) < lo + 8192 := by omega
                      have hstep : linesN (lineOf nm.data.toList bs (admOf false hs)) lo (i + 1) = linesN (lineOf nm.data.toList bs (admOf false hs)) lo i ++ lineOf nm.data.toList bs (admOf false hs) (lo + i) := rfl
                      generalize hL : linesN (lineOf nm.data.toList bs (admOf false hs)) lo i = L at *
                      have HS := Lib.hid hstep
                      clear hstep hL
                      have hl1 : lineOf nm.data.toList bs (admOf false hs) (lo + i) = nm.data.toList ++ [32, valOf bs (lo + i), 10] := by unfold lineOf; rw [if_pos (by rfl)]
                      have HLN := Lib.hid hl1
                      clear hl1
                      go_wp2_with (first | (go_at_call 7; refine (aval_any pv lv cv bs (lo + (i : Int)) _ HLV.out hlvm (bytesAt_of BY.out) (by omega) (by omega)).mono ?_; rintro e w' ⟨rfl, hw⟩; have hw := hw.symm; subst hw) | (at_builtin; refine wpList_append_ext _ rfl (.tmp 218) (.tmp 219) 23 9 rfl (w6.heap.size + 1) 5 i5 (.int .u8 0) 1 Yba.underlying23 (.inr Yba.underlying9) hi5 hz50 hz51 hz52 rfl _ _ _ rfl HX.out.own (.string nm) rfl nm.size (Lib.strCells nm) (Lib.strCells_length _) rfl (src_string _ _) (Lib.strCells_oneCell _) (by unfold maxLen; omega) (by omega) (by omega) ?_; intro v1 w7 hx1; have hE1 := HX.out.trans hx1; have hb1 := hE1.toBelow OA.out (by omega); have hE1s := hE1.kept.size; have BY := Lib.hid (hV.below (HB5.out.trans ((HBX.out.trans ((((Below.refl w6.heap.size w6).alloc (Nat.le_refl _) _).trans (BA.out.mono (by omega))).trans (hb1.mono (by omega)) |>.mono hsx)).mono HB5.out.size))); have HE1 := Lib.hid hE1; clear hE1 hx1 hb1) | (at_builtin; refine wpList_append_ext _ rfl (.tmp 221) (.tmp 225) 23 23 rfl (w6.heap.size + 1) 5 i5 (.int .u8 0) 1 Yba.underlying23 (.inl Yba.underlying23) hi5 hz50 hz51 hz52 rfl _ _ _ rfl (HE1.out.own.alloc _) (.slice (some ⟨w7.heap.size, 0, none⟩) 3 3) rfl 3 [.int .u8 32, .int .u8 ((valOf bs (lo + (i : Int))).toNat : Int), .int .u8 10] rfl rfl (src_three rfl) (by simp [Value.oneCell']) (by unfold maxLen; omega) (by omega) (by simp; omega) ?_; intro v2' w8 hx2; have hE2 := (HE1.out.alloc _).trans hx2; have HE2 := Lib.hid hE2; clear hE2 hx2))
                      go_roundw
                      · refine ⟨i + 1, by omega, by go_num, ?_⟩
                        rw [HS.out, HLN.out]
                        exact ext_line3 HE2.out
                      · simp [intOf]; omega
                    · have hlti : ¬ (lo + (i : Int) < lo + 8192) := by omega
                      obtain rfl : cnt = i := by omega
                      have hmk : wr.cell? ⟨w6.heap.size, 0, none⟩ = some (.func (.func 14) #[] #[.pointer (some ⟨b1, 0, none⟩), .pointer (some ⟨b2, 0, none⟩), .pointer (some ⟨F, 0, none⟩), .pointer (some ⟨F + 1, 0, none⟩)]) := by
                        rw [HBA.out.cell (p := ⟨w6.heap.size, 0, none⟩) (by simp), BA.out.cell (p := ⟨w6.heap.size, 0, none⟩) (by simp)]
                        exact cells_at (heap_alloc_new w6 _) 0 _ rfl
                      have HCN := Lib.hid HC.out.symm
                      generalize hL : linesN (lineOf nm.data.toList bs (admOf false hs)) lo cnt = L at *
                      have HLL := Lib.hid hL
                      clear hL
                      obtain ⟨p34, c34, e34, _⟩ := HX.out.own.form
                      subst e34
                      obtain ⟨wC, cC, eC, oC, bC, sC⟩ := conv_any wr pre hpre wr.heap.size rfl
                      have hb5w := HB6.out.size
                      have hEnvC : Env wr.heap.size wC F (F + 1) w2.heap.size nm false p1 lv k1 bs p2 lh k2 hs := ((HENV.out.below HB6.out).base hb5w).below bC
                      have q1 := HAT1.out
                      have q2 := HAT2.out
                      rw [← HLO.out] at q1
                      have l1 := World.block_lt_of_cell? _ _ q1
                      have l2 := World.block_lt_of_cell? _ _ q2
                      have c1 := (bC.cell (p := ⟨b1, 0, none⟩) (Nat.lt_of_lt_of_le l1 hb5w)).trans ((HB6.out.cell (p := ⟨b1, 0, none⟩) l1).trans q1)
                      have c2 := (bC.cell (p := ⟨b2, 0, none⟩) (Nat.lt_of_lt_of_le l2 hb5w)).trans ((HB6.out.cell (p := ⟨b2, 0, none⟩) l2).trans q2)
                      have hmake := make_any wr.heap.size pre.size F (F + 1) w2.heap.size b1 b2 nm false p1 lv k1 bs p2 lh k2 hs lo cnt (endOf fr (fr + ((q : Int) * 8192 + r)) j) (.slice (some ⟨wr.heap.size, 0, none⟩) pre.size cC) (Lib.byteCells pre.data.toList) wC hEnvC HLV.out hlvm HLH.out hlhm (by simp) hnm (Nat.lt_of_lt_of_le l1 hb5w) (Nat.lt_of_lt_of_le l2 hb5w) c1 c2 (by omega) (by omega) hcn2 HCN.out oC (by omega) hpre
                      rw [HLL.out] at hmake
                      have HM := Lib.hid hmake
                      have OC := Lib.hid oC
                      have BC := Lib.hid bC
                      obtain ⟨S, hS⟩ : ∃ S : ByteArray, S = ⟨(pre.data.toList ++ L).toArray⟩ := ⟨_, rfl⟩
                      have HS := Lib.hid hS
                      have hlen : (pre.data.toList ++ L).length = pre.size + L.length := by rw [List.length_append, Array.length_toList]; rfl
                      have HLEN := Lib.hid hlen
                      clear hmake oC bC hEnvC q1 q2 c1 c2 l1 l2 hS hlen
                      go_wp2_with (go_at_call 14; refine HM.out.mono ?_; rintro e w9 ⟨v9, rfl, hx9⟩; have hb9 := hx9.toBelow OC.out (by omega); have o9 := hx9.own; rw [← Lib.byteCells_append] at o9; obtain ⟨p9, c9, rfl, _⟩ := o9.form; have e1 := back_any w9 _ _ _ _ _ HLEN.out o9; have o34 := HX.out.own.below (BC.out.trans hb9) (fun k hk => (HX.out.own.lt k hk).2); rw [← Lib.byteCells_append] at o34; have e2 := back_any w9 _ _ _ _ _ HLEN.out o34; rw [← HS.out] at e1 e2; have HB9 := Lib.hid (HB6.out.trans ((BC.out.trans hb9).mono hb5w)); clear hb9 o9 o34 hx9)
                      go_roundw
                      · exact ⟨j + 1, by omega, by go_num, HB9.out⟩
                      · simp [intOf]; omega
              · have hji2 : ¬ ((j : Int) < (K : Int)) := by omega
                have tv6 := (HBX.out.cell (p := ⟨w2.heap.size, 0, none⟩) HENV.out.tbB).trans HENV.out.tv
                have th6 := (HBX.out.cell (p := ⟨w2.heap.size, 1, none⟩) HENV.out.tbB).trans HENV.out.th
                go_wp2_with fail
                go_ret
                exact ⟨rfl, HB5.out.trans (HBX.out.mono HB5.out.size)⟩
      · have hK0 : (K : Int) = 0 := by have := HK.out; omega
        go_wp2_with (go_at_call 10; refine (lines_any H m K w2.heap.size nm .nilFunc (.slice (some ⟨H, 0, none⟩) m m) (olds m m) fr (fr + ((q : Int) * 8192 + r)) wr (by omega) (by omega) (by omega) (by omega) (fun k => by have := HK.out; omega) hK3 hm7 rfl ⟨olds_length m m hm7 (Nat.le_refl _), .inr ⟨H, m, (olds m m).toArray, rfl, Nat.le_refl _, RH.out, Nat.le_refl _, by unfold maxLen; omega, by simp [olds_length m m hm7 (Nat.le_refl _)], by simpa using List.take_of_length_le (Nat.le_of_eq (olds_length m m hm7 (Nat.le_refl _)))⟩⟩ (by have := RS.out; omega)).mono ?_; rintro e w5 ⟨v5, bl, rfl, hbl, hI⟩; rw [← hF] at hI; obtain ⟨p5, c5, rfl, hp5⟩ := row_form hI.own; rw [hbl] at hp5 ⊢; have HI := Lib.hid hI; have HP5 := Lib.hid hp5; have HBL := Lib.hid hbl; clear hI hp5 hbl hF)
        go_loopw [29] (fun iv wx => ∃ j : Nat, j ≤ m ∧ iv = .int .i64 (j : Int) ∧ wx = w5) (fun iv _ => m - (intOf iv).toNat)
        case atStart => exact ⟨0, Nat.zero_le _, rfl, rfl⟩
        case round =>
          obtain ⟨j, hj, rfl, hwx⟩ := hrel
          have hwx := hwx.symm
          subst hwx
          by_cases hjt : j < m
          · have hji : (j : Int) < (m : Int) := by omega
            obtain ⟨g5, rfl, hc5⟩ := HP5.out (by omega)
            obtain ⟨o0, o1, o2, o3, o4, o5⟩ := olds_cells m j hm7 hjt (pieces F (F + 1) bl)
            have d0 := hc5 _ _ o0
            have d1 := hc5 _ _ o1
            have d2 := hc5 _ _ o2
            have d3 := hc5 _ _ o3
            have d4 := hc5 _ _ o4
            have d5 := hc5 _ _ o5
            have hjl : (j : Int) < (m : Int) + (K : Int) := by omega
            clear o0 o1 o2 o3 o4 o5 hc5
            have n1 := neq39_nil
            have n2 := neq38
            have n3 := neq38_zero
            go_wp2_with (first | rw [neq39_nil] | rw [neq38] | rw [neq38_zero])
            go_roundw
            · exact ⟨j + 1, by omega, by go_num, trivial⟩
            · simp [intOf]; omega
          · have hji : ¬ ((j : Int) < (m : Int)) := by omega
            obtain rfl : m = j := by omega
            have hBh5 : Below H w3 w5 := HBR.out.trans HI.out.below
            have hB25 : Below w2.heap.size w2 w5 := HB23.out.trans (hBh5.mono (by have := HHN.out; omega))
            have hB5 : Below w.heap.size w w5 := HB2.out.trans (hB25.mono hsw2)
            have hF5 : F + 1 < w5.heap.size := (Array.getElem?_eq_some_iff.1 HI.out.pbk).1
            have hs25 := hB25.size
            have t5 := (hBh5.block w2.heap.size (by have := HHN.out; omega)).trans HT3.out
            have hEnv : Env w5.heap.size w5 F (F + 1) w2.heap.size nm false p1 lv k1 bs p2 lh k2 hs := by
              refine ⟨by omega, hF5, (Array.getElem?_eq_some_iff.1 t5).1, cells_at HI.out.fbk 0 _ rfl, cells_at HI.out.fbk 4 _ rfl, cells_at HI.out.fbk 5 _ rfl, cells_at HI.out.pbk 0 _ rfl, cells_at t5 0 _ rfl, cells_at t5 1 _ rfl, ?_, ?_⟩
              · intro h0
                obtain ⟨b, o, e, hlt, hc⟩ := ((HV1.out.bytesIn HLV.out).below hB25) h0
                exact ⟨b, o, e, by omega, hc⟩
              · intro h0
                obtain ⟨b, o, e, hlt, hc⟩ := ((HV2.out.boolsIn HLH.out).below hB25) h0
                exact ⟨b, o, e, by omega, hc⟩
            have HENV := Lib.hid hEnv
            have HB5 := Lib.hid hB5
            clear t5 hEnv hB5 hB25 hBh5
            go_wp2_with fail
            go_loopw [30] (fun iv wx => iv = .int .i64 0 ∧ wx = w5) (fun _ _ => 0)
            case atStart => exact ⟨rfl, rfl⟩
            case round =>
              obtain ⟨rfl, hwx⟩ := hrel
              have hwx := hwx.symm
              subst hwx
              have tv6 := HENV.out.tv
              have th6 := HENV.out.th
              go_wp2_with fail
              go_ret
              exact ⟨rfl, HB5.out⟩
end Go.Proofs.Ybulkcygi
