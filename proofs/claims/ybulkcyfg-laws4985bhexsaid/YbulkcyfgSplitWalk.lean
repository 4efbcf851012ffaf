/- LawS4985BSplit: the walk. -/
import Derived.Test.YbulkcyfgHex0
import Derived.Deep.QuietTactic
import Derived.BigQuiet
import Derived.LoopN
namespace Go.Proofs.Ybulkcyfg
open Go.RowKit Go.Lib
set_option linter.unusedVariables false

theorem Owns.form {w : World} {B : Nat} {v : Value} {n : Nat} {xs : List Value} (h : Owns w B v n xs) : ∃ p cap, v = .slice p n cap ∧ (0 < n → ∃ g, p = some ⟨g, 0, none⟩) := by
  rcases h.2 with ⟨rfl, rfl⟩ | ⟨g, cap, cur, T, rfl, _⟩
  · exact ⟨none, 0, rfl, fun h => by omega⟩
  · exact ⟨_, cap, rfl, fun _ => ⟨g, rfl⟩⟩
theorem Owns.of_heap {w w' : World} {B : Nat} {v : Value} {n : Nat} {xs : List Value} (h : Owns w B v n xs) (he : w'.heap = w.heap) : Owns w' B v n xs := by
  unfold Owns at *; rw [he]; exact h
theorem below_of_heap {B : Nat} {w0 w w' : World} (h : Below B w0 w) (he : w'.heap = w.heap) (h1 : w'.os = w.os) (h2 : w'.tape = w.tape) (h3 : w'.output = w.output) : Below B w0 w' :=
  ⟨h1.trans h.os, h2.trans h.tape, h3.trans h.output, by rw [he]; exact h.size, fun k hk => by rw [he]; exact h.block k hk⟩
theorem ArgIn.mono {B B' : Nat} {w : World} {a0 : Option Addr} {bs : List UInt8} (h : ArgIn B w a0 bs) (hB : B ≤ B') : ArgIn B' w a0 bs := fun h0 => by
  obtain ⟨b, o, e, hlt, hc⟩ := h h0
  exact ⟨b, o, e, by omega, hc⟩
theorem ArgIn.take {B : Nat} {w : World} {a0 : Option Addr} {bs : List UInt8} (h : ArgIn B w a0 bs) (c : Nat) : ArgIn B w a0 (bs.take c) := fun h0 => by
  obtain ⟨b, o, e, hlt, hc⟩ := h (by simp at h0; omega)
  exact ⟨b, o, e, hlt, fun i hi => by simp only [List.getElem_take]; exact hc i (by simp at hi; omega)⟩
theorem ArgIn.drop {B : Nat} {w : World} {b o : Nat} {bs : List UInt8} (h : ArgIn B w (some ⟨b, o, none⟩) bs) (c : Nat) : ArgIn B w (some ⟨b, o + c, none⟩) (bs.drop c) := fun h0 => by
  obtain ⟨b', o', e, hlt, hc⟩ := h (by simp at h0; omega)
  cases e
  refine ⟨b, o + c, rfl, hlt, fun i hi => ?_⟩
  simp only [List.getElem_drop]
  rw [Nat.add_assoc]
  exact hc (c + i) (by simp at hi; omega)

theorem split_out (a0 : Option Addr) (len cap : Nat) (x : Int) (h : 4096 < len) (w : World) :
    Calls Yba.prog 4 #[.slice a0 len cap, .int .u16 x] w fun e w' => e = .returned (.bool true) ∧ Below w.heap.size w w' := by
  have b1 : (4096 : Int) < (len : Int) := by omega
  go_enter Yba.func4, Yba.ntmps4
  go_wp2
  go_ret
  exact ⟨rfl, Below.refl _ _⟩

/-- appendHex, the new length named. -/
theorem hex_at (B n N : Nat) (sv : Value) (xs : List Value) (a0 : Option Addr) (len cap : Nat) (bs : List UInt8) (w : World) (hown : Owns w B sv n xs) (hBw : B ≤ w.heap.size) (hA : ArgIn B w a0 bs) (hl : bs.length = len) (hlen : len ≤ 4096) (hn : n ≤ 100000) (hN : n + 2 * len = N) :
    Calls Yba.prog 5 #[sv, .slice a0 len cap] w fun e w' => ∃ v', e = .returned v' ∧ Ext B w sv n w' v' N (xs ++ Lib.byteCells (hexAll bs)) := by
  subst hN
  exact hex_any B n sv xs a0 len cap bs w hown hBw hA hl hlen hn

set_option maxHeartbeats 3200000 in
set_option maxRecDepth 100000 in
theorem split_pos (b o len cap kk cut N : Nat) (bs : List UInt8) (hl : bs.length = len) (h0 : 0 < len) (hlen : len ≤ 4096) (hcap : len ≤ cap) (hcapm : cap ≤ 9223372036854775807) (hkk : kk < 65536) (hcut : (kk : Int) % ((len : Int) + 1) = (cut : Int)) (hcl : cut ≤ len) (hN : 2 * len = N) (w : World) (hA : ArgIn w.heap.size w (some ⟨b, o, none⟩) bs) :
    Calls Yba.prog 4 #[.slice (some ⟨b, o, none⟩) len cap, .int .u16 (kk : Int)] w fun e w' => e = .returned (.bool true) ∧ Below w.heap.size w w' := by
  have b1 : ¬ ((4096 : Int) < (len : Int)) := by omega
  have HL := Lib.hid hl
  have HN := Lib.hid hN
  clear hl hN
  go_enter Yba.func4, Yba.ntmps4
  go_wp2_with fail
  refine (hex_at w.heap.size 0 N (.slice none 0 0) [] (some ⟨b, o, none⟩) len cap bs w (Owns.nil _ _) (Nat.le_refl _) hA HL.out hlen (by omega) (by have := HN.out; omega)).mono ?_
  rintro e w1 ⟨v1, rfl, hx1⟩
  have hb1 : Below w.heap.size w w1 := hx1.toBelow (Owns.nil _ _) (Nat.le_refl _)
  have hs1 := hb1.size
  rw [List.nil_append] at hx1
  have h1 := hx1.own
  have HV1 := Lib.hid h1
  go_wp2_with fail
  refine (hex_at w.heap.size 0 (2 * cut) (.slice none 0 0) [] (some ⟨b, o, none⟩) cut cap (bs.take cut) w1 (Owns.nil _ _) hs1 ((hA.below hb1).take cut) (by rw [List.length_take, HL.out]; omega) (by omega) (by omega) (by omega)).mono ?_
  rintro e w2 ⟨v2, rfl, hx2⟩
  have h12 : Owns w2 w.heap.size v1 N (Lib.byteCells (hexAll bs)) := hx2.other h1 (.inl (by
    obtain ⟨g, c, rfl, _⟩ := h1.shape (by have := HN.out; omega)
    simp [Value.ownBlock]))
  have hb2 : Below w.heap.size w w2 := hb1.trans (hx2.toBelow (Owns.nil _ _) hs1)
  have hs2 := hb2.size
  rw [List.nil_append] at hx2
  -- the second piece
  have hAd : ∀ p : Option Addr, (p = some ⟨b, o, none⟩ ∧ cap = cut) ∨ p = some ⟨b, o + cut, none⟩ → ArgIn w.heap.size w2 p (bs.drop cut) := by
    intro p hp
    rcases hp with ⟨_, hc⟩ | rfl
    · intro h; simp [HL.out] at h; omega
    · exact (hA.below hb2).drop cut
  have HAD := Lib.hid hAd
  have hcat : hexAll (bs.take cut) ++ hexAll (bs.drop cut) = hexAll bs := by rw [← hexAll_append, List.take_append_drop]
  have HCAT := Lib.hid hcat
  have hne : ((N : Int) != 2 * (len : Int)) = false := by have := HN.out; simp; omega
  have h2 := hx2.own
  have HX2 := Lib.hid hx2
  clear hx1 h1 hx2 hAd hcat
  go_wp2_with fail
  all_goals
    refine (hex_at w.heap.size (2 * cut) N v2 _ _ (len - cut) _ (bs.drop cut) w2 h2 hs2 (HAD.out _ (by first | exact .inr rfl | exact .inl ⟨rfl, ‹_›⟩)) (by rw [List.length_drop, HL.out]) (by omega) (by omega) (by have := HN.out; omega)).mono ?_
    rintro e w3 ⟨v3, rfl, hx3⟩
    have h13 : Owns w3 w.heap.size v1 N (Lib.byteCells (hexAll bs)) := hx3.other h12 (.inl (by
      obtain ⟨g, c, hg, _, hlt, _⟩ := h12.shape (by have := HN.out; omega)
      intro e
      rcases HX2.out.next with h | h
      · rw [h, hg] at e; simp [Value.ownBlock] at e
      · have h5 := h g (by rw [← e, hg]; rfl)
        have h6 := (HV1.out.lt g (by rw [hg]; rfl)).2
        omega))
    have hb3 : Below w.heap.size w w3 := hb2.trans (hx3.toBelow h2 hs2)
    have h23 : Owns w3 w.heap.size v3 N (Lib.byteCells (hexAll bs)) := by
      have := hx3.own
      rw [← HCAT.out]
      simpa [Lib.byteCells] using this
    obtain ⟨g1, c1, rfl, -, -, -⟩ := h13.shape (by have := HN.out; omega)
    obtain ⟨g3, c3, rfl, -, -, -⟩ := h23.shape (by have := HN.out; omega)
    have H13 := Lib.hid h13
    have H23 := Lib.hid h23
    have HB3 := Lib.hid hb3
    clear h13 h23 hb3 hx3 h12 h2 HX2 HAD hb1 hb2 hA
    have hNs : N ≤ 8192 := by have := HN.out; omega
    go_wp2_with fail
    go_loopw [8] (fun iv wr => ∃ k : Nat, k ≤ N ∧ iv = .int .i64 (k : Int) ∧ wr.heap = w3.heap ∧ wr.os = w3.os ∧ wr.tape = w3.tape ∧ wr.output = w3.output) (fun iv _ => N - (intOf iv).toNat)
    case atStart => exact ⟨0, Nat.zero_le _, rfl, rfl, rfl, rfl, rfl⟩
    case round =>
      obtain ⟨k, hk, rfl, r1, r2, r3, r4⟩ := hrel
      have R1 := Lib.hid r1
      have R2 := Lib.hid r2
      have R3 := Lib.hid r3
      have R4 := Lib.hid r4
      clear r1 r2 r3 r4
      by_cases hlt : k < N
      · have hki : (k : Int) < (N : Int) := by omega
        obtain ⟨c, hc⟩ : ∃ c : UInt8, (Lib.byteCells (hexAll bs))[k]? = some (.int .u8 (c.toNat : Int)) := by
          have : k < (hexAll bs).length := by rw [hexAll_length, HL.out, HN.out]; exact hlt
          exact ⟨(hexAll bs)[k], by simp [Lib.byteCells, this]⟩
        have hc1 : wr.cell? ⟨g1, k, none⟩ = some (.int .u8 (c.toNat : Int)) := (H13.out.of_heap R1.out).cells rfl k _ hc
        have hc3 : wr.cell? ⟨g3, k, none⟩ = some (.int .u8 (c.toNat : Int)) := (H23.out.of_heap R1.out).cells rfl k _ hc
        clear hc
        go_wp2_with fail
        go_quiet (fail)
        go_wp2
        go_roundw
        case rel => exact ⟨k + 1, by omega, by go_num, R1.out, R2.out, R3.out, R4.out⟩
        case measure => simp [intOf]; omega
      · go_wp2
        go_ret
        exact ⟨rfl, below_of_heap HB3.out R1.out R2.out R3.out R4.out⟩

theorem ArgIn.nil (B : Nat) (w : World) (a0 : Option Addr) : ArgIn B w a0 [] := fun h => by simp at h

set_option maxHeartbeats 3200000 in
set_option maxRecDepth 100000 in
theorem split_zero (a0 : Option Addr) (cap kk : Nat) (hcapm : cap ≤ 9223372036854775807) (hkk : kk < 65536) (ha : a0 = none → cap = 0) (w : World) :
    Calls Yba.prog 4 #[.slice a0 0 cap, .int .u16 (kk : Int)] w fun e w' => e = .returned (.bool true) ∧ Below w.heap.size w w' := by
  cases a0 with
  | none =>
    obtain rfl := ha rfl
    go_enter Yba.func4, Yba.ntmps4
    go_wp2_with fail
    refine (hex_at w.heap.size 0 0 (.slice none 0 0) [] _ 0 0 [] w (Owns.nil _ _) (Nat.le_refl _) (ArgIn.nil _ _ _) rfl (by omega) (by omega) rfl).mono ?_
    rintro e w1 ⟨v1, rfl, hx1⟩
    have hb1 : Below w.heap.size w w1 := hx1.toBelow (Owns.nil _ _) (Nat.le_refl _)
    obtain ⟨p1, c1, rfl, -⟩ := hx1.own.form
    go_wp2_with fail
    refine (hex_at w.heap.size 0 0 (.slice none 0 0) [] _ 0 _ [] w1 (Owns.nil _ _) hb1.size (ArgIn.nil _ _ _) rfl (by omega) (by omega) rfl).mono ?_
    rintro e w2 ⟨v2, rfl, hx2⟩
    have hb2 : Below w.heap.size w w2 := hb1.trans (hx2.toBelow (Owns.nil _ _) hb1.size)
    have h2 := hx2.own
    go_wp2_with fail
    refine (hex_at w.heap.size 0 0 v2 _ _ 0 _ [] w2 h2 hb2.size (ArgIn.nil _ _ _) rfl (by omega) (by omega) rfl).mono ?_
    rintro e w3 ⟨v3, rfl, hx3⟩
    have hb3 : Below w.heap.size w w3 := hb2.trans (hx3.toBelow h2 hb2.size)
    obtain ⟨p3, c3, rfl, -⟩ := hx3.own.form
    clear hx1 hx2 hx3 h2
    go_wp2_with fail
    refine wp_loop_rounds 1 ?_
    rw [rounds_succ]
    go_wp2
    go_ret
    exact ⟨rfl, hb3⟩
  | some x =>
    go_enter Yba.func4, Yba.ntmps4
    go_wp2_with fail
    refine (hex_at w.heap.size 0 0 (.slice none 0 0) [] _ 0 _ [] w (Owns.nil _ _) (Nat.le_refl _) (ArgIn.nil _ _ _) rfl (by omega) (by omega) rfl).mono ?_
    rintro e w1 ⟨v1, rfl, hx1⟩
    have hb1 : Below w.heap.size w w1 := hx1.toBelow (Owns.nil _ _) (Nat.le_refl _)
    obtain ⟨p1, c1, rfl, -⟩ := hx1.own.form
    go_wp2_with fail
    refine (hex_at w.heap.size 0 0 (.slice none 0 0) [] _ 0 _ [] w1 (Owns.nil _ _) hb1.size (ArgIn.nil _ _ _) rfl (by omega) (by omega) rfl).mono ?_
    rintro e w2 ⟨v2, rfl, hx2⟩
    have hb2 : Below w.heap.size w w2 := hb1.trans (hx2.toBelow (Owns.nil _ _) hb1.size)
    have h2 := hx2.own
    go_wp2_with fail
    all_goals
      refine (hex_at w.heap.size 0 0 v2 _ _ 0 _ [] w2 h2 hb2.size (ArgIn.nil _ _ _) rfl (by omega) (by omega) rfl).mono ?_
      rintro e w3 ⟨v3, rfl, hx3⟩
      have hb3 : Below w.heap.size w w3 := hb2.trans (hx3.toBelow h2 hb2.size)
      obtain ⟨p3, c3, rfl, -⟩ := hx3.own.form
      clear hx1 hx2 hx3 h2
      go_wp2_with fail
      refine wp_loop_rounds 1 ?_
      rw [rounds_succ]
      go_wp2
      go_ret
      exact ⟨rfl, hb3⟩

theorem split_any (a0 : Option Addr) (len cap kk : Nat) (bs : List UInt8) (hl : bs.length = len) (hcap : len ≤ cap) (hcapm : cap ≤ 9223372036854775807) (hkk : kk < 65536) (ha : a0 = none → cap = 0) (w : World) (hA : ArgIn w.heap.size w a0 bs) :
    Calls Yba.prog 4 #[.slice a0 len cap, .int .u16 (kk : Int)] w fun e w' => e = .returned (.bool true) ∧ Below w.heap.size w w' := by
  by_cases h1 : 4096 < len
  · exact split_out a0 len cap _ h1 w
  · by_cases h0 : len = 0
    · subst h0
      exact split_zero a0 cap kk hcapm hkk ha w
    · obtain ⟨b, o, rfl, _⟩ := hA (by omega)
      exact split_pos b o len cap kk (kk % (len + 1)) (2 * len) bs hl (by omega) (by omega) hcap hcapm hkk (by simp) (by have := Nat.mod_lt kk (show 0 < len + 1 by omega); omega) rfl w hA
end Go.Proofs.Ybulkcyfg
