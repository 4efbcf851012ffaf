/- The row of LawS4987AAppendLines. -/
import Derived.Test.YbulkcygiRows
import Derived.Test.YbulkcygiMain
import Derived.Test.YbulkcygiMainE
import Derived.Test.YbulkcygiMainT
import Derived.Deep.Grids
import Derived.WalkKit
import Derived.ProofKit
import Derived.OpenShut
import Derived.ShutString
import Derived.ChangeOld
import Derived.Below
namespace Go.Proofs.Ybulkcygi.lawS4987AAppendLines
open Go.ChangeShapes Go.WideShapes Go.ChangeAt Go.RowKit
open Go.ChangeMaps (open_string shut_string)

theorem own : ownKnob Yba.prog.godebug = none := by kernel_rfl
theorem laidOut : laidOutB Yba.prog = true := by kernel_rfl

theorem u8_of_wf {n : Int} (h : (Lit.int .u8 n).wf = true) : ((UInt8.ofNat n.toNat).toNat : Int) = n := by
  have := bounds_u8 h
  simp; omega
theorem bytes_of_ints {W : World} {x : Addr} {len : Nat} {zs : List Int} (hl : len ≤ zs.length) (hcell : ∀ i, i < zs.length → W.cell? (x.add i) = some (.int .u8 (zs.getD i 0))) (hwf : ∀ n ∈ zs, (Lit.int .u8 n).wf = true) :
    BytesIn W.heap.size W (some x) ((zs.take len).map fun n => UInt8.ofNat n.toNat) := fun h0 => by
  have h0' : 0 < len ∧ 0 < zs.length := by simp at h0; omega
  obtain ⟨b, o, s⟩ := x
  obtain rfl : s = none := by simpa [Addr.add] using World.cell?_spot (hcell 0 h0'.2)
  refine ⟨b, o, rfl, World.block_lt_of_cell? _ _ (hcell 0 h0'.2), fun i hi => ?_⟩
  have hi' : i < len ∧ i < zs.length := by simp at hi; omega
  have := hcell i hi'.2
  rw [Addr.add_lit] at this
  rw [this]
  have e : zs.getD i 0 = zs[i]'hi'.2 := by simp [hi'.2]
  have := u8_of_wf (hwf (zs[i]'hi'.2) (List.getElem_mem _))
  simp only [List.getElem_map, List.getElem_take, e, this]
theorem bools_of {W : World} {x : Addr} {len : Nat} {f : Nat → Bool} (hcell : ∀ i, i < len → W.cell? (x.add i) = some (.bool (f i))) :
    BoolsIn W.heap.size W (some x) ((List.range len).map f) := fun h0 => by
  have h0' : 0 < len := by simpa using h0
  obtain ⟨b, o, s⟩ := x
  obtain rfl : s = none := by simpa [Addr.add] using World.cell?_spot (hcell 0 h0')
  refine ⟨b, o, rfl, World.block_lt_of_cell? _ _ (hcell 0 h0'), fun i hi => ?_⟩
  have hi' : i < len := by simpa using hi
  have := hcell i hi'
  rw [Addr.add_lit] at this
  rw [this]
  simp

set_option maxRecDepth 100000 in
theorem main_big (nm pre : ByteArray) (nOld kk fr r : Int) (pv : Option Addr) (lv cv : Nat) (ph : Option Addr) (lh ch : Nat) (uh : Bool) (w : World) (hb : ¬ (nm.size ≤ 1024 ∧ pre.size ≤ 1024 ∧ lv ≤ 1024 ∧ lh ≤ 1024)) :
    Calls Yba.prog 3 #[.string nm, .string pre, .int .u8 nOld, .int .i8 fr, .int .u8 kk, .int .i8 r, .slice pv lv cv, .slice ph lh ch, .bool uh] w fun e w' => e = .returned (.bool true) ∧ Below w.heap.size w w' := by
  by_cases g1 : (1024 : Int) < (nm.size : Int)
  · go_enter Yba.func3, Yba.ntmps3
    go_wp2
    go_ret
    exact ⟨rfl, Below.refl _ _⟩
  by_cases g2 : (1024 : Int) < (pre.size : Int)
  · go_enter Yba.func3, Yba.ntmps3
    go_wp2
    go_ret
    exact ⟨rfl, Below.refl _ _⟩
  by_cases g3 : (1024 : Int) < (lv : Int)
  · go_enter Yba.func3, Yba.ntmps3
    go_wp2
    go_ret
    exact ⟨rfl, Below.refl _ _⟩
  have g4 : (1024 : Int) < (lh : Int) := by omega
  go_enter Yba.func3, Yba.ntmps3
  go_wp2
  go_ret
  exact ⟨rfl, Below.refl _ _⟩

theorem walk (nm pre : ByteArray) (a2 a3 a4 a5 : Int) (pv : Option Addr) (lv cv : Nat) (bs : List UInt8) (ph : Option Addr) (lh ch : Nat) (hs : List Bool) (uh : Bool) (w : World)
    (w2 : (Lit.int .u8 a2).wf = true) (w3 : (Lit.int .i8 a3).wf = true) (w4 : (Lit.int .u8 a4).wf = true) (w5 : (Lit.int .i8 a5).wf = true) (hlv : bs.length = lv) (hlh : hs.length = lh) (hV : BytesIn w.heap.size w pv bs) (hH : BoolsIn w.heap.size w ph hs) :
    Calls Yba.prog 3 #[.string nm, .string pre, .int .u8 a2, .int .i8 a3, .int .u8 a4, .int .i8 a5, .slice pv lv cv, .slice ph lh ch, .bool uh] w fun e w' => e = .returned (.bool true) ∧ Below w.heap.size w w' := by
  by_cases hb : nm.size ≤ 1024 ∧ pre.size ≤ 1024 ∧ lv ≤ 1024 ∧ lh ≤ 1024
  · obtain ⟨q1, q2, q3, q4⟩ := hb
    have b3 := bounds_i8 w3
    have b5 := bounds_i8 w5
    obtain ⟨n2, rfl, hn2⟩ : ∃ n : Nat, a2 = (n : Int) ∧ n < 256 := ⟨a2.toNat, by have := bounds_u8 w2; omega, by have := bounds_u8 w2; omega⟩
    obtain ⟨n4, rfl, hn4⟩ : ∃ n : Nat, a4 = (n : Int) ∧ n < 256 := ⟨a4.toNat, by have := bounds_u8 w4; omega, by have := bounds_u8 w4; omega⟩
    cases uh with
    | false => exact main_false nm pre n2 n4 (n2 % 8) (n4 % 3) a3 a5 pv lv cv bs ph lh ch hs w q1 q2 hlv q3 hlh q4 hn2 hn4 (by omega) (by omega) (by omega) (by omega) (by omega) (by omega) (by omega) (by omega) hV hH
    | true =>
      by_cases h0 : lh = 0
      · exact main_empty nm pre n2 n4 (n2 % 8) (n4 % 3) a3 a5 pv lv cv bs ph lh ch hs w q1 q2 hlv q3 hlh q4 hn2 hn4 (by omega) (by omega) (by omega) (by omega) (by omega) (by omega) (by omega) (by omega) hV hH h0
      · exact main_true nm pre n2 n4 (n2 % 8) (n4 % 3) a3 a5 pv lv cv bs ph lh ch hs w q1 q2 hlv q3 hlh q4 hn2 hn4 (by omega) (by omega) (by omega) (by omega) (by omega) (by omega) (by omega) (by omega) hV hH (by omega)
  · exact main_big nm pre a2 a4 a3 a5 pv lv cv ph lh ch uh w hb

set_option maxRecDepth 100000 in
theorem lifted (os : Os) (started : os.Started) (H : Type) (enc : TypeId × Value → H) :
    ReturnsInHanded {} Yba.checked os 3 .any (Rows.lawS4987AAppendLinesSpec.pre6 enc Yba.prog Yba.f3 Rows.lawS4987AAppendLinesRow.domain false) (Rows.lawS4987AAppendLinesSpec.post enc Yba.prog Yba.f3 false true false false) := by
  refine returnsInHanded_of_change (C := Yba.checked) own started (by kernel_rfl) Yba.func3
    (ChangeSpec.witness6 (enc := enc) (C := Yba.checked) false ⟨#[], #[.string ByteArray.empty, .string ByteArray.empty, .int .u8 0, .int .i8 0, .int .u8 0, .int .i8 0, .slice none 0 0, .slice none 0 0, .bool false], []⟩ 8 (by kernel_rfl) (by kernel_rfl) (by kernel_rfl) (by kernel_rfl)) ?_
  intro W base args ds gs before hval0 hW hcnd _
  have hval : ∀ (j : Nat) t v, Yba.f3.params[j]? = some t → args[j]? = some v → Value.okWide Yba.prog W .any base t v := hval0
  have hW' := hW
  obtain ⟨p, q, hA0, hV, rfl, hfz, hnd⟩ := hW
  have hA : DataW.TrodAll enc Yba.prog W 0 (fun _ => true) true Yba.f3.params.toList args.toList ds p := hA0
  rw [Yba.params3] at hA hval
  obtain ⟨v0, vs0, d0, ds0, p0, q0, hargs, rfl, rfl, h0, r0⟩ := trodAll_cons hA
  obtain ⟨v1, vs1, d1, ds1, p1, q1, rfl, rfl, rfl, h1, r1⟩ := trodAll_cons r0
  obtain ⟨v2, vs2, d2, ds2, p2, q2, rfl, rfl, rfl, h2, r2⟩ := trodAll_cons r1
  obtain ⟨v3, vs3, d3, ds3, p3, q3, rfl, rfl, rfl, h3, r3⟩ := trodAll_cons r2
  obtain ⟨v4, vs4, d4, ds4, p4, q4, rfl, rfl, rfl, h4, r4⟩ := trodAll_cons r3
  obtain ⟨v5, vs5, d5, ds5, p5, q5, rfl, rfl, rfl, h5, r5⟩ := trodAll_cons r4
  obtain ⟨v6, vs6, d6, ds6, p6, q6, rfl, rfl, rfl, h6, r6⟩ := trodAll_cons r5
  obtain ⟨v7, vs7, d7, ds7, p7, q7, rfl, rfl, rfl, h7, r7⟩ := trodAll_cons r6
  obtain ⟨v8, vs8, d8, ds8, p8, q8, rfl, rfl, rfl, h8, r8⟩ := trodAll_cons r7
  obtain ⟨rfl, rfl, rfl⟩ := trodAll_nil r8
  obtain rfl : args = #[v0, v1, v2, v3, v4, v5, v6, v7, v8] := by cases args; simp_all
  obtain ⟨rfl, rfl⟩ := trodVars_none hV
  obtain ⟨s0, rfl, rfl, rfl, ws0⟩ := open_string Yba.underlying9 (hval 0 9 v0 rfl rfl) h0
  obtain ⟨s1, rfl, rfl, rfl, ws1⟩ := open_string Yba.underlying9 (hval 1 9 v1 rfl rfl) h1
  obtain ⟨a2, rfl, rfl, rfl, w2⟩ := open_int Yba.underlying5 (hval 2 5 v2 rfl rfl) h2
  obtain ⟨a3, rfl, rfl, rfl, w3⟩ := open_int Yba.underlying22 (hval 3 22 v3 rfl rfl) h3
  obtain ⟨a4, rfl, rfl, rfl, w4⟩ := open_int Yba.underlying5 (hval 4 5 v4 rfl rfl) h4
  obtain ⟨a5, rfl, rfl, rfl, w5⟩ := open_int Yba.underlying22 (hval 5 22 v5 rfl rfl) h5
  obtain ⟨a6, len6, cap6, rfl⟩ := okWide_slice Yba.underlying23 (hval 6 23 v6 rfl rfl)
  obtain ⟨a7, len7, cap7, rfl⟩ := okWide_slice Yba.underlying24 (hval 7 24 v7 rfl rfl)
  obtain ⟨b8, rfl, rfl, rfl⟩ := open_bool Yba.underlying4 (hval 8 4 v8 rfl rfl) h8
  have k6 := h6
  have lt6 : ∀ x ∈ p6, x.block < W.heap.size := by obtain ⟨m, hm⟩ := k6; exact DataW.trod_lt m _ _ _ hm
  have k7 := h7
  have lt7 : ∀ x ∈ p7, x.block < W.heap.size := by obtain ⟨m, hm⟩ := k7; exact DataW.trod_lt m _ _ _ hm
  obtain ⟨bs, hbl, hB⟩ : ∃ bs : List UInt8, bs.length = len6 ∧ BytesIn W.heap.size W a6 bs := by
    obtain ⟨fuel, hf⟩ := h6
    rcases open_ints Yba.underlying23 Yba.underlying5 (by kernel_rfl) hf with ⟨hcs, _⟩ | ⟨x, l, c, zs, hcs, _, hl, hm, hz, _, hcell, hwz⟩
    · simp [Value.cells] at hcs
      obtain ⟨rfl, rfl, rfl⟩ := hcs
      exact ⟨[], rfl, fun h => by simp at h⟩
    · simp [Value.cells] at hcs
      obtain ⟨rfl, rfl, rfl⟩ := hcs
      have hz' : zs.length = cap6 := by simpa using hz
      exact ⟨(zs.take len6).map fun n => UInt8.ofNat n.toNat, by simp; omega, bytes_of_ints (by omega) hcell hwz⟩
  obtain ⟨hs, hhl, hH⟩ : ∃ hs : List Bool, hs.length = len7 ∧ BoolsIn W.heap.size W a7 hs := by
    obtain ⟨fuel, hf⟩ := h7
    rcases Go.Deep.open_bools Yba.underlying24 Yba.underlying4 (by kernel_rfl) hf with ⟨hcs, _⟩ | ⟨x, l, c, f, hcs, _, hl, hm, _, hcell⟩
    · simp [Value.cells] at hcs
      obtain ⟨rfl, rfl, rfl⟩ := hcs
      exact ⟨[], rfl, fun h => by simp at h⟩
    · simp [Value.cells] at hcs
      obtain ⟨rfl, rfl, rfl⟩ := hcs
      exact ⟨(List.range len7).map f, by simp, bools_of (fun i hi => hcell i (by omega))⟩
  clear hA0 hval0
  refine (walk s0 s1 a2 a3 a4 a5 a6 len6 cap6 bs a7 len7 cap7 hs b8 W w2 w3 w4 w5 hbl hhl hB hH).mono fun e W' ⟨he, bel⟩ => ?_
  subst he
  exact ⟨_, rfl, _, _, _, [], _, [], hW', trodAll_mk1 (shut_bool Yba.underlying4 _), (trodAll_cons_mk (shut_string Yba.underlying9 ws0) (trodAll_cons_mk (shut_string Yba.underlying9 ws1) (trodAll_cons_mk (shut_int Yba.underlying5 w2) (trodAll_cons_mk (shut_int Yba.underlying22 w3) (trodAll_cons_mk (shut_int Yba.underlying5 w4) (trodAll_cons_mk (shut_int Yba.underlying22 w5) (trodAll_cons_mk (Below.trod laidOut (by kernel_rfl) (of_decide_eq_true (by kernel_rfl)) k6 bel lt6) (trodAll_cons_mk (Below.trod laidOut (by kernel_rfl) (of_decide_eq_true (by kernel_rfl)) k7 bel lt7) (trodAll_cons_mk (shut_bool Yba.underlying4 _) trodAll_mk0))))))))), rfl, bel.frame _, fun h => by cases h⟩

theorem over : Rows.lawS4987AAppendLinesRow.holds Yba.pinned (OpenSpec.ofChange Rows.lawS4987AAppendLinesSpec) :=
  OpenClaim.holds_of_wide 3 Yba.f3 rfl rfl rfl rfl rfl rfl rfl ⟨rfl, rfl, rfl, rfl, rfl⟩ rfl rfl rfl rfl rfl (by kernel_rfl) Yba.func3 (by kernel_rfl)
    (of_decide_eq_true (by kernel_rfl)) (by unfold Func.isWrapper; first | (rw [if_pos (by decide +kernel)]; kernel_rfl) | (rw [if_neg (by decide +kernel)]; exact ⟨rfl, rfl⟩))
    (fun os started H enc _ => lifted os started H enc)
end Go.Proofs.Ybulkcygi.lawS4987AAppendLines
namespace Go.Proofs.Ybulkcygi
theorem lawS4987AAppendLines_proved : Rows.LawS4987AAppendLinesSaid := lawS4987AAppendLines.over
end Go.Proofs.Ybulkcygi
