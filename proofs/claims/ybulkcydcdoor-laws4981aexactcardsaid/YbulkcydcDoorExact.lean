/- The row and the card of LawS4981AExact. -/
import Derived.Test.YbulkcydcDoorLaid
import Derived.Test.YbulkcydcDoorExactWalks
import Derived.Test.YbulkcydcDoorTie
import Derived.Test.YbulkcydcDoorCards
namespace Go.Proofs.YbulkcydcDoor.Exact
open Go.ChangeShapes Go.WideShapes Go.ChangeAt Go.WideMaps Go.WideElems Go.RowKit

theorem u8_of_wf {n : Int} (h : (Lit.int .u8 n).wf = true) : ((UInt8.ofNat n.toNat).toNat : Int) = n := by
  have := bounds_u8 h
  simp; omega

/-- A slice of bytes that came in, as the walk wants it. -/
theorem arg_of_ints {W : World} {x : Addr} {len : Nat} {zs : List Int} (hl : len ≤ zs.length) (hcell : ∀ i, i < zs.length → W.cell? (x.add i) = some (.int .u8 (zs.getD i 0))) (hwf : ∀ n ∈ zs, (Lit.int .u8 n).wf = true) :
    ArgIn W (some x) ((zs.take len).map fun n => UInt8.ofNat n.toNat) := fun h0 => by
  have h0' : 0 < len ∧ 0 < zs.length := by simp at h0; omega
  obtain ⟨b, o, s⟩ := x
  obtain rfl : s = none := by simpa [Addr.add] using World.cell?_spot (hcell 0 h0'.2)
  refine ⟨b, o, rfl, World.block_lt_of_cell? _ _ (hcell 0 h0'.2), fun i hi => ?_⟩
  have hi' : i < len ∧ i < zs.length := by simp at hi; omega
  have := hcell i hi'.2
  rw [Addr.add_lit] at this
  rw [this]
  have e : zs.getD i 0 = zs[i]'hi'.2 := by simp [hi'.2]
  have := u8_of_wf (hwf (zs[i]'hi'.2) (List.getElem_mem _))
  simp only [List.getElem_map, List.getElem_take, e, this]

set_option maxRecDepth 100000 in
theorem lifted (os : Os) (started : os.Started) (H : Type) (enc : TypeId × Value → H) :
    ReturnsInHanded {} Ybad.checked os 3 .any (fun w args => (Rows.lawS4981AExactSpec.pre enc Ybad.prog Ybad.f3 [] false w args ∧ laidMetH Ybad.prog Rows.lawS4981AExactRow.laid w) ∧ sizedMet enc Ybad.prog Ybad.f3 (OpenSpec.ofChange Rows.lawS4981AExactSpec) false w args)
      (Rows.lawS4981AExactSpec.post enc Ybad.prog Ybad.f3 false true false false) := by
  refine returnsInHanded_of_change_and (C := Ybad.checked) (X := fun w _ => laidMetH Ybad.prog Rows.lawS4981AExactRow.laid w) (fun _ _ _ hh h => h.of_heap hh) Laid.own started (by kernel_rfl) Ybad.func3
    (ChangeSpec.witness_shaped (enc := enc) (C := Ybad.checked) (os := os) (X := fun w _ => laidMetH Ybad.prog Rows.lawS4981AExactRow.laid w) false (World.doorLaid Ybad.prog 400 os) #[.slice none 0 0, .int .i64 0] 8 rfl (World.shaped_of_RefB (by kernel_rfl) (by kernel_rfl)) (by kernel_rfl) (by kernel_rfl) (by kernel_rfl) (Laid.door_met os _)) ?_
  intro W base args ds gs before hval0 hW _ _ hL _
  have hval : ∀ (j : Nat) t v, Ybad.f3.params[j]? = some t → args[j]? = some v → Value.okWide Ybad.prog W .any base t v := hval0
  have hW' := hW
  obtain ⟨p, q, hA0, hV, rfl, hfz, hnd⟩ := hW
  have hA : DataW.TrodAll enc Ybad.prog W 0 (fun _ => true) true Ybad.f3.params.toList args.toList ds p := hA0
  rw [Ybad.params3] at hA hval
  obtain ⟨v0, vs0, d0, ds0, p0, q0, hargs, rfl, rfl, h0, r0⟩ := trodAll_cons hA
  obtain ⟨v1, vs1, d1, ds1, p1, q1, rfl, rfl, rfl, h1, r1⟩ := trodAll_cons r0
  obtain ⟨rfl, rfl, rfl⟩ := trodAll_nil r1
  obtain rfl : args = #[v0, v1] := by cases args; simp_all
  obtain ⟨a0, len0, cap0, rfl⟩ := okWide_slice Ybad.underlying22 (hval 0 22 v0 rfl rfl)
  have k0 := h0
  have lt0 : ∀ x ∈ p0, x.block < W.heap.size := by obtain ⟨m, hm⟩ := k0; exact DataW.trod_lt m _ _ _ hm
  obtain ⟨bs, hbl, hAI⟩ : ∃ bs : List UInt8, bs.length = len0 ∧ ArgIn W a0 bs := by
    obtain ⟨fuel, hf⟩ := h0
    rcases open_ints Ybad.underlying22 Ybad.underlying5 (by kernel_rfl) hf with ⟨hcs, _⟩ | ⟨x, l, c, zs, hcs, _, hl, hm, hz, _, hcell, hwz⟩
    · simp [Value.cells] at hcs
      obtain ⟨rfl, rfl, rfl⟩ := hcs
      exact ⟨[], rfl, fun h => by simp at h⟩
    · simp [Value.cells] at hcs
      obtain ⟨rfl, rfl, rfl⟩ := hcs
      have hz' : zs.length = cap0 := by simpa using hz
      exact ⟨(zs.take len0).map fun n => UInt8.ofNat n.toNat, by simp; omega, arg_of_ints (by omega) hcell hwz⟩
  obtain ⟨x, rfl, rfl, rfl, wx⟩ := open_int Ybad.underlying3 (hval 1 3 v1 rfl rfl) h1
  obtain ⟨hw, ht, k1, k2⟩ := Laid.of_laid hL
  clear hA0 hval0
  refine (exact_any a0 len0 cap0 x bs hbl W hAI hw ht k1 k2).mono fun e W' ⟨he, bel⟩ => ?_
  subst he
  obtain ⟨g, t', cs, fuel, d, pd, rfl, l1, l2, l3, l4, rfl⟩ := trodVars_one hV
  exact ⟨_, rfl, _, _, _, [], _, _, hW', trodAll_mk1 (shut_bool Ybad.underlying4 _), (trodAll_cons_mk (Below.trod Laid.laidOut (by kernel_rfl) (of_decide_eq_true (by kernel_rfl)) k0 bel lt0) (trodAll_cons_mk (shut_int Ybad.underlying3 wx) trodAll_mk0)), Below.trodVars Laid.laidOut bel (by kernel_rfl) hV, bel.frame _, fun h => by cases h⟩

theorem row_holds : Rows.LawS4981AExactSaid :=
  OpenClaim.holds_of_wide 3 Ybad.f3 rfl rfl rfl rfl rfl rfl rfl ⟨rfl, rfl, rfl, rfl, rfl⟩ rfl rfl rfl rfl rfl (by kernel_rfl) Ybad.func3 (by kernel_rfl)
    (of_decide_eq_true (by kernel_rfl)) (by unfold Func.isWrapper; first | (rw [if_pos (by decide +kernel)]; kernel_rfl) | (rw [if_neg (by decide +kernel)]; exact ⟨rfl, rfl⟩))
    (fun os started H enc _ => lifted os started H enc)

theorem card_holds : Rows.LawS4981AExactCardSaid :=
  Claim7.holds_tied_plain_at .later [] [.data, .data, .data, .widerDeep] true (true, "6876f6bebee3ca63412c78c9310b98512721c7132aa59e5390aff7b98fa41728") false
    row_holds (fun _ h => by cases h) (by kernel_rfl) (fun _ h => by cases h) lawS4981AExact_row_tie rfl ⟨rfl, rfl⟩ (by kernel_rfl) rfl
    (fun f fn hf hfn => by
      obtain rfl : f = 3 := Option.some.inj ((show Ybad.prog.funcNamed Rows.lawS4981AExactRow.func = some 3 by kernel_rfl).symm.trans hf) |>.symm
      obtain rfl : fn = Ybad.f3 := (Option.some.inj (Ybad.func3.symm.trans hfn)).symm
      exact ⟨by kernel_rfl, fun j t ht => by
        rw [Ybad.params3] at ht
        have hm : t ∈ [22, 3] := by simpa using Array.mem_of_getElem? ht
        have hall : ([22, 3].all fun u => !Ybad.prog.wantsStandIn u) = true := by kernel_rfl
        exact (show Ybad.prog.wantsStandIn t = false by simpa using List.all_eq_true.1 hall t hm)⟩)
    (by kernel_rfl)
end Go.Proofs.YbulkcydcDoor.Exact
namespace Go.Proofs.YbulkcydcDoor
theorem lawS4981AExact_card : Rows.LawS4981AExactCardSaid := Exact.card_holds
end Go.Proofs.YbulkcydcDoor
