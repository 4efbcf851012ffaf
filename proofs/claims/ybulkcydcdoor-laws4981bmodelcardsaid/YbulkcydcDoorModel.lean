/- The row and the card of LawS4981BModel. -/
import Derived.Test.YbulkcydcDoorModelWalks
import Derived.Test.YbulkcydcDoorTie
import Derived.Test.YbulkcydcDoorCards
import Derived.ProofKit
import Derived.LaidMore
import Derived.OpenShut
import Derived.OpenVars
import Derived.Below
import Derived.Stop.Joined
namespace Go.Proofs.YbulkcydcDoor.Model
open Go.ChangeShapes Go.WideShapes Go.ChangeAt Go.WideMaps Go.WideElems Go.RowKit

theorem own : ownKnob Ybad.prog.godebug = none := by kernel_rfl
theorem laidOut : laidOutB Ybad.prog = true := by kernel_rfl
theorem gUnits : Ybad.prog.globalNamed (Rows.lawS4981BModelRow.named.getD 0 "") = some 0 := by kernel_rfl
theorem tUnits : (Ybad.prog.globals[0]?).map (·.type) = some 31 := by kernel_rfl
theorem c30 : Ybad.prog.cellsOf 30 = 1 := by kernel_rfl
theorem c31 : Ybad.prog.cellsOf 31 = 7 := by kernel_rfl

/-- The heap that the door's own run leaves meets the condition. -/
theorem door_met (os : Os) (args : Array Value) : laidMetH Ybad.prog Rows.lawS4981BModelRow.laid ((World.doorLaid Ybad.prog 400 os).forCall (fun _ _ => 0) ⟨#[], args, []⟩).memory :=
  laidMetH_of_parts3 (fuel := 8) (laidMet_of_run' 8 (by kernel_rfl) (by kernel_rfl)) (by kernel_rfl) (by kernel_rfl)

theorem str_at {P : Program} {H : Type} {enc : TypeId × Value → H} {w : World} {base : Nat} {sp : Nat → Bool} {held : Bool} {m : Nat} {t : TypeId} {c : Value} {x : DataW H × List MemPlace} {l : List UInt8}
    (ht : P.underlying t = some .string) (h : DataW.trod enc P w base sp held m t [c] = some x) (hx : x.1 = .lit (.string l)) : c = .string ⟨l.toArray⟩ := by
  obtain ⟨s, e1, rfl, _⟩ := DataW.trod_string ht h
  simp only [List.cons.injEq, and_true] at e1
  subst e1
  simp only [DataW.lit.injEq, Lit.string.injEq] at hx
  subst hx
  rfl

/-- What the condition gives the walk: the variable's block. -/
theorem of_laid {W : World} (h : laidMetH Ybad.prog Rows.lawS4981BModelRow.laid W) : ∃ t fr, W.heap[0]? = some (.cells #[.string u0, .string u1, .string u2, .string u3, .string u4, .string u5, .string u6] t fr) := by
  rw [MakeChecks.laidMetH_plain _ _ _ (by kernel_rfl)] at h
  obtain ⟨ps, ⟨g0, t0, cs0, f0, p0, q0, hg0, ht0, hv0, hd0, _, _⟩, _, _⟩ := h
  obtain rfl := Option.some.inj (gUnits.symm.trans hg0)
  obtain rfl := Option.some.inj (tUnits.symm.trans ht0)
  obtain ⟨xs, m1, rfl, hx1, hlen, hn, hel⟩ := DataW.trod_array Ybad.underlying31 hd0
  rw [c31] at hlen
  simp only [c30, Nat.mul_one] at hel
  simp only [Prod.mk.injEq, Rows.laid_example_com_tickspan_tickspan_internal_labeled_Units, DataW.agg.injEq] at hx1
  have hcs : cs0 = #[.string u0, .string u1, .string u2, .string u3, .string u4, .string u5, .string u6] := by
    obtain ⟨l⟩ := cs0
    simp only at hlen hel
    match l, hlen, hel with
    | [c0, c1, c2, c3, c4, c5, c6], _, hel =>
      match xs, hn, hx1, hel with
      | [x0, x1, x2, x3, x4, x5, x6], _, hx1, hel =>
        simp only [List.map_cons, List.map_nil, List.cons.injEq, and_true] at hx1
        obtain ⟨⟨a0, a1, a2, a3, a4, a5, a6⟩, _⟩ := hx1
        obtain rfl := str_at Ybad.underlying30 (hel 0 (by decide)) a0.symm
        obtain rfl := str_at Ybad.underlying30 (hel 1 (by decide)) a1.symm
        obtain rfl := str_at Ybad.underlying30 (hel 2 (by decide)) a2.symm
        obtain rfl := str_at Ybad.underlying30 (hel 3 (by decide)) a3.symm
        obtain rfl := str_at Ybad.underlying30 (hel 4 (by decide)) a4.symm
        obtain rfl := str_at Ybad.underlying30 (hel 5 (by decide)) a5.symm
        obtain rfl := str_at Ybad.underlying30 (hel 6 (by decide)) a6.symm
        rfl
  subst hcs
  unfold World.var? at hv0
  rw [hg0, Option.bind_some] at hv0
  split at hv0
  · rename_i cs t fr hh
    obtain rfl := Option.some.inj hv0
    exact ⟨t, fr, hh⟩
  · cases hv0

set_option maxRecDepth 100000 in
theorem lifted (os : Os) (started : os.Started) (H : Type) (enc : TypeId × Value → H) :
    ReturnsInHanded {} Ybad.checked os 5 .any (fun w args => (Rows.lawS4981BModelSpec.pre enc Ybad.prog Ybad.f5 [] false w args ∧ laidMetH Ybad.prog Rows.lawS4981BModelRow.laid w) ∧ sizedMet enc Ybad.prog Ybad.f5 (OpenSpec.ofChange Rows.lawS4981BModelSpec) false w args)
      (Rows.lawS4981BModelSpec.post enc Ybad.prog Ybad.f5 false true false false) := by
  refine returnsInHanded_of_change_and (C := Ybad.checked) (X := fun w _ => laidMetH Ybad.prog Rows.lawS4981BModelRow.laid w) (fun _ _ _ hh h => h.of_heap hh) own started (by kernel_rfl) Ybad.func5
    (ChangeSpec.witness_shaped (enc := enc) (C := Ybad.checked) (os := os) (X := fun w _ => laidMetH Ybad.prog Rows.lawS4981BModelRow.laid w) false (World.doorLaid Ybad.prog 400 os) #[] 8 rfl (World.shaped_of_RefB (by kernel_rfl) (by kernel_rfl)) (by kernel_rfl) (by kernel_rfl) (by kernel_rfl) (door_met os _)) ?_
  intro W base args ds gs before hval0 hW _ _ hL _
  have hW' := hW
  obtain ⟨p, q, hA0, hV, rfl, hfz, hnd⟩ := hW
  have hA : DataW.TrodAll enc Ybad.prog W 0 (fun _ => true) true Ybad.f5.params.toList args.toList ds p := hA0
  rw [Ybad.params5] at hA
  obtain ⟨rfl, rfl, rfl⟩ := trodAll_none hA
  obtain ⟨t, fr, hg⟩ := of_laid hL
  obtain ⟨g, t', cs, fuel, d, pd, rfl, k1, k2, k3, k4, rfl⟩ := trodVars_one hV
  clear hA0 hval0
  refine (model_any W fr t hg).mono fun e W' ⟨he, bel⟩ => ?_
  subst he
  exact ⟨_, rfl, _, _, _, [], [], _, hW', trodAll_mk1 (shut_bool Ybad.underlying4 _), trodAll_mk0, Below.trodVars laidOut bel (by kernel_rfl) hV, bel.frame _, fun h => by cases h⟩

theorem row_holds : Rows.LawS4981BModelSaid :=
  OpenClaim.holds_of_wide 5 Ybad.f5 rfl rfl rfl rfl rfl rfl rfl ⟨rfl, rfl, rfl, rfl, rfl⟩ rfl rfl rfl rfl rfl (by kernel_rfl) Ybad.func5 (by kernel_rfl)
    (of_decide_eq_true (by kernel_rfl)) (by unfold Func.isWrapper; first | (rw [if_pos (by decide +kernel)]; kernel_rfl) | (rw [if_neg (by decide +kernel)]; exact ⟨rfl, rfl⟩))
    (fun os started H enc _ => lifted os started H enc)

theorem card_holds : Rows.LawS4981BModelCardSaid :=
  Claim7.holds_tied_plain_at .later [] [.data] true (true, "6876f6bebee3ca63412c78c9310b98512721c7132aa59e5390aff7b98fa41728") false
    row_holds (fun _ h => by cases h) (by kernel_rfl) (fun _ h => by cases h) lawS4981BModel_row_tie rfl ⟨rfl, rfl⟩ (by kernel_rfl) rfl
    (fun f fn hf hfn => by
      obtain rfl : f = 5 := Option.some.inj ((show Ybad.prog.funcNamed Rows.lawS4981BModelRow.func = some 5 by kernel_rfl).symm.trans hf) |>.symm
      obtain rfl : fn = Ybad.f5 := (Option.some.inj (Ybad.func5.symm.trans hfn)).symm
      exact ⟨by kernel_rfl, fun j t ht => by
        rw [Ybad.params5] at ht
        simp at ht⟩)
    (by kernel_rfl)
end Go.Proofs.YbulkcydcDoor.Model
namespace Go.Proofs.YbulkcydcDoor
theorem lawS4981BModel_card : Rows.LawS4981BModelCardSaid := Model.card_holds
end Go.Proofs.YbulkcydcDoor
