/- What the condition of the two zone rows gives the walks. -/
import Derived.Test.YbulkcydcDoorSignWalks
import Derived.ProofKit
import Derived.LaidMore
import Derived.OpenShut
import Derived.OpenVars
import Derived.Stop.Joined
import Derived.Deep.Strs
namespace Go.Proofs.YbulkcydcDoor.Laid
open Go.ChangeShapes Go.WideShapes Go.ChangeAt Go.WideMaps Go.WideElems Go.RowKit

theorem own : ownKnob Ybad.prog.godebug = none := by kernel_rfl
theorem laidOut : laidOutB Ybad.prog = true := by kernel_rfl
theorem gLay : Ybad.prog.globalNamed (Rows.lawS4981ASignRow.named.getD 0 "") = some 1 := by kernel_rfl
theorem g32 : Ybad.prog.globalNamed (Rows.lawS4981ASignRow.named.getD 2 "") = some 4 := by kernel_rfl
theorem g64 : Ybad.prog.globalNamed (Rows.lawS4981ASignRow.named.getD 3 "") = some 5 := by kernel_rfl
theorem tLay : (Ybad.prog.globals[1]?).map (·.type) = some 38 := by kernel_rfl
theorem tPow : (Ybad.prog.globals[3]?).map (·.type) = some 65 := by kernel_rfl
theorem c5 : Ybad.prog.cellsOf 5 = 1 := by kernel_rfl
theorem c9 : Ybad.prog.cellsOf 9 = 1 := by kernel_rfl
theorem c24 : Ybad.prog.cellsOf 24 = 1 := by kernel_rfl
theorem c38 : Ybad.prog.cellsOf 38 = 3 := by kernel_rfl
theorem c65 : Ybad.prog.cellsOf 65 = 20 := by kernel_rfl

/-- The heap that the door's own run leaves meets the condition. -/
theorem door_met (os : Os) (args : Array Value) : laidMetH Ybad.prog Rows.lawS4981ASignRow.laid ((World.doorLaid Ybad.prog 400 os).forCall (fun _ _ => 0) ⟨#[], args, []⟩).memory :=
  laidMetH_of_parts3 (fuel := 8) (laidMet_of_run' 8 (by kernel_rfl) (by kernel_rfl)) (by kernel_rfl) (by kernel_rfl)

theorem var_block {P : Program} {W : World} {n : String} {g : Nat} {cs : Array Value} (hg : P.globalNamed n = some g) (h : W.var? P n = some cs) : ∃ t fr, W.heap[g]? = some (.cells cs t fr) := by
  unfold World.var? at h
  rw [hg, Option.bind_some] at h
  split at h
  · rename_i c t fr hh
    obtain rfl := Option.some.inj h
    exact ⟨t, fr, hh⟩
  · cases h

theorem of_laid {W : World} (h : laidMetH Ybad.prog Rows.lawS4981ASignRow.laid W) : 5 < W.heap.size ∧ Tab W ∧ W.cell? ⟨1, 1, none⟩ = some (.int .u8 58) ∧ W.cell? ⟨1, 2, none⟩ = some (.string ⟨#[122, 77]⟩) := by
  rw [MakeChecks.laidMetH_plain _ _ _ (by kernel_rfl)] at h
  obtain ⟨ps, ⟨g0, t0, cs0, f0, p0, q0, hg0, ht0, hv0, hd0, ⟨g1, t1, cs1, f1, p1, q1, hg1, ht1, hv1, hd1, ⟨g2, t2, cs2, f2, p2, q2, hg2, ht2, hv2, hd2, ⟨g3, t3, cs3, f3, p3, q3, hg3, ht3, hv3, hd3, _, _⟩, _⟩, _⟩, _⟩, _, _⟩ := h
  obtain rfl := Option.some.inj (g64.symm.trans hg1)
  obtain rfl := Option.some.inj (gPow.symm.trans hg2)
  obtain rfl := Option.some.inj (gLay.symm.trans hg3)
  obtain rfl := Option.some.inj (tPow.symm.trans ht2)
  obtain rfl := Option.some.inj (tLay.symm.trans ht3)
  refine ⟨?_, ?_, ?_⟩
  · obtain ⟨_, _, hh⟩ := var_block hg1 hv1
    exact (Array.getElem?_eq_some_iff.1 hh).1
  · show W.var? Ybad.prog _ = _
    have := Lib.cells_of_tab (k := .u64) (zs := Lib.pow10Tab) Ybad.underlying65 Ybad.underlying24 c24 c65 hd2
    rw [← this]
    exact hv2
  · obtain ⟨y0, y1, y2, n, hx, hl, e0, e1, e2⟩ := Deep.trod_struct3 Ybad.underlying38 hd3
    rw [c38] at hl
    simp only [Prod.mk.injEq, Rows.laid_example_com_tickspan_tickspan_zoneLayout, DataW.agg.injEq, List.cons.injEq, and_true] at hx
    obtain ⟨⟨a0, a1, a2⟩, _⟩ := hx
    obtain ⟨l⟩ := cs3
    simp only at hl e0 e1 e2
    match l, hl, e1, e2 with
    | [x0, x1, x2], _, e1, e2 =>
      rw [c5] at e1
      rw [c9] at e2
      obtain ⟨k, h1, rfl, _⟩ := DataW.trod_int Ybad.underlying5 e1
      obtain ⟨s, h2, rfl, _⟩ := DataW.trod_string Ybad.underlying9 e2
      simp only [List.drop_succ_cons, List.drop_zero, List.take_succ_cons, List.take_zero, List.cons.injEq, and_true] at h1 h2
      subst h1 h2
      simp only [DataW.lit.injEq, Lit.int.injEq, Lit.string.injEq, true_and] at a1 a2
      subst a1
      have hs : s = ⟨#[122, 77]⟩ := by apply ByteArray.ext; apply Array.ext'; rw [← a2]
      subst hs
      obtain ⟨t, fr, hh⟩ := var_block hg3 hv3
      exact ⟨by simp [World.cell?, hh], by simp [World.cell?, hh]⟩
end Go.Proofs.YbulkcydcDoor.Laid
