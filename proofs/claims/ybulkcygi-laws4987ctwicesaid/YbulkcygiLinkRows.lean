/- The rows of LawS4987CClose and LawS4987CTwice. -/
import Derived.Test.YbulkcygiRows
import Derived.Test.YbulkcygiLink
import Derived.ProofKit
import Derived.OpenShut
import Derived.ChangeOld
import Derived.ChangeArms
import Derived.Below
namespace Go.Proofs.Ybulkcygi.link
open Go.ChangeShapes Go.WideShapes Go.ChangeAt Go.RowKit

theorem own : ownKnob Yba.prog.godebug = none := by kernel_rfl
theorem laidOut : laidOutB Yba.prog = true := by kernel_rfl
theorem array11 {α : Type} {cs : Array α} (h : cs.size = 11) : ∃ c0 c1 c2 c3 c4 c5 c6 c7 c8 c9 c10, cs = #[c0, c1, c2, c3, c4, c5, c6, c7, c8, c9, c10] := by
  obtain ⟨l⟩ := cs
  match l, h with
  | [c0, c1, c2, c3, c4, c5, c6, c7, c8, c9, c10], _ => exact ⟨c0, c1, c2, c3, c4, c5, c6, c7, c8, c9, c10, rfl⟩
theorem cells4 : Yba.prog.cellsOf 4 = 1 := by kernel_rfl
theorem cells45 : Yba.prog.cellsOf 45 = 1 := by kernel_rfl
theorem cells2 : Yba.prog.cellsOf 2 = 1 := by kernel_rfl
theorem cells47 : Yba.prog.cellsOf 47 = 11 := by kernel_rfl
set_option maxRecDepth 100000 in
theorem open_state {H : Type} {enc : TypeId × Value → H} {W : World} {r : Reach} {b0 base : Nat} {spare : Nat → Bool} {held : Bool} {v : Value} {d : DataW H} {p : List MemPlace} (hv : Value.okWide Yba.prog W r b0 47 v) (h : DataW.Trod enc Yba.prog W base spare held 47 v d p) :
    ∃ (ho hi cl oe ie : Bool) (bd ct oi ii ln tk : Int), v = .agg #[.bool ho, .bool hi, .bool cl, .int .u64 bd, .int .u64 ct, .int .u64 oi, .int .u64 ii, .bool oe, .bool ie, .int .i64 ln, .int .i64 tk] := by
  obtain ⟨cs, rfl, hsz⟩ := okWide_struct Yba.underlying47 hv
  obtain ⟨c0, c1, c2, c3, c4, c5, c6, c7, c8, c9, c10, rfl⟩ := array11 (hsz.trans cells47)
  obtain ⟨fuel, hf⟩ := h
  obtain ⟨xs, n, _, _, _, hlen, hfs⟩ := DataW.trod_struct Yba.underlying47 hf
  have g : ∀ (i : Nat) (f : Field), _ = some f → ∃ y, DataW.trod enc Yba.prog W base spare held n f.type (((Value.agg #[c0, c1, c2, c3, c4, c5, c6, c7, c8, c9, c10]).cells.toList.drop f.offset).take (Yba.prog.cellsOf f.type)) = some y := fun i f hf' => by
    have h1 := hfs i f hf'
    have hi : i < xs.length := by rw [hlen]; exact (Array.getElem?_eq_some_iff.1 hf').1
    exact ⟨xs[i], h1.trans (List.getElem?_eq_getElem hi)⟩
  obtain ⟨y0, h0⟩ := g 0 _ rfl
  obtain ⟨ho, e0, _⟩ := DataW.trod_bool Yba.underlying4 h0
  have q0 : c0 = .bool ho := by simpa [Value.cells, cells4] using e0
  obtain ⟨y1, h1⟩ := g 1 _ rfl
  obtain ⟨hi, e1, _⟩ := DataW.trod_bool Yba.underlying4 h1
  have q1 : c1 = .bool hi := by simpa [Value.cells, cells4] using e1
  obtain ⟨y2, h2⟩ := g 2 _ rfl
  obtain ⟨cl, e2, _⟩ := DataW.trod_bool Yba.underlying4 h2
  have q2 : c2 = .bool cl := by simpa [Value.cells, cells4] using e2
  obtain ⟨y3, h3⟩ := g 3 _ rfl
  obtain ⟨bd, e3, _⟩ := DataW.trod_int Yba.underlying45 h3
  have q3 : c3 = .int .u64 bd := by simpa [Value.cells, cells45] using e3
  obtain ⟨y4, h4⟩ := g 4 _ rfl
  obtain ⟨ct, e4, _⟩ := DataW.trod_int Yba.underlying45 h4
  have q4 : c4 = .int .u64 ct := by simpa [Value.cells, cells45] using e4
  obtain ⟨y5, h5⟩ := g 5 _ rfl
  obtain ⟨oi, e5, _⟩ := DataW.trod_int Yba.underlying45 h5
  have q5 : c5 = .int .u64 oi := by simpa [Value.cells, cells45] using e5
  obtain ⟨y6, h6⟩ := g 6 _ rfl
  obtain ⟨ii, e6, _⟩ := DataW.trod_int Yba.underlying45 h6
  have q6 : c6 = .int .u64 ii := by simpa [Value.cells, cells45] using e6
  obtain ⟨y7, h7⟩ := g 7 _ rfl
  obtain ⟨oe, e7, _⟩ := DataW.trod_bool Yba.underlying4 h7
  have q7 : c7 = .bool oe := by simpa [Value.cells, cells4] using e7
  obtain ⟨y8, h8⟩ := g 8 _ rfl
  obtain ⟨ie, e8, _⟩ := DataW.trod_bool Yba.underlying4 h8
  have q8 : c8 = .bool ie := by simpa [Value.cells, cells4] using e8
  obtain ⟨y9, h9⟩ := g 9 _ rfl
  obtain ⟨ln, e9, _⟩ := DataW.trod_int Yba.underlying2 h9
  have q9 : c9 = .int .i64 ln := by simpa [Value.cells, cells2] using e9
  obtain ⟨y10, h10⟩ := g 10 _ rfl
  obtain ⟨tk, e10, _⟩ := DataW.trod_int Yba.underlying2 h10
  have q10 : c10 = .int .i64 tk := by simpa [Value.cells, cells2] using e10
  exact ⟨ho, hi, cl, oe, ie, bd, ct, oi, ii, ln, tk, by rw [q0, q1, q2, q3, q4, q5, q6, q7, q8, q9, q10]⟩

theorem lawS4987CClose_walk (ho hi cl oe ie : Bool) (bd ct oi ii ln tk : Int) (w : World) :
    Calls Yba.prog 4 #[.agg #[.bool ho, .bool hi, .bool cl, .int .u64 bd, .int .u64 ct, .int .u64 oi, .int .u64 ii, .bool oe, .bool ie, .int .i64 ln, .int .i64 tk]] w fun e w' => e = .returned (.bool true) ∧ Below w.heap.size w w' := by
  cases ho <;> cases hi
  · exact law_close_ff cl oe ie bd ct oi ii ln tk w
  · exact law_close_ft cl oe ie bd ct oi ii ln tk w
  · exact law_close_tf cl oe ie bd ct oi ii ln tk w
  · exact law_close_tt cl oe ie bd ct oi ii ln tk w

set_option maxRecDepth 100000 in
theorem lawS4987CClose_lifted (os : Os) (started : os.Started) (H : Type) (enc : TypeId × Value → H) :
    ReturnsInHanded {} Yba.checked os 4 .any (Rows.lawS4987CCloseSpec.pre6 enc Yba.prog Yba.f4 Rows.lawS4987CCloseRow.domain false) (Rows.lawS4987CCloseSpec.post enc Yba.prog Yba.f4 false true false false) := by
  refine returnsInHanded_of_change (C := Yba.checked) own started (by kernel_rfl) Yba.func4
    (ChangeSpec.witness6 (enc := enc) (C := Yba.checked) false ⟨#[], #[.agg #[.bool false, .bool false, .bool false, .int .u64 0, .int .u64 0, .int .u64 0, .int .u64 0, .bool false, .bool false, .int .i64 0, .int .i64 0]], []⟩ 8 (by kernel_rfl) (by kernel_rfl) (by kernel_rfl) (by kernel_rfl)) ?_
  intro W base args ds gs before hval0 hW hcnd _
  have hval : ∀ (j : Nat) t v, Yba.f4.params[j]? = some t → args[j]? = some v → Value.okWide Yba.prog W .any base t v := hval0
  have hW' := hW
  obtain ⟨p, q, hA0, hV, rfl, hfz, hnd⟩ := hW
  have hA : DataW.TrodAll enc Yba.prog W 0 (fun _ => true) true Yba.f4.params.toList args.toList ds p := hA0
  rw [Yba.params4] at hA hval
  obtain ⟨v0, vs0, d0, ds0, p0, q0, hargs, rfl, rfl, h0, r0⟩ := trodAll_cons hA
  obtain ⟨rfl, rfl, rfl⟩ := trodAll_nil r0
  obtain rfl : args = #[v0] := by cases args; simp_all
  obtain ⟨rfl, rfl⟩ := trodVars_none hV
  have k0 := h0
  have lt0 : ∀ x ∈ p0, x.block < W.heap.size := by obtain ⟨m, hm⟩ := k0; exact DataW.trod_lt m _ _ _ hm
  obtain ⟨ho, hi, cl, oe, ie, bd, ct, oi, ii, ln, tk, rfl⟩ := open_state (hval 0 47 v0 rfl rfl) h0
  clear hA0 hval0
  refine (lawS4987CClose_walk ho hi cl oe ie bd ct oi ii ln tk W).mono fun e W' ⟨he, bel⟩ => ?_
  subst he
  exact ⟨_, rfl, _, _, _, [], _, [], hW', trodAll_mk1 (shut_bool Yba.underlying4 _), (trodAll_cons_mk (Below.trod laidOut (by kernel_rfl) (of_decide_eq_true (by kernel_rfl)) k0 bel lt0) trodAll_mk0), rfl, bel.frame _, fun h => by cases h⟩

theorem lawS4987CClose_over : Rows.lawS4987CCloseRow.holds Yba.pinned (OpenSpec.ofChange Rows.lawS4987CCloseSpec) :=
  OpenClaim.holds_of_wide 4 Yba.f4 rfl rfl rfl rfl rfl rfl rfl ⟨rfl, rfl, rfl, rfl, rfl⟩ rfl rfl rfl rfl rfl (by kernel_rfl) Yba.func4 (by kernel_rfl)
    (of_decide_eq_true (by kernel_rfl)) (by unfold Func.isWrapper; first | (rw [if_pos (by decide +kernel)]; kernel_rfl) | (rw [if_neg (by decide +kernel)]; exact ⟨rfl, rfl⟩))
    (fun os started H enc _ => lawS4987CClose_lifted os started H enc)

theorem lawS4987CTwice_walk (ho hi cl oe ie : Bool) (bd ct oi ii ln tk : Int) (w : World) :
    Calls Yba.prog 5 #[.agg #[.bool ho, .bool hi, .bool cl, .int .u64 bd, .int .u64 ct, .int .u64 oi, .int .u64 ii, .bool oe, .bool ie, .int .i64 ln, .int .i64 tk]] w fun e w' => e = .returned (.bool true) ∧ Below w.heap.size w w' := by
  cases ho <;> cases hi
  · exact law_twice_ff cl oe ie bd ct oi ii ln tk w
  · exact law_twice_ft cl oe ie bd ct oi ii ln tk w
  · exact law_twice_tf cl oe ie bd ct oi ii ln tk w
  · exact law_twice_tt cl oe ie bd ct oi ii ln tk w

set_option maxRecDepth 100000 in
theorem lawS4987CTwice_lifted (os : Os) (started : os.Started) (H : Type) (enc : TypeId × Value → H) :
    ReturnsInHanded {} Yba.checked os 5 .any (Rows.lawS4987CTwiceSpec.pre6 enc Yba.prog Yba.f5 Rows.lawS4987CTwiceRow.domain false) (Rows.lawS4987CTwiceSpec.post enc Yba.prog Yba.f5 false true false false) := by
  refine returnsInHanded_of_change (C := Yba.checked) own started (by kernel_rfl) Yba.func5
    (ChangeSpec.witness6 (enc := enc) (C := Yba.checked) false ⟨#[], #[.agg #[.bool false, .bool false, .bool false, .int .u64 0, .int .u64 0, .int .u64 0, .int .u64 0, .bool false, .bool false, .int .i64 0, .int .i64 0]], []⟩ 8 (by kernel_rfl) (by kernel_rfl) (by kernel_rfl) (by kernel_rfl)) ?_
  intro W base args ds gs before hval0 hW hcnd _
  have hval : ∀ (j : Nat) t v, Yba.f5.params[j]? = some t → args[j]? = some v → Value.okWide Yba.prog W .any base t v := hval0
  have hW' := hW
  obtain ⟨p, q, hA0, hV, rfl, hfz, hnd⟩ := hW
  have hA : DataW.TrodAll enc Yba.prog W 0 (fun _ => true) true Yba.f5.params.toList args.toList ds p := hA0
  rw [Yba.params5] at hA hval
  obtain ⟨v0, vs0, d0, ds0, p0, q0, hargs, rfl, rfl, h0, r0⟩ := trodAll_cons hA
  obtain ⟨rfl, rfl, rfl⟩ := trodAll_nil r0
  obtain rfl : args = #[v0] := by cases args; simp_all
  obtain ⟨rfl, rfl⟩ := trodVars_none hV
  have k0 := h0
  have lt0 : ∀ x ∈ p0, x.block < W.heap.size := by obtain ⟨m, hm⟩ := k0; exact DataW.trod_lt m _ _ _ hm
  obtain ⟨ho, hi, cl, oe, ie, bd, ct, oi, ii, ln, tk, rfl⟩ := open_state (hval 0 47 v0 rfl rfl) h0
  clear hA0 hval0
  refine (lawS4987CTwice_walk ho hi cl oe ie bd ct oi ii ln tk W).mono fun e W' ⟨he, bel⟩ => ?_
  subst he
  exact ⟨_, rfl, _, _, _, [], _, [], hW', trodAll_mk1 (shut_bool Yba.underlying4 _), (trodAll_cons_mk (Below.trod laidOut (by kernel_rfl) (of_decide_eq_true (by kernel_rfl)) k0 bel lt0) trodAll_mk0), rfl, bel.frame _, fun h => by cases h⟩

theorem lawS4987CTwice_over : Rows.lawS4987CTwiceRow.holds Yba.pinned (OpenSpec.ofChange Rows.lawS4987CTwiceSpec) :=
  OpenClaim.holds_of_wide 5 Yba.f5 rfl rfl rfl rfl rfl rfl rfl ⟨rfl, rfl, rfl, rfl, rfl⟩ rfl rfl rfl rfl rfl (by kernel_rfl) Yba.func5 (by kernel_rfl)
    (of_decide_eq_true (by kernel_rfl)) (by unfold Func.isWrapper; first | (rw [if_pos (by decide +kernel)]; kernel_rfl) | (rw [if_neg (by decide +kernel)]; exact ⟨rfl, rfl⟩))
    (fun os started H enc _ => lawS4987CTwice_lifted os started H enc)
end Go.Proofs.Ybulkcygi.link
namespace Go.Proofs.Ybulkcygi
theorem lawS4987CClose_proved : Rows.LawS4987CCloseSaid := link.lawS4987CClose_over
theorem lawS4987CTwice_proved : Rows.LawS4987CTwiceSaid := link.lawS4987CTwice_over
end Go.Proofs.Ybulkcygi
