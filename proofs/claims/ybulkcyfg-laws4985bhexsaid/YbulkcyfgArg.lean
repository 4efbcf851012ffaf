/- A slice of bytes that came in, as the walks want it. -/
import Derived.Test.YbulkcyfgHex0
import Derived.ProofKit
import Derived.OpenShut
namespace Go.Proofs.Ybulkcyfg
open Go.ChangeShapes Go.WideShapes Go.ChangeAt Go.RowKit

theorem u8_of_wf {n : Int} (h : (Lit.int .u8 n).wf = true) : ((UInt8.ofNat n.toNat).toNat : Int) = n := by
  have := bounds_u8 h
  simp; omega

theorem arg_of_ints {W : World} {x : Addr} {len : Nat} {zs : List Int} (hl : len ≤ zs.length) (hcell : ∀ i, i < zs.length → W.cell? (x.add i) = some (.int .u8 (zs.getD i 0))) (hwf : ∀ n ∈ zs, (Lit.int .u8 n).wf = true) :
    ArgIn W.heap.size W (some x) ((zs.take len).map fun n => UInt8.ofNat n.toNat) := fun h0 => by
  have h0' : 0 < len ∧ 0 < zs.length := by simp at h0; omega
  obtain ⟨b, o, s⟩ := x
  obtain rfl : s = none := by simpa [Addr.add] using World.cell?_spot (hcell 0 h0'.2)
  refine ⟨b, o, rfl, World.block_lt_of_cell? _ _ (hcell 0 h0'.2), fun i hi => ?_⟩
  have hi' : i < len ∧ i < zs.length := by simp at hi; omega
  have := hcell i hi'.2
  rw [Addr.add_lit] at this
  rw [this]
  have e : zs.getD i 0 = zs[i]'hi'.2 := by simp [hi'.2]
  have := u8_of_wf (hwf (zs[i]'hi'.2) (List.getElem_mem _))
  simp only [List.getElem_map, List.getElem_take, e, this]

/-- What the walk is told of a slice of integers that came in: it is nil; or it leads to a row of 'cap' cells, the numbers 'zs' (the first 'len' are its elements), each fitting its kind. -/
def IsRow (k : IntKind) (w : World) (a : Option Addr) (len cap : Nat) (zs : List Int) : Prop :=
  (a = none ∧ len = 0 ∧ cap = 0 ∧ zs = []) ∨
  ∃ x, a = some x ∧ len ≤ cap ∧ cap ≤ maxLen ∧ zs.length = cap ∧ (∀ i, i < zs.length → w.cell? (x.add i) = some (.int k (zs.getD i 0))) ∧ ∀ n ∈ zs, (Lit.int k n).wf = true

theorem IsRow.arg {w : World} {a : Option Addr} {len cap : Nat} {zs : List Int} (h : IsRow .u8 w a len cap zs) :
    ∃ bs : List UInt8, bs.length = len ∧ len ≤ cap ∧ cap ≤ 9223372036854775807 ∧ (a = none → cap = 0) ∧ ArgIn w.heap.size w a bs := by
  rcases h with ⟨rfl, rfl, rfl, rfl⟩ | ⟨x, rfl, h1, h2, h3, h4, h5⟩
  · exact ⟨[], rfl, Nat.le_refl _, by omega, fun _ => rfl, fun h => by simp at h⟩
  · exact ⟨(zs.take len).map fun n => UInt8.ofNat n.toNat, by simp; omega, h1, by unfold maxLen at h2; omega, (fun h => by cases h), arg_of_ints (by omega) h4 h5⟩
end Go.Proofs.Ybulkcyfg
