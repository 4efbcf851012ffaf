/- appendHex: the plain function, and the walk. -/
import Derived.Test.YbulkcyfgRows
import Derived.Test.YbulkcyfgOwn
import Derived.Lib.UnsafeStr
import Derived.WalkSpells
import Derived.WalkLawsBesides
namespace Go.Proofs.Ybulkcyfg
open Go.RowKit Go.Lib

def hexTab : List UInt8 := [48, 49, 50, 51, 52, 53, 54, 55, 56, 57, 97, 98, 99, 100, 101, 102]
/-- The lower-case hex digit of n. -/
def hexd (n : Nat) : UInt8 := hexTab.getD n 0
def hexAll (bs : List UInt8) : List UInt8 := bs.flatMap fun o => [hexd (o.toNat / 16), hexd (o.toNat % 16)]
theorem hexAll_length (bs : List UInt8) : (hexAll bs).length = 2 * bs.length := by
  induction bs with
  | nil => rfl
  | cons b l ih => simp only [hexAll, List.flatMap_cons, List.length_append, List.length_cons, List.length_nil] at ih ⊢; omega
theorem hexAll_append (a b : List UInt8) : hexAll (a ++ b) = hexAll a ++ hexAll b := by simp [hexAll]

/-- A []byte argument that holds the bytes bs, in a block below B. -/
def ArgIn (B : Nat) (w : World) (a0 : Option Addr) (bs : List UInt8) : Prop :=
  0 < bs.length → ∃ b o, a0 = some ⟨b, o, none⟩ ∧ b < B ∧ ∀ i (h : i < bs.length), w.cell? ⟨b, o + i, none⟩ = some (.int .u8 (bs[i].toNat : Int))
theorem ArgIn.below {B : Nat} {w w' : World} {a0 : Option Addr} {bs : List UInt8} (h : ArgIn B w a0 bs) (hb : Below B w w') : ArgIn B w' a0 bs := fun h0 => by
  obtain ⟨b, o, e, hlt, hc⟩ := h h0
  exact ⟨b, o, e, hlt, fun i hi => (hb.cell (p := ⟨b, o + i, none⟩) hlt).trans (hc i hi)⟩

theorem info5 : (Yba.prog.info? 5).map (fun i => (i.zero, i.size, i.bytes)) = some (some (.int .u8 0), 1, 1) := by kernel_rfl

abbrev tabS : ByteArray := ⟨#[48, 49, 50, 51, 52, 53, 54, 55, 56, 57, 97, 98, 99, 100, 101, 102]⟩
theorem ix_hex (q : Nat) (hq : q < 16) (x : Int) (hx : x = (q : Int)) (W : World) : (Instr.index 9 (.string ⟨#[48, 49, 50, 51, 52, 53, 54, 55, 56, 57, 97, 98, 99, 100, 101, 102]⟩) (.int .u8 x)).run Yba.prog W = .ok (.int .u8 ((hexd q).toNat : Int)) W := by
  subst hx
  have h16 : q = 0 ∨ q = 1 ∨ q = 2 ∨ q = 3 ∨ q = 4 ∨ q = 5 ∨ q = 6 ∨ q = 7 ∨ q = 8 ∨ q = 9 ∨ q = 10 ∨ q = 11 ∨ q = 12 ∨ q = 13 ∨ q = 14 ∨ q = 15 := by omega
  rcases h16 with rfl | rfl | rfl | rfl | rfl | rfl | rfl | rfl | rfl | rfl | rfl | rfl | rfl | rfl | rfl | rfl <;> (show _ = _; kernel_rfl)
theorem and15 (c : UInt8) : bits BinOp.and IntKind.u8 (c.toNat : Int) 15 = (c.toNat : Int) % 16 := by
  have : ∀ n : Fin 256, bits BinOp.and IntKind.u8 (n.val : Int) 15 = (n.val : Int) % 16 := by decide +kernel
  exact this ⟨c.toNat, c.toNat_lt⟩
theorem src_two {P : Program} (w : World) (x y : Value) (t : TypeId) : ∀ wd : World, wd.heap = (w.alloc (.cells #[x, y] t)).heap → (Builtin.firstCells 1 2 (.slice (some ⟨w.heap.size, 0, none⟩) 2 2)).run P wd = .ok [x, y].toArray wd :=
  src_slice _ rfl (fun j u hj => by
    match j, hj with
    | 0, hj => simp at hj; subst hj; simp
    | 1, hj => simp at hj; subst hj; simp
    | (j + 2), hj => simp at hj)
theorem two_one (k : IntKind) (x y : Int) : ∀ u ∈ [Value.int k x, Value.int k y], u.oneCell' = true := by
  intro u hu; simp at hu; rcases hu with rfl | rfl <;> rfl

set_option maxHeartbeats 3200000 in
set_option maxRecDepth 100000 in
theorem hex_any (B n : Nat) (sv : Value) (xs : List Value) (a0 : Option Addr) (len cap : Nat) (bs : List UInt8) (w : World) (hown : Owns w B sv n xs) (hBw : B ≤ w.heap.size) (hA : ArgIn B w a0 bs) (hl : bs.length = len) (hlen : len ≤ 4096) (hn : n ≤ 100000) :
    Calls Yba.prog 5 #[sv, .slice a0 len cap] w fun e w' => ∃ v', e = .returned v' ∧ Ext B w sv n w' v' (n + 2 * len) (xs ++ Lib.byteCells (hexAll bs)) := by
  obtain ⟨i0, hi, hz0, hz1, hz2⟩ := info_parts info5
  have HL := Lib.hid hl
  clear hl
  go_enter Yba.func5, Yba.ntmps5
  go_wp2
  go_loopw [0, 9] (fun v iv wr => ∃ k : Nat, k ≤ len ∧ iv = .int .i64 (k : Int) ∧ Ext B w sv n wr v (n + 2 * k) (xs ++ Lib.byteCells (hexAll (bs.take k))))
    (fun _ iv _ => len - (intOf iv).toNat)
  case atStart => exact ⟨0, Nat.zero_le _, rfl, by simpa [hexAll, Lib.byteCells] using Ext.refl hown⟩
  case round =>
    obtain ⟨k, hk, rfl, hx⟩ := hrel
    have hb := hx.toBelow hown hBw
    have hsz := hx.kept.size
    by_cases hlt : k < len
    · obtain ⟨b, o, rfl, hbB, hc⟩ := hA (by rw [HL.out]; omega)
      have hkb : k < bs.length := by rw [HL.out]; exact hlt
      have hck := (hb.cell (p := ⟨b, o + k, none⟩) hbB).trans (hc k hkb)
      obtain ⟨c, hcv⟩ : ∃ c : UInt8, c = bs[k] := ⟨_, rfl⟩
      rw [← hcv] at hck
      have HCV := Lib.hid hcv
      have hcl : c.toNat < 256 := c.toNat_lt
      have HX := Lib.hid hx
      clear hcv hc hA hx
      go_wp2_with fail
      have hi1 := fun W => ix_hex (c.toNat / 16) (by omega) ((c.toNat : Int) / 16) (by omega) W
      have hi2 := fun W => ix_hex (c.toNat % 16) (by omega) ((c.toNat : Int) % 16) (by omega) W
      have ha := and15 c
      go_region_law (refine step_append_ext _ rfl (.tmp 13) (.tmp 20) 22 22 rfl B 5 i0 (.int .u8 0) 1 Yba.underlying22 (.inl Yba.underlying22) hi hz0 hz1 hz2 rfl _ _ _ rfl (HX.out.own.drew.alloc _) (.slice (some ⟨wr.heap.size, 0, none⟩) 2 2) rfl 2 [.int .u8 ((hexd (c.toNat / 16)).toNat : Int), .int .u8 ((hexd (c.toNat % 16)).toNat : Int)] rfl rfl (src_two _ _ _ _) (two_one _ _ _) (by unfold maxLen; omega) (by omega) (by simp; omega) ?_; intro v' w' hx')
      all_goals
        go_wp2
        go_roundw
        case rel =>
          refine ⟨k + 1, by omega, by go_num, ?_⟩
          have h := ((HX.out.drew.alloc _).trans hx')
          have e : hexAll (bs.take (k + 1)) = hexAll (bs.take k) ++ [hexd (c.toNat / 16), hexd (c.toNat % 16)] := by
            rw [List.take_succ_eq_append_getElem hkb, hexAll_append, ← HCV.out]; rfl
          rw [e]
          simpa [Lib.byteCells, Nat.mul_add, Nat.add_assoc] using h
        case measure => simp [intOf]; omega
    · have hkl : k = len := by omega
      subst hkl
      have HX := Lib.hid hx
      clear hx
      go_wp2
      go_ret
      refine ⟨_, rfl, ?_⟩
      have h := HX.out
      rwa [List.take_of_length_le (by rw [HL.out]; omega)] at h
end Go.Proofs.Ybulkcyfg
