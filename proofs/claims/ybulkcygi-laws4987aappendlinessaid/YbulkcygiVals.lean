/- The small callees of LawS4987AAppendLines. -/
import Derived.Test.YbulkcygiRows
import Derived.Test.YbulkcygiOwn
import Derived.Lib.UnsafeStr
import Derived.WalkSpells
import Derived.WalkLawsBesides
import Derived.Deep.QuietTactic
import Derived.BigQuiet
namespace Go.Proofs.Ybulkcygi
open Go.RowKit Go.Lib

theorem amod_pos (i n m : Nat) (h0 : 0 < n) (hn : n ≤ 1024) (hi : i ≤ 1000000) (hm : (i : Int) % (n : Int) = (m : Int)) (w : World) :
    Calls Yba.prog 9 #[.int .i64 (i : Int), .int .i64 (n : Int)] w fun e w' => e = .returned (.int .i64 (m : Int)) ∧ w' = w := by
  go_enter Yba.func9, Yba.ntmps9
  go_wp2
  go_ret
  refine ⟨?_, rfl⟩
  rw [← hm]
  rfl
theorem amod_neg (i n m r : Nat) (h0 : 0 < n) (hn : n ≤ 1024) (hi : i ≤ 1000000) (hr : (i : Int) % (n : Int) = (r : Int)) (hrn : r < n) (hm : (if r = 0 then 0 else n - r) = m) (w : World) :
    Calls Yba.prog 9 #[.int .i64 (-(i : Int)), .int .i64 (n : Int)] w fun e w' => e = .returned (.int .i64 (m : Int)) ∧ w' = w := by
  subst hm
  by_cases hz : r = 0
  · subst hz
    go_enter Yba.func9, Yba.ntmps9
    go_wp2
    go_ret
    exact ⟨rfl, rfl⟩
  · rw [if_neg hz]
    have hz' : (0 : Int) < (r : Int) := by omega
    go_enter Yba.func9, Yba.ntmps9
    go_wp2
    go_ret
    refine ⟨?_, rfl⟩
    show Ending.returned (Value.int .i64 (-(r : Int) + (n : Int))) = _
    rw [show -(r : Int) + (n : Int) = ((n - r : Nat) : Int) by omega]

theorem amod_any (i : Int) (n : Nat) (h0 : 0 < n) (hn : n ≤ 1024) (h1 : -1000000 ≤ i) (h2 : i ≤ 1000000) (w : World) :
    Calls Yba.prog 9 #[.int .i64 i, .int .i64 (n : Int)] w fun e w' => e = .returned (.int .i64 ((i % (n : Int)).toNat : Int)) ∧ w' = w := by
  have hlt := Int.emod_lt_of_pos i (show (0 : Int) < n by omega)
  have hge := Int.emod_nonneg i (show (n : Int) ≠ 0 by omega)
  obtain ⟨k, hk | hk⟩ : ∃ k : Nat, i = (k : Int) ∨ i = -(k : Int) := ⟨i.natAbs, by omega⟩
  · subst hk
    exact amod_pos k n _ h0 hn (by omega) (by omega) w
  · subst hk
    refine amod_neg k n _ (k % n) h0 hn (by omega) (by omega) (Nat.mod_lt _ h0) ?_ w
    have hd := Nat.div_add_mod k n
    have hml := Nat.mod_lt k h0
    by_cases hz : k % n = 0
    · rw [if_pos hz]
      have : (-(k : Int)) % (n : Int) = 0 := by
        have h : (k : Int) = (n : Int) * ((k / n : Nat) : Int) := by rw [← Int.natCast_mul]; omega
        rw [h, ← Int.mul_neg]; exact Int.mul_emod_right _ _
      rw [this]; rfl
    · rw [if_neg hz]
      have : (-(k : Int)) % (n : Int) = ((n - k % n : Nat) : Int) := by
        have h : -(k : Int) = ((n - k % n : Nat) : Int) + (n : Int) * (-((k / n : Nat) : Int) - 1) := by
          have h1 : (k : Int) = (n : Int) * ((k / n : Nat) : Int) + ((k % n : Nat) : Int) := by rw [← Int.natCast_mul]; omega
          rw [Int.mul_sub, Int.mul_neg]; omega
        rw [h, Int.add_mul_emod_self_left]
        exact Int.emod_eq_of_lt (by omega) (by omega)
      rw [this]; omega

/-- Where a slice's bytes lie. -/
def BytesAt (w : World) (p : Option Addr) (bs : List UInt8) : Prop :=
  0 < bs.length → ∃ b o, p = some ⟨b, o, none⟩ ∧ ∀ i (h : i < bs.length), w.cell? ⟨b, o + i, none⟩ = some (.int .u8 (bs[i].toNat : Int))
def BoolsAt (w : World) (p : Option Addr) (hs : List Bool) : Prop :=
  0 < hs.length → ∃ b o, p = some ⟨b, o, none⟩ ∧ ∀ i (h : i < hs.length), w.cell? ⟨b, o + i, none⟩ = some (.bool hs[i])

/-- The value of index i. -/
def valOf (bs : List UInt8) (i : Int) : UInt8 := if bs.length = 0 then 120 else bs.getD (i % (bs.length : Int)).toNat 0
def hasOf (hs : List Bool) (i : Int) : Bool := hs.getD (i % (hs.length : Int)).toNat false

theorem idx_lt (i : Int) (n : Nat) (h0 : 0 < n) : (i % (n : Int)).toNat < n := by
  have hlt := Int.emod_lt_of_pos i (show (0 : Int) < n by omega)
  have hge := Int.emod_nonneg i (show (n : Int) ≠ 0 by omega)
  omega

set_option maxRecDepth 100000 in
theorem aval_any (p : Option Addr) (len cap : Nat) (bs : List UInt8) (i : Int) (w : World) (hl : bs.length = len) (hlen : len ≤ 1024) (hB : BytesAt w p bs) (h1 : -1000000 ≤ i) (h2 : i ≤ 1000000) :
    Calls Yba.prog 7 #[.slice p len cap, .int .i64 i] w fun e w' => e = .returned (.int .u8 ((valOf bs i).toNat : Int)) ∧ w' = w := by
  by_cases h0 : len = 0
  · subst h0
    have hv : valOf bs i = 120 := by unfold valOf; rw [if_pos hl]
    rw [hv]
    go_enter Yba.func7, Yba.ntmps7
    go_wp2
    go_ret
    exact ⟨rfl, rfl⟩
  · obtain ⟨b, o, rfl, hc⟩ := hB (by omega)
    have hlt := idx_lt i len (by omega)
    have hz : ((len : Int) == 0) = false := by simp; omega
    have ha := amod_any i len (by omega) hlen h1 h2
    have hcc : w.cell? ⟨b, o + (i % (len : Int)).toNat, none⟩ = some (.int .u8 ((valOf bs i).toNat : Int)) := by
      subst hl
      rw [hc (i % (bs.length : Int)).toNat hlt]
      unfold valOf; rw [if_neg h0]; simp [hlt]
    generalize (i % (len : Int)).toNat = m at *
    have HA := Lib.hid ha
    clear ha hc hB
    have hmi : (m : Int) < (len : Int) := by omega
    go_enter Yba.func7, Yba.ntmps7
    go_wp2_with (go_at_call 9; refine (HA.out _).mono ?_; rintro e w' ⟨rfl, rfl⟩)
    go_ret
    exact ⟨rfl, rfl⟩

theorem info5 : (Yba.prog.info? 5).map (fun i => (i.zero, i.size, i.bytes)) = some (some (.int .u8 0), 1, 1) := by kernel_rfl
theorem src_new {P : Program} (w : World) (x : Value) (t : TypeId) : ∀ wd : World, wd.heap = (w.alloc (.cells #[x] t)).heap → (Builtin.firstCells 1 1 (.slice (some ⟨w.heap.size, 0, none⟩) 1 1)).run P wd = .ok [x].toArray wd :=
  src_slice _ rfl (fun j u hj => by
    match j, hj with
    | 0, hj => simp at hj; subst hj; simp
    | (j + 1), hj => simp at hj)
theorem one_one (k : IntKind) (x : Int) : ∀ u ∈ [Value.int k x], u.oneCell' = true := by
  intro u hu; simp at hu; subst hu; rfl

set_option maxRecDepth 100000 in
/-- The closure 'AppendValue'. -/
theorem av_any (tb : Nat) (p : Option Addr) (len cap : Nat) (bs : List UInt8) (i : Int) (B n : Nat) (sv : Value) (xs : List Value) (w : World) (ht : w.cell? ⟨tb, 0, none⟩ = some (.slice p len cap)) (hl : bs.length = len) (hlen : len ≤ 1024) (hB : BytesAt w p bs)
    (h1 : -1000000 ≤ i) (h2 : i ≤ 1000000) (hown : Owns w B sv n xs) (hBw : B ≤ w.heap.size) (hn : n ≤ 100000000) :
    Calls Yba.prog 6 #[.pointer (some ⟨tb, 0, none⟩), .int .i64 i, sv] w fun e w' => ∃ v', e = .returned v' ∧ Ext B w sv n w' v' (n + 1) (xs ++ [.int .u8 ((valOf bs i).toNat : Int)]) := by
  obtain ⟨i0, hi, hz0, hz1, hz2⟩ := info_parts info5
  have hc := aval_any p len cap bs i w hl hlen hB h1 h2
  have HC := Lib.hid hc
  clear hc hB
  go_enter Yba.func6, Yba.ntmps6
  go_wp2_with (first | (go_at_call 7; refine HC.out.mono ?_; rintro e w' ⟨rfl, hw⟩; have hw := hw.symm; subst hw) | (at_builtin; refine wpList_append_ext _ rfl _ _ 23 23 rfl B 5 i0 (.int .u8 0) 1 Yba.underlying23 (.inl Yba.underlying23) hi hz0 hz1 hz2 rfl _ _ _ rfl (hown.alloc _) (.slice (some ⟨w.heap.size, 0, none⟩) 1 1) rfl 1 [.int .u8 ((valOf bs i).toNat : Int)] rfl rfl (src_new _ _ _) (one_one _ _) (by unfold maxLen; omega) (by omega) (by simp; omega) ?_))
  intro v' w1 hx
  go_wp2
  go_ret
  exact ⟨v', rfl, ((Ext.refl hown).alloc _).trans hx⟩

/-- The closure 'Has'. -/
theorem has_any (tb : Nat) (p : Option Addr) (len cap : Nat) (hs : List Bool) (i : Int) (w : World) (ht : w.cell? ⟨tb, 1, none⟩ = some (.slice p len cap)) (hl : hs.length = len) (h0 : 0 < len) (hlen : len ≤ 1024) (hB : BoolsAt w p hs)
    (h1 : -1000000 ≤ i) (h2 : i ≤ 1000000) :
    Calls Yba.prog 8 #[.pointer (some ⟨tb, 0, none⟩), .int .i64 i] w fun e w' => e = .returned (.bool (hasOf hs i)) ∧ ∃ k, w' = w.drewN k := by
  obtain ⟨b, o, rfl, hc⟩ := hB (by omega)
  have hlt := idx_lt i len h0
  have ha := amod_any i len h0 hlen h1 h2
  have hcc : w.cell? ⟨b, o + (i % (len : Int)).toNat, none⟩ = some (.bool (hasOf hs i)) := by
    subst hl
    rw [hc (i % (hs.length : Int)).toNat hlt]
    unfold hasOf; simp [hlt]
  generalize (i % (len : Int)).toNat = m at *
  have HA := Lib.hid ha
  clear ha hc hB
  have hmi : (m : Int) < (len : Int) := by omega
  go_enter Yba.func8, Yba.ntmps8
  go_wp2_with fail
  go_quiet ((go_at_call 9; exact Calls.quiet_of_same (HA.out _)))
  go_wp2
  go_ret
  exact ⟨rfl, _, rfl⟩
end Go.Proofs.Ybulkcygi
