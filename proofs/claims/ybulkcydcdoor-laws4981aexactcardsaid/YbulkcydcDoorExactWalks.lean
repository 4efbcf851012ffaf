/- LawS4981AExact. -/
import Derived.Test.YbulkcydcDoorPad2
import Derived.Test.YbulkcydcDoorSignWalks
import Derived.Laws.CopyOwn
namespace Go.Proofs.YbulkcydcDoor
open Go.RowKit Go.Sort Go.Lib

/-- A []byte argument that holds the bytes bs. -/
def ArgIn (w : World) (a0 : Option Addr) (bs : List UInt8) : Prop :=
  0 < bs.length → ∃ b o, a0 = some ⟨b, o, none⟩ ∧ b < w.heap.size ∧ ∀ i (h : i < bs.length), w.cell? ⟨b, o + i, none⟩ = some (.int .u8 (bs[i].toNat : Int))
def nums (bs : List UInt8) : List Int := bs.map fun b => (b.toNat : Int)
theorem nums_length (bs : List UInt8) : (nums bs).length = bs.length := by simp [nums]
theorem bytesOf_nums (bs : List UInt8) : Lib.bytesOf (nums bs) = bs := by
  simp [Lib.bytesOf, nums, Function.comp_def]
theorem ArgIn.below {w w' : World} {a0 : Option Addr} {bs : List UInt8} (h : ArgIn w a0 bs) (hb : Below w.heap.size w w') : ArgIn w' a0 bs := fun h0 => by
  obtain ⟨b, o, e, hlt, hc⟩ := h h0
  exact ⟨b, o, e, Nat.lt_of_lt_of_le hlt hb.size, fun i hi => (hb.cell (p := ⟨b, o + i, none⟩) hlt).trans (hc i hi)⟩
theorem ArgIn.cells {w : World} {a0 : Option Addr} {bs : List UInt8} (h : ArgIn w a0 bs) (h0 : 0 < bs.length) : ∃ ad : Addr, a0 = some ad ∧ ∀ (j : Nat) v, (Lib.byteCells bs)[j]? = some v → w.cell? (ad.add j) = some v := by
  obtain ⟨b, o, e, hlt, hc⟩ := h h0
  refine ⟨⟨b, o, none⟩, e, fun j v hj => ?_⟩
  have hjl : j < bs.length := by
    have h5 := (List.getElem?_eq_some_iff.1 hj).1
    rwa [Lib.byteCells_length] at h5
  have e5 : (Lib.byteCells bs)[j]? = some (Value.int .u8 (bs[j].toNat : Int)) := by simp [Lib.byteCells, hjl]
  rw [e5] at hj
  cases hj
  rw [Addr.add_lit]
  exact hc j hjl
theorem ArgIn.src {P : Program} {w : World} {a0 : Option Addr} {bs : List UInt8} (h : ArgIn w a0 bs) (len cap : Nat) (hl : bs.length = len) :
    ∀ wd : World, wd.heap = w.heap → (Builtin.firstCells 1 len (.slice a0 len cap)).run P wd = .ok (Lib.byteCells bs).toArray wd := by
  subst hl
  intro wd he
  by_cases h0 : 0 < bs.length
  · obtain ⟨ad, rfl, hc⟩ := h.cells h0
    refine run_firstCells_some (P := P) wd 1 bs.length ad bs.length cap _ (by rw [Lib.byteCells_length, Nat.mul_one]) (fun j u hj => ?_)
    have := hc j u hj
    simpa [World.cell?, he] using this
  · have : bs = [] := List.eq_nil_of_length_eq_zero (by omega)
    subst this
    cases a0 with
    | none => exact run_firstCells_none wd 1 0 0 cap
    | some x => exact run_firstCells_some (P := P) wd 1 0 x 0 cap [] rfl (fun j u hj => by simp at hj)
theorem nums_getD (bs : List UInt8) (i : Nat) (h : i < bs.length) : (nums bs).getD i 0 = (bs[i].toNat : Int) := by simp [nums, h]
theorem ArgIn.bytesIn {w : World} {a0 : Option Addr} {bs : List UInt8} (h : ArgIn w a0 bs) : Lib.BytesIn w a0 bs.length (nums bs) := fun h0 => by
  obtain ⟨b, o, e, _, hc⟩ := h h0
  exact ⟨b, o, e, fun i hi => by rw [nums_getD bs i hi]; exact hc i hi⟩
theorem Owns.bytesIn {w : World} {B g n cap : Nat} {bs : List UInt8} (h : Owns w B (.slice (some ⟨g, 0, none⟩) n cap) n (Lib.byteCells bs)) : Lib.BytesIn w (some ⟨g, 0, none⟩) n (nums bs) := fun _ =>
  ⟨g, 0, rfl, fun i hi => by
    have hl : i < bs.length := by have := h.1; rw [Lib.byteCells_length] at this; omega
    rw [nums_getD bs i hl, Nat.zero_add]
    exact h.cells (g := g) rfl i _ (by simp [Lib.byteCells, hl])⟩
theorem owns_of_row {w : World} {B : Nat} {e : TypeId} {v : Value} {n : Nat} {xs : List Value} (h : w.ownsRow B e 1 v n xs) : Owns w B v n xs := by
  refine ⟨by simpa using h.1, ?_⟩
  rcases h.2 with h | ⟨g, cap, cur, h1, h2, h3, h4, h5, h6, h7⟩
  · exact .inl h
  · exact .inr ⟨g, cap, cur, e, h1, h2, h3, h4, h5, by simpa using h6, by simpa using h7⟩
theorem kept_of_grown {w w' : World} (h : w.grownBy w' none) (n : Nat) : Kept w w' none n := ⟨h.os, h.tape, h.output, h.size, h.block, fun _ e => by cases e⟩
theorem below_of_grown {w w' : World} (h : w.grownBy w' none) : Below w.heap.size w w' := ⟨h.os, h.tape, h.output, h.size, fun k hk => h.block k hk (by simp)⟩
/-- bytes.Equal of two equal texts. -/
theorem equal_any (p1 p2 : Option Addr) (n c d : Nat) (bs : List UInt8) (w : World) (hl : bs.length = n) (h1 : Lib.BytesIn w p1 n (nums bs)) (h2 : Lib.BytesIn w p2 n (nums bs)) :
    Calls Ybad.prog 8 #[.slice p1 n c, .slice p2 n d] w fun e w' => e = .returned (.bool true) ∧ w' = w := by
  have := Ybad.bytes_Equal_all p1 p2 n c n d (nums bs) (nums bs) w (by rw [nums_length, hl]) (by rw [nums_length, hl]) h1 h2
  rwa [beq_self_eq_true] at this

theorem exact_out (a0 : Option Addr) (len cap : Nat) (x : Int) (h : 1024 < len ∨ x < -4611686018427387904 ∨ 4611686018427387904 < x) (w : World) :
    Calls Ybad.prog 3 #[.slice a0 len cap, .int .i64 x] w fun e w' => e = .returned (.bool true) ∧ Below w.heap.size w w' := by
  by_cases h1 : 1024 < len
  · have b1 : (1024 : Int) < (len : Int) := by omega
    go_enter Ybad.func3, Ybad.ntmps3
    go_wp2
    go_ret
    exact ⟨rfl, Below.refl _ _⟩
  · have b1 : ¬ ((1024 : Int) < (len : Int)) := by omega
    by_cases h2 : x < -4611686018427387904
    · go_enter Ybad.func3, Ybad.ntmps3
      go_wp2
      go_ret
      exact ⟨rfl, Below.refl _ _⟩
    · have b2 : 4611686018427387904 < x := by omega
      go_enter Ybad.func3, Ybad.ntmps3
      go_wp2
      go_ret
      exact ⟨rfl, Below.refl _ _⟩

set_option maxHeartbeats 3200000 in
set_option maxRecDepth 100000 in
theorem exact_pos (a0 : Option Addr) (len cap a : Nat) (bs : List UInt8) (hl : bs.length = len) (hlen : len ≤ 1024) (ha : a ≤ 4611686018427387904) (w : World) (hA : ArgIn w a0 bs) (hw : 5 < w.heap.size) (htab : Tab w)
    (c1 : w.cell? ⟨1, 1, none⟩ = some (.int .u8 58)) (c2 : w.cell? ⟨1, 2, none⟩ = some (.string ⟨#[122, 77]⟩)) :
    Calls Ybad.prog 3 #[.slice a0 len cap, .int .i64 (a : Int)] w fun e w' => e = .returned (.bool true) ∧ Below w.heap.size w w' := by
  obtain ⟨i0, hi, hz0, hz1, hz2⟩ := info_parts info5
  have b1 : ¬ ((1024 : Int) < (len : Int)) := by omega
  have b2 : ¬ ((a : Int) < -4611686018427387904) := by omega
  have b3 : ¬ (4611686018427387904 < (a : Int)) := by omega
  have b4 : ¬ ((a : Int) < 0) := by omega
  have HL := Lib.hid hl
  clear hl
  go_enter Ybad.func3, Ybad.ntmps3
  go_wp2_with (at_make; refine wpList_make_full _ rfl _ _ 22 rfl w.heap.size 5 i0 (.int .u8 0) 1 Ybad.underlying22 hi hz0 hz1 _ _ _ _ len rfl rfl rfl rfl (by rw [hz2]; omega) (by unfold maxLen; omega) (Nat.le_refl _) ?_)
  intro w1 ho1 hg1
  obtain ⟨g, cp, cur, hv1, -, hcur, -, -, hcs, -⟩ : ∃ g cap cur, Value.slice (some ⟨w.heap.size, 0, none⟩) len len = .slice (some ⟨g, 0, none⟩) len cap ∧ w.heap.size ≤ g ∧ w1.heap[g]? = some (.cells cur 5 (0, 0)) ∧ len ≤ cap ∧ cap ≤ maxLen ∧ cur.size = cap * 1 ∧ _ := by
    rcases ho1.2 with ⟨h, _⟩ | h
    · cases h
    · exact h
  cases hv1
  have hb1 := below_of_grown hg1
  have hA1 := hA.below hb1
  have hcl : cur.toList.length = len := by simpa using hcs
  have HC := Lib.hid hcur
  have HCL := Lib.hid hcl
  have HA1 := Lib.hid hA1
  clear ho1 hg1 hcur hcs hcl hA1
  go_wp2_with (refine wpList_copy_splice rfl (.tmp 24) (.tmp 25) 22 22 rfl 5 Ybad.underlying22 (by kernel_rfl) _ _ _ _ _ _ rfl rfl w.heap.size 0 cur.toList 5 (by simpa using HC.out) (Lib.byteCells bs) (by rw [Lib.byteCells_length, HL.out]; simp) (fun h0 => ⟨rfl, HA1.out.cells (by rwa [Lib.byteCells_length] at h0)⟩) (by rw [Lib.byteCells_length, HL.out, HCL.out]; omega) (bytes_one _) w.heap.size w hb1 (Nat.le_refl _) ?_)
  intro w2 HG2 hb2
  have hin : Owns w2 w.heap.size (.slice (some ⟨w.heap.size, 0, none⟩) len len) len (Lib.byteCells bs) := by
    have e : splice cur.toList 0 (Lib.byteCells bs) = Lib.byteCells bs := by
      have : cur.toList.length ≤ (Lib.byteCells bs).length := by rw [Lib.byteCells_length, HL.out, HCL.out]; omega
      simp only [splice, List.take_zero, List.nil_append, Nat.zero_add, List.drop_of_length_le this, List.append_nil]
    have h := HG2.out
    rw [e] at h
    have := Owns.made (B := w.heap.size) h (Nat.le_refl _) len len (Nat.le_refl _) (by unfold maxLen; omega) (by rw [List.size_toArray, Lib.byteCells_length, HL.out])
    rwa [List.take_of_length_le (by rw [Lib.byteCells_length, HL.out]; omega)] at this
  have hz := zoneAt_pos a ha (w.heap.size) len (.slice (some ⟨w.heap.size, 0, none⟩) len len) (Lib.byteCells bs) w2 hin hw hb2.size (by omega) (tab_below htab hb2 (by omega)) ((hb2.cell (p := ⟨1, 1, none⟩) (by show 1 < w.heap.size; omega)).trans c1) ((hb2.cell (p := ⟨1, 2, none⟩) (by show 1 < w.heap.size; omega)).trans c2)
  have HZ := Lib.hid hz
  clear hz HG2 HC HA1 hb1 HCL c1 c2 htab
  have hs2 := hb2.size
  go_wp2_with fail
  refine HZ.out.mono ?_
  rintro e w3 ⟨v3, rfl, hx3⟩
  have hzl := zone_le 43 a (by omega)
  have hb3 : Below w.heap.size w w3 := hb2.trans (hx3.toBelow hin hs2)
  have hin3 : Owns w3 w.heap.size (.slice (some ⟨w.heap.size, 0, none⟩) len len) len (Lib.byteCells bs) := hx3.other hin (.inr (Nat.le_refl _))
  have hgot := hx3.own
  obtain ⟨g3, c3, rfl, hg3, hg3', hg3c⟩ := hgot.shape (by simp [zone]; omega)
  have hs3 := hb3.size
  have HGOT := Lib.hid hgot
  have HIN3 := Lib.hid hin3
  clear HZ hx3 hin hgot hin3 hb2
  go_wp2_with (at_make; refine wpList_make_own _ rfl _ _ 22 rfl w.heap.size 5 i0 (.int .u8 0) 1 Ybad.underlying22 hi hz0 hz1 _ _ _ (len + 48) rfl rfl (by omega) (by rw [hz2]; omega) (by unfold maxLen; omega) (by omega) ?_)
  intro w4 ho4 hg4
  have hb4 := below_of_grown hg4
  have hown4 := owns_of_row ho4
  have hs4 := hb4.size
  have hA4 : ArgIn w4 a0 bs := hA.below (hb3.trans (hb4.mono hs3))
  have HA4 := Lib.hid hA4
  have hm4 : w3.heap.size < w4.heap.size := (hown4.lt w3.heap.size rfl).2
  clear ho4 hg4 hA4
  go_wp2_with (at_builtin; refine wpList_append_ext _ rfl (.tmp 41) (.tmp 42) 22 22 rfl w.heap.size 5 i0 (.int .u8 0) 1 Ybad.underlying22 (.inl Ybad.underlying22) hi hz0 hz1 hz2 rfl _ _ _ rfl hown4 (.slice a0 len cap) rfl len (Lib.byteCells bs) (by rw [Lib.byteCells_length, HL.out]) rfl (HA4.out.src len cap HL.out) (bytes_one _) (by unfold maxLen; omega) (by omega) (by omega) ?_)
  intro v5 w5 hx5
  have hs5 := hx5.kept.size
  go_wp2_with (at_builtin; refine wpList_append_ext _ rfl (.tmp 44) (.tmp 46) 22 22 rfl w.heap.size 5 i0 (.int .u8 0) 1 Ybad.underlying22 (.inl Ybad.underlying22) hi hz0 hz1 hz2 rfl _ _ _ rfl (hx5.own.alloc _) (.slice (some ⟨w5.heap.size, 0, none⟩) 1 1) rfl 1 [.int .u8 43] rfl rfl (src_new _ _ _) (one_one _ _) (by unfold maxLen; omega) (by omega) (by simp; omega) ?_)
  intro v6 w6 hx6
  have hX6 := (hx5.alloc _).trans hx6
  have hs6 := hX6.kept.size
  have hp1 := pad_le (a / 60) (by omega)
  have hp2 := pad_le (a % 60) (by omega)
  have hc7 := pad2_any w.heap.size (len + 1) (a / 60) (by omega) v6 _ w6 hX6.own (by omega) (by omega)
  rw [show ((a / 60 : Nat) : Int) = (a : Int) / 60 from by omega] at hc7
  have HC7 := Lib.hid hc7
  clear hc7 hx5 hx6
  go_wp2_with fail
  refine HC7.out.mono ?_
  rintro e w7 ⟨v7, rfl, hx7⟩
  have hX7 := hX6.trans hx7
  have hs7 := hX7.kept.size
  clear HC7 hx7 hX6
  go_wp2_with (at_builtin; refine wpList_append_ext _ rfl (.tmp 52) (.tmp 53) 22 22 rfl w.heap.size 5 i0 (.int .u8 0) 1 Ybad.underlying22 (.inl Ybad.underlying22) hi hz0 hz1 hz2 rfl _ _ _ rfl (hX7.own.alloc _) (.slice (some ⟨w7.heap.size, 0, none⟩) 1 1) rfl 1 [.int .u8 58] rfl rfl (src_new _ _ _) (one_one _ _) (by unfold maxLen; omega) (by omega) (by simp; omega) ?_)
  intro v8 w8 hx8
  have hX8 := (hX7.alloc _).trans hx8
  have hs8 := hX8.kept.size
  have hc9 := pad2_any w.heap.size _ (a % 60) (by omega) v8 _ w8 hX8.own (by omega) (by omega)
  rw [show ((a % 60 : Nat) : Int) = (a : Int) % 60 from by omega] at hc9
  have HC9 := Lib.hid hc9
  clear hc9 hx8 hX7
  go_wp2_with fail
  refine HC9.out.mono ?_
  rintro e w9 ⟨v9, rfl, hx9⟩
  have hX9 := hX8.trans hx9
  have hs9 := hX9.kept.size
  clear HC9 hx9 hX8
  -- all that was owned before is owned still
  have hfin : Owns w9 w.heap.size v9 (len + (zone 43 a).length) (Lib.byteCells (bs ++ zone 43 a)) := by
    have := hX9.own
    simpa [Lib.byteCells, zone, Nat.add_assoc, Nat.add_comm, Nat.add_left_comm] using this
  have hgot9 : Owns w9 w.heap.size (.slice (some ⟨g3, 0, none⟩) (len + (zone 43 a).length) c3) (len + (zone 43 a).length) (Lib.byteCells (bs ++ zone 43 a)) := by
    have h4 := HGOT.out.below hb4 (fun k hk => by simp [Value.ownBlock] at hk; omega)
    have := hX9.other h4 (.inl (fun e => by simp [Value.ownBlock] at e; omega))
    simpa [Lib.byteCells] using this
  have hin9 : Owns w9 w.heap.size (.slice (some ⟨w.heap.size, 0, none⟩) len len) len (Lib.byteCells bs) := by
    have hlt := (HIN3.out.lt w.heap.size rfl).2
    have h4 := HIN3.out.below hb4 (fun k hk => by simp [Value.ownBlock] at hk; omega)
    exact hX9.other h4 (.inl (fun e => by simp [Value.ownBlock] at e; omega))
  have hb9 : Below w.heap.size w w9 := (hb3.trans (hb4.mono hs3)).trans (hX9.kept.toBelow (by omega) (fun k hk => by simp [Value.ownBlock] at hk; omega))
  obtain ⟨g9, c9, rfl, -, -, -⟩ := hfin.shape (by simp [zone]; omega)
  have hzlen : (bs ++ zone 43 a).length = len + (zone 43 a).length := by rw [List.length_append, HL.out]
  have he1 := equal_any (some ⟨g3, 0, none⟩) (some ⟨g9, 0, none⟩) (len + (zone 43 a).length) c3 c9 (bs ++ zone 43 a) w9 hzlen hgot9.bytesIn hfin.bytesIn
  have he2 := equal_any (some ⟨w.heap.size, 0, none⟩) a0 len len cap bs w9 HL.out hin9.bytesIn (by have := (hA.below hb9).bytesIn; rwa [HL.out] at this)
  have HE1 := Lib.hid he1
  have HE2 := Lib.hid he2
  clear he1 he2 hX9 hfin hgot9 hin9 HGOT HIN3 HA4 hown4
  go_wp2_with fail
  refine HE1.out.mono ?_
  rintro e w' ⟨rfl, rfl⟩
  go_wp2_with fail
  refine HE2.out.mono ?_
  rintro e w' ⟨rfl, rfl⟩
  go_wp2
  go_ret
  exact ⟨rfl, hb9⟩

set_option maxHeartbeats 3200000 in
set_option maxRecDepth 100000 in
theorem exact_neg (a0 : Option Addr) (len cap a : Nat) (bs : List UInt8) (hl : bs.length = len) (hlen : len ≤ 1024) (ha : a ≤ 4611686018427387904) (ha0 : 0 < a) (w : World) (hA : ArgIn w a0 bs) (hw : 5 < w.heap.size) (htab : Tab w)
    (c1 : w.cell? ⟨1, 1, none⟩ = some (.int .u8 58)) (c2 : w.cell? ⟨1, 2, none⟩ = some (.string ⟨#[122, 77]⟩)) :
    Calls Ybad.prog 3 #[.slice a0 len cap, .int .i64 (-(a : Int))] w fun e w' => e = .returned (.bool true) ∧ Below w.heap.size w w' := by
  obtain ⟨i0, hi, hz0, hz1, hz2⟩ := info_parts info5
  have b1 : ¬ ((1024 : Int) < (len : Int)) := by omega
  have b2 : ¬ (-(a : Int) < -4611686018427387904) := by omega
  have b3 : ¬ (4611686018427387904 < -(a : Int)) := by omega
  have b4 : -(a : Int) < 0 := by omega
  have HL := Lib.hid hl
  clear hl
  go_enter Ybad.func3, Ybad.ntmps3
  go_wp2_with (at_make; refine wpList_make_full _ rfl _ _ 22 rfl w.heap.size 5 i0 (.int .u8 0) 1 Ybad.underlying22 hi hz0 hz1 _ _ _ _ len rfl rfl rfl rfl (by rw [hz2]; omega) (by unfold maxLen; omega) (Nat.le_refl _) ?_)
  intro w1 ho1 hg1
  obtain ⟨g, cp, cur, hv1, -, hcur, -, -, hcs, -⟩ : ∃ g cap cur, Value.slice (some ⟨w.heap.size, 0, none⟩) len len = .slice (some ⟨g, 0, none⟩) len cap ∧ w.heap.size ≤ g ∧ w1.heap[g]? = some (.cells cur 5 (0, 0)) ∧ len ≤ cap ∧ cap ≤ maxLen ∧ cur.size = cap * 1 ∧ _ := by
    rcases ho1.2 with ⟨h, _⟩ | h
    · cases h
    · exact h
  cases hv1
  have hb1 := below_of_grown hg1
  have hA1 := hA.below hb1
  have hcl : cur.toList.length = len := by simpa using hcs
  have HC := Lib.hid hcur
  have HCL := Lib.hid hcl
  have HA1 := Lib.hid hA1
  clear ho1 hg1 hcur hcs hcl hA1
  go_wp2_with (refine wpList_copy_splice rfl (.tmp 24) (.tmp 25) 22 22 rfl 5 Ybad.underlying22 (by kernel_rfl) _ _ _ _ _ _ rfl rfl w.heap.size 0 cur.toList 5 (by simpa using HC.out) (Lib.byteCells bs) (by rw [Lib.byteCells_length, HL.out]; simp) (fun h0 => ⟨rfl, HA1.out.cells (by rwa [Lib.byteCells_length] at h0)⟩) (by rw [Lib.byteCells_length, HL.out, HCL.out]; omega) (bytes_one _) w.heap.size w hb1 (Nat.le_refl _) ?_)
  intro w2 HG2 hb2
  have hin : Owns w2 w.heap.size (.slice (some ⟨w.heap.size, 0, none⟩) len len) len (Lib.byteCells bs) := by
    have e : splice cur.toList 0 (Lib.byteCells bs) = Lib.byteCells bs := by
      have : cur.toList.length ≤ (Lib.byteCells bs).length := by rw [Lib.byteCells_length, HL.out, HCL.out]; omega
      simp only [splice, List.take_zero, List.nil_append, Nat.zero_add, List.drop_of_length_le this, List.append_nil]
    have h := HG2.out
    rw [e] at h
    have := Owns.made (B := w.heap.size) h (Nat.le_refl _) len len (Nat.le_refl _) (by unfold maxLen; omega) (by rw [List.size_toArray, Lib.byteCells_length, HL.out])
    rwa [List.take_of_length_le (by rw [Lib.byteCells_length, HL.out]; omega)] at this
  have hz := zoneAt_neg a ha ha0 (w.heap.size) len (.slice (some ⟨w.heap.size, 0, none⟩) len len) (Lib.byteCells bs) w2 hin hw hb2.size (by omega) (tab_below htab hb2 (by omega)) ((hb2.cell (p := ⟨1, 1, none⟩) (by show 1 < w.heap.size; omega)).trans c1) ((hb2.cell (p := ⟨1, 2, none⟩) (by show 1 < w.heap.size; omega)).trans c2)
  have HZ := Lib.hid hz
  clear hz HG2 HC HA1 hb1 HCL c1 c2 htab
  have hs2 := hb2.size
  go_wp2_with fail
  refine HZ.out.mono ?_
  rintro e w3 ⟨v3, rfl, hx3⟩
  have hzl := zone_le 45 a (by omega)
  have hb3 : Below w.heap.size w w3 := hb2.trans (hx3.toBelow hin hs2)
  have hin3 : Owns w3 w.heap.size (.slice (some ⟨w.heap.size, 0, none⟩) len len) len (Lib.byteCells bs) := hx3.other hin (.inr (Nat.le_refl _))
  have hgot := hx3.own
  obtain ⟨g3, c3, rfl, hg3, hg3', hg3c⟩ := hgot.shape (by simp [zone]; omega)
  have hs3 := hb3.size
  have HGOT := Lib.hid hgot
  have HIN3 := Lib.hid hin3
  clear HZ hx3 hin hgot hin3 hb2
  go_wp2_with (at_make; refine wpList_make_own _ rfl _ _ 22 rfl w.heap.size 5 i0 (.int .u8 0) 1 Ybad.underlying22 hi hz0 hz1 _ _ _ (len + 48) rfl rfl (by omega) (by rw [hz2]; omega) (by unfold maxLen; omega) (by omega) ?_)
  intro w4 ho4 hg4
  have hb4 := below_of_grown hg4
  have hown4 := owns_of_row ho4
  have hs4 := hb4.size
  have hA4 : ArgIn w4 a0 bs := hA.below (hb3.trans (hb4.mono hs3))
  have HA4 := Lib.hid hA4
  have hm4 : w3.heap.size < w4.heap.size := (hown4.lt w3.heap.size rfl).2
  clear ho4 hg4 hA4
  go_wp2_with (at_builtin; refine wpList_append_ext _ rfl (.tmp 41) (.tmp 42) 22 22 rfl w.heap.size 5 i0 (.int .u8 0) 1 Ybad.underlying22 (.inl Ybad.underlying22) hi hz0 hz1 hz2 rfl _ _ _ rfl hown4 (.slice a0 len cap) rfl len (Lib.byteCells bs) (by rw [Lib.byteCells_length, HL.out]) rfl (HA4.out.src len cap HL.out) (bytes_one _) (by unfold maxLen; omega) (by omega) (by omega) ?_)
  intro v5 w5 hx5
  have hs5 := hx5.kept.size
  go_wp2_with (at_builtin; refine wpList_append_ext _ rfl (.tmp 44) (.tmp 46) 22 22 rfl w.heap.size 5 i0 (.int .u8 0) 1 Ybad.underlying22 (.inl Ybad.underlying22) hi hz0 hz1 hz2 rfl _ _ _ rfl (hx5.own.alloc _) (.slice (some ⟨w5.heap.size, 0, none⟩) 1 1) rfl 1 [.int .u8 45] rfl rfl (src_new _ _ _) (one_one _ _) (by unfold maxLen; omega) (by omega) (by simp; omega) ?_)
  intro v6 w6 hx6
  have hX6 := (hx5.alloc _).trans hx6
  have hs6 := hX6.kept.size
  have hp1 := pad_le (a / 60) (by omega)
  have hp2 := pad_le (a % 60) (by omega)
  have hc7 := pad2_any w.heap.size (len + 1) (a / 60) (by omega) v6 _ w6 hX6.own (by omega) (by omega)
  rw [show ((a / 60 : Nat) : Int) = (a : Int) / 60 from by omega] at hc7
  have HC7 := Lib.hid hc7
  clear hc7 hx5 hx6
  go_wp2_with fail
  refine HC7.out.mono ?_
  rintro e w7 ⟨v7, rfl, hx7⟩
  have hX7 := hX6.trans hx7
  have hs7 := hX7.kept.size
  clear HC7 hx7 hX6
  go_wp2_with (at_builtin; refine wpList_append_ext _ rfl (.tmp 52) (.tmp 53) 22 22 rfl w.heap.size 5 i0 (.int .u8 0) 1 Ybad.underlying22 (.inl Ybad.underlying22) hi hz0 hz1 hz2 rfl _ _ _ rfl (hX7.own.alloc _) (.slice (some ⟨w7.heap.size, 0, none⟩) 1 1) rfl 1 [.int .u8 58] rfl rfl (src_new _ _ _) (one_one _ _) (by unfold maxLen; omega) (by omega) (by simp; omega) ?_)
  intro v8 w8 hx8
  have hX8 := (hX7.alloc _).trans hx8
  have hs8 := hX8.kept.size
  have hc9 := pad2_any w.heap.size _ (a % 60) (by omega) v8 _ w8 hX8.own (by omega) (by omega)
  rw [show ((a % 60 : Nat) : Int) = (a : Int) % 60 from by omega] at hc9
  have HC9 := Lib.hid hc9
  clear hc9 hx8 hX7
  go_wp2_with fail
  refine HC9.out.mono ?_
  rintro e w9 ⟨v9, rfl, hx9⟩
  have hX9 := hX8.trans hx9
  have hs9 := hX9.kept.size
  clear HC9 hx9 hX8
  -- all that was owned before is owned still
  have hfin : Owns w9 w.heap.size v9 (len + (zone 45 a).length) (Lib.byteCells (bs ++ zone 45 a)) := by
    have := hX9.own
    simpa [Lib.byteCells, zone, Nat.add_assoc, Nat.add_comm, Nat.add_left_comm] using this
  have hgot9 : Owns w9 w.heap.size (.slice (some ⟨g3, 0, none⟩) (len + (zone 45 a).length) c3) (len + (zone 45 a).length) (Lib.byteCells (bs ++ zone 45 a)) := by
    have h4 := HGOT.out.below hb4 (fun k hk => by simp [Value.ownBlock] at hk; omega)
    have := hX9.other h4 (.inl (fun e => by simp [Value.ownBlock] at e; omega))
    simpa [Lib.byteCells] using this
  have hin9 : Owns w9 w.heap.size (.slice (some ⟨w.heap.size, 0, none⟩) len len) len (Lib.byteCells bs) := by
    have hlt := (HIN3.out.lt w.heap.size rfl).2
    have h4 := HIN3.out.below hb4 (fun k hk => by simp [Value.ownBlock] at hk; omega)
    exact hX9.other h4 (.inl (fun e => by simp [Value.ownBlock] at e; omega))
  have hb9 : Below w.heap.size w w9 := (hb3.trans (hb4.mono hs3)).trans (hX9.kept.toBelow (by omega) (fun k hk => by simp [Value.ownBlock] at hk; omega))
  obtain ⟨g9, c9, rfl, -, -, -⟩ := hfin.shape (by simp [zone]; omega)
  have hzlen : (bs ++ zone 45 a).length = len + (zone 45 a).length := by rw [List.length_append, HL.out]
  have he1 := equal_any (some ⟨g3, 0, none⟩) (some ⟨g9, 0, none⟩) (len + (zone 45 a).length) c3 c9 (bs ++ zone 45 a) w9 hzlen hgot9.bytesIn hfin.bytesIn
  have he2 := equal_any (some ⟨w.heap.size, 0, none⟩) a0 len len cap bs w9 HL.out hin9.bytesIn (by have := (hA.below hb9).bytesIn; rwa [HL.out] at this)
  have HE1 := Lib.hid he1
  have HE2 := Lib.hid he2
  clear he1 he2 hX9 hfin hgot9 hin9 HGOT HIN3 HA4 hown4
  go_wp2_with fail
  refine HE1.out.mono ?_
  rintro e w' ⟨rfl, rfl⟩
  go_wp2_with fail
  refine HE2.out.mono ?_
  rintro e w' ⟨rfl, rfl⟩
  go_wp2
  go_ret
  exact ⟨rfl, hb9⟩

theorem exact_any (a0 : Option Addr) (len cap : Nat) (x : Int) (bs : List UInt8) (hl : bs.length = len) (w : World) (hA : ArgIn w a0 bs) (hw : 5 < w.heap.size) (htab : Tab w)
    (c1 : w.cell? ⟨1, 1, none⟩ = some (.int .u8 58)) (c2 : w.cell? ⟨1, 2, none⟩ = some (.string ⟨#[122, 77]⟩)) :
    Calls Ybad.prog 3 #[.slice a0 len cap, .int .i64 x] w fun e w' => e = .returned (.bool true) ∧ Below w.heap.size w w' := by
  by_cases ho : 1024 < len ∨ x < -4611686018427387904 ∨ 4611686018427387904 < x
  · exact exact_out a0 len cap x ho w
  · obtain ⟨a, ha⟩ : ∃ a : Nat, a = x.natAbs := ⟨_, rfl⟩
    by_cases h1 : 0 ≤ x
    · obtain rfl : x = (a : Int) := by omega
      exact exact_pos a0 len cap a bs hl (by omega) (by omega) w hA hw htab c1 c2
    · obtain rfl : x = -(a : Int) := by omega
      exact exact_neg a0 len cap a bs hl (by omega) (by omega) (by omega) w hA hw htab c1 c2
end Go.Proofs.YbulkcydcDoor
