/- LawS4987AAppendLines: small facts for the walk. -/
import Derived.Test.YbulkcygiLines
import Derived.Laws.IdiomStrings
import Derived.Lib.ConvBytes
import Derived.Outline
import Derived.Laws.StructEq
import Derived.Test.YbulkcygiMake
namespace Go.Proofs.Ybulkcygi
open Go.RowKit Go.Lib

theorem info4 : (Yba.prog.info? 4).map (fun i => (i.zero, i.size, i.bytes)) = some (some (.bool false), 1, 1) := by kernel_rfl

/-- Arguments that lie in old memory. -/
def BytesIn (B : Nat) (w : World) (p : Option Addr) (bs : List UInt8) : Prop :=
  0 < bs.length → ∃ b o, p = some ⟨b, o, none⟩ ∧ b < B ∧ ∀ i (h : i < bs.length), w.cell? ⟨b, o + i, none⟩ = some (.int .u8 (bs[i].toNat : Int))
def BoolsIn (B : Nat) (w : World) (p : Option Addr) (hs : List Bool) : Prop :=
  0 < hs.length → ∃ b o, p = some ⟨b, o, none⟩ ∧ b < B ∧ ∀ i (h : i < hs.length), w.cell? ⟨b, o + i, none⟩ = some (.bool hs[i])
theorem BytesIn.below {B : Nat} {w w' : World} {p : Option Addr} {bs : List UInt8} (h : BytesIn B w p bs) (hb : Below B w w') : BytesIn B w' p bs := fun h0 => by
  obtain ⟨b, o, e, hlt, hc⟩ := h h0
  exact ⟨b, o, e, hlt, fun i hi => (hb.cell (p := ⟨b, o + i, none⟩) hlt).trans (hc i hi)⟩
theorem BoolsIn.below {B : Nat} {w w' : World} {p : Option Addr} {hs : List Bool} (h : BoolsIn B w p hs) (hb : Below B w w') : BoolsIn B w' p hs := fun h0 => by
  obtain ⟨b, o, e, hlt, hc⟩ := h h0
  exact ⟨b, o, e, hlt, fun i hi => (hb.cell (p := ⟨b, o + i, none⟩) hlt).trans (hc i hi)⟩
def boolCells (hs : List Bool) : List Value := hs.map Value.bool
theorem src_any {P : Program} {w : World} {p : Option Addr} {len cap : Nat} {news : List Value} (hl : news.length = len) (h : 0 < len → ∃ b o, p = some ⟨b, o, none⟩ ∧ ∀ (j : Nat) u, news[j]? = some u → w.cell? ⟨b, o + j, none⟩ = some u) :
    ∀ wd : World, wd.heap = w.heap → (Builtin.firstCells 1 len (.slice p len cap)).run P wd = .ok news.toArray wd := by
  subst hl
  intro wd he
  by_cases h0 : 0 < news.length
  · obtain ⟨b, o, rfl, hc⟩ := h h0
    exact src_slice w rfl hc wd he
  · have : news = [] := List.eq_nil_of_length_eq_zero (by omega)
    subst this
    cases p with
    | none => exact run_firstCells_none wd 1 0 0 cap
    | some x => exact run_firstCells_some (P := P) wd 1 0 x 0 cap [] rfl (fun j u hj => by simp at hj)
theorem bytesIn_src {P : Program} {B : Nat} {w : World} {p : Option Addr} {bs : List UInt8} (h : BytesIn B w p bs) (len cap : Nat) (hl : bs.length = len) :
    ∀ wd : World, wd.heap = w.heap → (Builtin.firstCells 1 len (.slice p len cap)).run P wd = .ok (Lib.byteCells bs).toArray wd :=
  src_any (by rw [Lib.byteCells_length, hl]) (fun h0 => by
    obtain ⟨b, o, e, _, hc⟩ := h (by omega)
    refine ⟨b, o, e, fun j u hj => ?_⟩
    have hjl : j < bs.length := by
      have h5 := (List.getElem?_eq_some_iff.1 hj).1
      rwa [Lib.byteCells_length] at h5
    have e5 : (Lib.byteCells bs)[j]? = some (Value.int .u8 (bs[j].toNat : Int)) := by simp [Lib.byteCells, hjl]
    rw [e5] at hj
    cases hj
    exact hc j hjl)
theorem boolsIn_src {P : Program} {B : Nat} {w : World} {p : Option Addr} {hs : List Bool} (h : BoolsIn B w p hs) (len cap : Nat) (hl : hs.length = len) :
    ∀ wd : World, wd.heap = w.heap → (Builtin.firstCells 1 len (.slice p len cap)).run P wd = .ok (boolCells hs).toArray wd :=
  src_any (by simp [boolCells, hl]) (fun h0 => by
    obtain ⟨b, o, e, _, hc⟩ := h (by omega)
    refine ⟨b, o, e, fun j u hj => ?_⟩
    have hjl : j < hs.length := by
      have h5 := (List.getElem?_eq_some_iff.1 hj).1
      simpa [boolCells] using h5
    have e5 : (boolCells hs)[j]? = some (Value.bool hs[j]) := by simp [boolCells, hjl]
    rw [e5] at hj
    cases hj
    exact hc j hjl)
theorem bytes_one (l : List UInt8) : ∀ u ∈ Lib.byteCells l, u.oneCell' = true := by
  intro u' hu'; simp only [Lib.byteCells, List.mem_map] at hu'; obtain ⟨b, _, rfl⟩ := hu'; rfl
theorem bools_one (l : List Bool) : ∀ u ∈ boolCells l, u.oneCell' = true := by
  intro u' hu'; simp only [boolCells, List.mem_map] at hu'; obtain ⟨b, _, rfl⟩ := hu'; rfl
theorem Owns.form {w : World} {B : Nat} {v : Value} {n : Nat} {xs : List Value} (h : Owns w B v n xs) : ∃ p cap, v = .slice p n cap ∧ (0 < n → ∃ g, p = some ⟨g, 0, none⟩ ∧ B ≤ g ∧ g < w.heap.size) := by
  rcases h.2 with ⟨rfl, rfl⟩ | ⟨g, cap, cur, T, fz, rfl, hb, hg, _⟩
  · exact ⟨none, 0, rfl, fun h => by omega⟩
  · exact ⟨_, cap, rfl, fun _ => ⟨g, rfl, hb, (Array.getElem?_eq_some_iff.1 hg).1⟩⟩
theorem below_nil {B : Nat} {w w' : World} {n m : Nat} {v' : Value} {ys : List Value} (h : Ext B w (.slice none 0 0) n w' v' m ys) : Below w.heap.size w w' := h.kept.toBelow (Nat.le_refl _) (fun k hk => by cases hk)

/-- The old pieces: the first k are marked, the others zero. -/
def zeroPiece : List Value := [.nilFunc, .pointer none, .int .i64 0, .int .i64 0, .int .i64 0, .int .i64 0]
def oldPiece (j : Nat) : List Value := [.nilFunc, .pointer none, .int .i64 (j : Int), .int .i64 1, .int .i64 0, .int .i64 0]
def olds (k m : Nat) : List Value := (List.range k).flatMap oldPiece ++ (List.replicate (m - k) zeroPiece).flatten
theorem seven {m : Nat} (h : m ≤ 7) : m = 0 ∨ m = 1 ∨ m = 2 ∨ m = 3 ∨ m = 4 ∨ m = 5 ∨ m = 6 ∨ m = 7 := by omega
theorem olds_made (m : Nat) (h : m ≤ 7) : (madeCells #[.nilFunc, .pointer none, .int .i64 0, .int .i64 0, .int .i64 0, .int .i64 0] (m * 6)).toList = olds 0 m := by
  rcases seven h with rfl | rfl | rfl | rfl | rfl | rfl | rfl | rfl <;> kernel_rfl
theorem olds_step (k m : Nat) (h : m ≤ 7) (hk : k < m) : ((olds k m).set (k * 6 + 2) (.int .i64 (k : Int))).set (k * 6 + 3) (.int .i64 1) = olds (k + 1) m := by
  rcases seven h with rfl | rfl | rfl | rfl | rfl | rfl | rfl | rfl <;> rcases seven (show k ≤ 7 by omega) with rfl | rfl | rfl | rfl | rfl | rfl | rfl | rfl <;> first | omega | rfl
theorem olds_length (k m : Nat) (h : m ≤ 7) (hk : k ≤ m) : (olds k m).length = m * 6 := by
  rcases seven h with rfl | rfl | rfl | rfl | rfl | rfl | rfl | rfl <;> rcases seven (show k ≤ 7 by omega) with rfl | rfl | rfl | rfl | rfl | rfl | rfl | rfl <;> first | omega | rfl
theorem olds_at (k m : Nat) (h : m ≤ 7) (hk : k < m) : (olds k m)[k * 6 + 2]? = some (.int .i64 0) ∧ (olds k m)[k * 6 + 3]? = some (.int .i64 0) := by
  rcases seven h with rfl | rfl | rfl | rfl | rfl | rfl | rfl | rfl <;> rcases seven (show k ≤ 7 by omega) with rfl | rfl | rfl | rfl | rfl | rfl | rfl | rfl <;> first | omega | exact ⟨rfl, rfl⟩

theorem neq39_nil (w : World) : (binOp .neq 39 .nilFunc .nilFunc).run Yba.prog w = .ok (.bool false) w := by kernel_rfl
theorem eq39_fn (bs : Array Value) (w : World) : (binOp .eql 39 (.func (.func 14) #[] bs) .nilFunc).run Yba.prog w = .ok (.bool false) w := by kernel_rfl
theorem neq38 (a : Int) (w : World) : (binOp .neq 38 (.agg #[.int .i64 a, .int .i64 1]) (.agg #[.int .i64 a, .int .i64 1])).run Yba.prog w = .ok (.bool false) w := by
  have hS : Yba.prog.underlying 38 = some (.struct (Yba.prog.fieldsOf 38)) := by kernel_rfl
  have hp : Yba.prog.stoodInHeld 38 = false := by kernel_rfl
  have u3 := Yba.underlying13
  have a3 := Yba.isAgg13
  have z3 := Yba.sizeOf13
  rw [run_neq_struct, show (10000 : Nat) = 9999 + 1 from rfl, run_equalIn_agg w 9999 38 _ _ hS hp]
  simp only [Program.fieldsOf, Yba.underlying38]
  go_simp
theorem neq38_zero (w : World) : (binOp .neq 38 (.agg #[.int .i64 0, .int .i64 0]) (.agg #[.int .i64 0, .int .i64 0])).run Yba.prog w = .ok (.bool false) w := by kernel_rfl
theorem cells_at {w : World} {b : Nat} {cs : Array Value} {T : TypeId} {fz : Nat × Nat} (h : w.heap[b]? = some (.cells cs T fz)) (i : Nat) (v : Value) (hv : cs[i]? = some v) : w.cell? ⟨b, i, none⟩ = some v := by
  simp [World.cell?, h, hv]

theorem cell_set {w : World} {b i : Nat} {cs : Array Value} {T : TypeId} (hb : w.heap[b]? = some (.cells cs T (0, 0))) (v : Value) :
    (w.setCell ⟨b, i, none⟩ v).heap[b]? = some (.cells (cs.setIfInBounds i v) T (0, 0)) := heap_setCell_same w b i cs T v hb
theorem row_form {w : World} {B e s n : Nat} {v : Value} {xs : List Value} (h : w.ownsRow B e s v n xs) : ∃ p cap, v = .slice p n cap ∧ (0 < n → ∃ g, p = some ⟨g, 0, none⟩ ∧ ∀ i u, xs[i]? = some u → w.cell? ⟨g, i, none⟩ = some u) := by
  rcases h.2 with ⟨rfl, rfl⟩ | ⟨g, cap, cur, rfl, _, hg, _, _, _, ht⟩
  · exact ⟨none, 0, rfl, fun h => by omega⟩
  · refine ⟨_, cap, rfl, fun _ => ⟨g, rfl, fun i u hu => ?_⟩⟩
    refine cells_at hg i u ?_
    rw [← ht, List.getElem?_take] at hu
    split at hu
    · simpa using hu
    · cases hu
theorem olds_cells (m j : Nat) (h : m ≤ 7) (hj : j < m) (ys : List Value) : (olds m m ++ ys)[j * 6]? = some .nilFunc ∧ (olds m m ++ ys)[j * 6 + 1]? = some (.pointer none) ∧ (olds m m ++ ys)[j * 6 + 2]? = some (.int .i64 (j : Int)) ∧ (olds m m ++ ys)[j * 6 + 3]? = some (.int .i64 1) ∧ (olds m m ++ ys)[j * 6 + 4]? = some (.int .i64 0) ∧ (olds m m ++ ys)[j * 6 + 5]? = some (.int .i64 0) := by
  have hl := olds_length m m h (Nat.le_refl _)
  rw [List.getElem?_append_left (by omega), List.getElem?_append_left (by omega), List.getElem?_append_left (by omega), List.getElem?_append_left (by omega), List.getElem?_append_left (by omega), List.getElem?_append_left (by omega)]
  clear hl
  rcases seven h with rfl | rfl | rfl | rfl | rfl | rfl | rfl | rfl <;> rcases seven (show j ≤ 7 by omega) with rfl | rfl | rfl | rfl | rfl | rfl | rfl | rfl <;> first | omega | exact ⟨rfl, rfl, rfl, rfl, rfl, rfl⟩
theorem pieces_at (fb pb : Nat) : ∀ (bl : List (Nat × Nat)) (j : Nat) (h : j < bl.length) (i : Nat), i < 6 → (pieces fb pb bl)[j * 6 + i]? = (pieceCells fb pb bl[j])[i]?
  | [], j, h, _, _ => by simp at h
  | b :: bl, 0, _, i, hi => by
    rw [pieces, List.flatMap_cons, List.getElem?_append_left (by simp [pieceCells]; omega)]; simp
  | b :: bl, j + 1, h, i, hi => by
    have ih := pieces_at fb pb bl j (by simpa using h) i hi
    rw [pieces, List.flatMap_cons, List.getElem?_append_right (by simp [pieceCells]; omega)]
    have e : (j + 1) * 6 + i - (pieceCells fb pb b).length = j * 6 + i := by simp [pieceCells]; omega
    rw [e]; exact ih
theorem pieces_cells (fb pb m : Nat) (hm : m ≤ 7) (bl : List (Nat × Nat)) (j : Nat) (h : j < bl.length) (i : Nat) (hi : i < 6) : (olds m m ++ pieces fb pb bl)[(m + j) * 6 + i]? = (pieceCells fb pb bl[j])[i]? := by
  have hl := olds_length m m hm (Nat.le_refl _)
  rw [List.getElem?_append_right (by omega), hl, show (m + j) * 6 + i - m * 6 = j * 6 + i by omega]
  exact pieces_at fb pb bl j h i hi
theorem Owns.bytesIn {w : World} {B n c : Nat} {p : Option Addr} {bs : List UInt8} (h : Owns w B (.slice p n c) n (Lib.byteCells bs)) (hl : bs.length = n) : BytesIn w.heap.size w p bs := fun h0 => by
  obtain ⟨g, cap, e, _, hg, _⟩ := h.shape (by omega)
  cases e
  refine ⟨g, 0, rfl, hg, fun i hi => ?_⟩
  have := h.cells (g := g) rfl i (.int .u8 (bs[i].toNat : Int)) (by simp [Lib.byteCells, hi])
  simpa using this
theorem Owns.boolsIn {w : World} {B n c : Nat} {p : Option Addr} {hs : List Bool} (h : Owns w B (.slice p n c) n (boolCells hs)) (hl : hs.length = n) : BoolsIn w.heap.size w p hs := fun h0 => by
  obtain ⟨g, cap, e, _, hg, _⟩ := h.shape (by omega)
  cases e
  refine ⟨g, 0, rfl, hg, fun i hi => ?_⟩
  have := h.cells (g := g) rfl i (.bool hs[i]) (by simp [boolCells, hi])
  simpa using this
theorem conv_any (W : World) (s : ByteArray) (hs : s.size ≤ 1024) (G : Nat) (hG : W.heap.size = G) : ∃ wA cA, (convert 9 23 (.string s)).run Yba.prog W = .ok (.slice (some ⟨G, 0, none⟩) s.size cA) wA ∧ Owns wA G (.slice (some ⟨G, 0, none⟩) s.size cA) s.size (Lib.byteCells s.data.toList) ∧ Below G W wA ∧ wA.heap.size = G + 1 := by
  subst hG
  refine ⟨Lib.bytesWorld W 5 s, grownCap W s.size 0 5, Lib.run_convert_string_bytes W 9 23 5 s Yba.underlying9 Yba.underlying23 Yba.underlying5, ?_, ⟨rfl, rfl, rfl, ?_, fun k hk => Lib.bytesWorld_at_old W 5 s k hk⟩, Lib.bytesWorld_size W 5 s⟩
  · have hge := grownCap_ge W s.size 0 5
    have hle := grownCap_le_maxLen W s.size 0 5 (by unfold maxLen; omega)
    have hsz : (Lib.bytesCells W 5 s).size = grownCap W s.size 0 5 := by
      have : s.data.size = s.size := rfl
      simp [Lib.bytesCells, this]; omega
    have h := Owns.made (B := W.heap.size) (Lib.bytesWorld_at_new W 5 s) (.inr (Nat.le_refl _)) (Nat.le_refl _) s.size (grownCap W s.size 0 5) hge hle hsz
    have e : (Lib.bytesCells W 5 s).toList.take s.size = Lib.byteCells s.data.toList := by
      rw [Lib.bytesCells, Array.toList_append, List.take_append_of_le_length (by simp), List.take_of_length_le (by simp)]
      simp [Lib.byteCells]
    rw [e] at h
    exact h
  · rw [Lib.bytesWorld_size]; omega
theorem back_any (W : World) (B c n : Nat) (p : Option Addr) (l : List UInt8) (hl : l.length = n) (h : Owns W B (.slice p n c) n (Lib.byteCells l)) : (convert 23 9 (.slice p n c)).run Yba.prog W = .ok (.string ⟨l.toArray⟩) W := by
  subst hl
  rcases h.2 with ⟨e, h0⟩ | ⟨g, cap, cur, T, fz, e, hb, hg, _⟩
  · have : l = [] := List.eq_nil_of_length_eq_zero h0
    subst this
    cases e
    show (convert 23 9 (.slice none 0 0)).run Yba.prog W = _
    rw [run_convert_bytes_string W 23 9 5 none 0 0 Yba.underlying23 Yba.underlying5 Yba.underlying9]
    rfl
  · cases e
    refine run_convert_bytes_back W 23 9 5 ⟨g, 0, none⟩ c l Yba.underlying23 Yba.underlying5 Yba.underlying9 (fun j hj => ?_)
    have := h.cells (g := g) rfl j (.int .u8 (l[j].toNat : Int)) (by simp [Lib.byteCells, hj])
    have e0 : (⟨g, 0, none⟩ : Addr).add j = ⟨g, j, none⟩ := by
      unfold Addr.add; split <;> simp_all
    rw [e0]; exact this
theorem Env.base {B B' fb pb tb lv cv lh ch : Nat} {w : World} {nm : ByteArray} {useH : Bool} {pv ph : Option Addr} {bs : List UInt8} {hs : List Bool} (h : Env B w fb pb tb nm useH pv lv cv bs ph lh ch hs) (hb : B ≤ B') : Env B' w fb pb tb nm useH pv lv cv bs ph lh ch hs :=
  ⟨Nat.lt_of_lt_of_le h.fbB hb, Nat.lt_of_lt_of_le h.pbB hb, Nat.lt_of_lt_of_le h.tbB hb, h.name, h.hasF, h.avF, h.tp, h.tv, h.th,
   fun h0 => by obtain ⟨b, o, e, hlt, hc⟩ := h.vals h0; exact ⟨b, o, e, Nat.lt_of_lt_of_le hlt hb, hc⟩,
   fun h0 => by obtain ⟨b, o, e, hlt, hc⟩ := h.hass h0; exact ⟨b, o, e, Nat.lt_of_lt_of_le hlt hb, hc⟩⟩

theorem ext_line3 {B n : Nat} {w w4 : World} {sv v4 : Value} {xs : List Value} {L : List UInt8} {nm : ByteArray} {c : UInt8}
    (h : Ext B w sv n w4 v4 (n + L.length + nm.size + 3) (xs ++ Lib.byteCells L ++ Lib.strCells nm ++ [.int .u8 32, .int .u8 (c.toNat : Int), .int .u8 10])) :
    Ext B w sv n w4 v4 (n + (L ++ (nm.data.toList ++ [32, c, 10])).length) (xs ++ Lib.byteCells (L ++ (nm.data.toList ++ [32, c, 10]))) := by
  have e1 : n + (L ++ (nm.data.toList ++ [32, c, 10])).length = n + L.length + nm.size + 3 := by
    have h1 : nm.data.toList.length = nm.size := Array.length_toList
    simp only [List.length_append, List.length_cons, List.length_nil, h1]
    omega
  have e2 : xs ++ Lib.byteCells (L ++ (nm.data.toList ++ [32, c, 10])) = xs ++ Lib.byteCells L ++ Lib.strCells nm ++ [.int .u8 32, .int .u8 (c.toNat : Int), .int .u8 10] := by
    simp [Lib.byteCells, Lib.strCells]
  rw [e1, e2]
  exact h
theorem src_three {P : Program} {w : World} {g : Nat} {a b c : Value} (hg : w.heap.size = g) : ∀ wd : World, wd.heap = (w.alloc (.cells #[a, b, c] 5)).heap → (Builtin.firstCells 1 3 (.slice (some ⟨g, 0, none⟩) 3 3)).run P wd = .ok [a, b, c].toArray wd := by
  subst hg
  refine src_slice _ rfl (fun j u hj => ?_)
  have h := heap_alloc_new w (.cells #[a, b, c] 5)
  refine cells_at h _ u ?_
  simpa using hj
theorem bytesAt_of {B : Nat} {w : World} {p : Option Addr} {bs : List UInt8} (h : BytesIn B w p bs) : BytesAt w p bs := fun h0 => by
  obtain ⟨b, o, e, _, hc⟩ := h h0; exact ⟨b, o, e, hc⟩
theorem boolsAt_of {B : Nat} {w : World} {p : Option Addr} {hs : List Bool} (h : BoolsIn B w p hs) : BoolsAt w p hs := fun h0 => by
  obtain ⟨b, o, e, _, hc⟩ := h h0; exact ⟨b, o, e, hc⟩
end Go.Proofs.Ybulkcygi
