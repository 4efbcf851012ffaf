/- (Field).AppendLines: the pieces. -/
import Derived.Test.YbulkcygiVals
import Derived.Laws.EntriesVeiled
import Derived.Maps.AppendAt
import Derived.Lib.Hide
namespace Go.Proofs.Ybulkcygi
open Go.RowKit Go.Lib

theorem info42 : (Yba.prog.info? 42).map (fun i => (i.zero, i.size, i.bytes)) = some (some (.agg #[.nilFunc, .pointer none, .int .i64 0, .int .i64 0, .int .i64 0, .int .i64 0]), 6, 48) := by kernel_rfl

/-- Where piece j ends. -/
def endOf (lo hi : Int) (j : Nat) : Int := if lo + 8192 * (j : Int) + 8192 ≤ hi then lo + 8192 * (j : Int) + 8192 else hi
/-- A piece's six cells. -/
def pieceCells (fb pb : Nat) (b : Nat × Nat) : List Value :=
  [.func (.func 14) #[] #[.pointer (some ⟨b.1, 0, none⟩), .pointer (some ⟨b.2, 0, none⟩), .pointer (some ⟨fb, 0, none⟩), .pointer (some ⟨pb, 0, none⟩)], .pointer none, .int .i64 0, .int .i64 0, .int .i64 0, .int .i64 0]
def pieces (fb pb : Nat) (bl : List (Nat × Nat)) : List Value := bl.flatMap (pieceCells fb pb)

structure Inv (B : Nat) (w wr : World) (fb pb : Nat) (fc : Array Value) (tb : Nat) (m : Nat) (xs : List Value) (lo hi : Int) (v : Value) (bl : List (Nat × Nat)) : Prop where
  own : wr.ownsRow B 42 6 v (m + bl.length) (xs ++ pieces fb pb bl)
  at1 : ∀ j (h : j < bl.length), wr.cell? ⟨bl[j].1, 0, none⟩ = some (.int .i64 (lo + 8192 * (j : Int))) ∧ v.ownBlock ≠ some bl[j].1
  at2 : ∀ j (h : j < bl.length), wr.cell? ⟨bl[j].2, 0, none⟩ = some (.int .i64 (endOf lo hi j)) ∧ v.ownBlock ≠ some bl[j].2
  fbk : wr.heap[fb]? = some (.cells fc 34 (0, 0))
  fbn : v.ownBlock ≠ some fb
  pbk : wr.heap[pb]? = some (.cells #[.pointer (some ⟨tb, 0, none⟩)] 25 (0, 0))
  pbn : v.ownBlock ≠ some pb
  below : Below B w wr

theorem keepCell {w : World} {o : Obj} {g : Nat} {x : Value} (h : w.cell? ⟨g, 0, none⟩ = some x) : (w.alloc o).cell? ⟨g, 0, none⟩ = some x :=
  (((Below.refl w.heap.size w).alloc (Nat.le_refl _) o).cell (p := ⟨g, 0, none⟩) (World.block_lt_of_cell? _ _ h)).trans h
theorem newCell {w : World} {g : Nat} {x : Value} {t : TypeId} (hg : w.heap.size = g) : (w.alloc (.cells #[x] t)).cell? ⟨g, 0, none⟩ = some x := by subst hg; simp
theorem Inv.step {B : Nat} {w wr w1 : World} {fb pb : Nat} {fc : Array Value} {tb m : Nat} {xs : List Value} {lo hi : Int} {v v' : Value} {bl : List (Nat × Nat)} (h : Inv B w wr fb pb fc tb m xs lo hi v bl) (hB : B ≤ wr.heap.size) {o : Obj} {x y : Value}
    (hx : x = .int .i64 (lo + 8192 * (bl.length : Int))) (hy : y = .int .i64 (endOf lo hi bl.length))
    (hown : w1.ownsRow B 42 6 v' (m + bl.length + 1) (xs ++ (pieces fb pb bl ++ pieceCells fb pb (wr.heap.size, wr.heap.size + 1))))
    (hg : (((wr.alloc (.cells #[x] 3)).alloc (.cells #[y] 3)).alloc o).grownBy w1 v.ownBlock)
    (hat : v'.ownBlock = v.ownBlock ∨ v'.ownBlock = some (wr.heap.size + 1 + 1 + 1)) :
    Inv B w w1 fb pb fc tb m xs lo hi v' (bl ++ [(wr.heap.size, wr.heap.size + 1)]) := by
  have hlt : ∀ k, v.ownBlock = some k → B ≤ k ∧ k < wr.heap.size := fun k hk => h.own.lt k hk
  have hsz : (((wr.alloc (.cells #[x] 3)).alloc (.cells #[y] 3)).alloc o).heap.size = wr.heap.size + 3 := by simp
  have hblk : ∀ g, g < wr.heap.size → v.ownBlock ≠ some g → w1.heap[g]? = wr.heap[g]? := fun g hg1 hg2 => by
    rw [hg.block g (by rw [hsz]; omega) (fun e => hg2 e.symm), Below.heap_alloc _ _ _ (by simp; omega), Below.heap_alloc _ _ _ (by simp; omega), Below.heap_alloc _ _ _ hg1]
  have hne : ∀ g, g < wr.heap.size + 3 → v.ownBlock ≠ some g → v'.ownBlock ≠ some g := fun g hg1 hg2 e => by
    rcases hat with h1 | h1
    · exact hg2 (h1.symm.trans e)
    · rw [e] at h1; cases h1; omega
  have hnew : ∀ g, wr.heap.size ≤ g → v.ownBlock ≠ some g := fun g hg1 e => by have := (hlt g e).2; omega
  have c1 : w1.cell? ⟨wr.heap.size, 0, none⟩ = some x := by
    rw [World.cell?_of_block (hg.block wr.heap.size (by rw [hsz]; omega) (fun e => hnew _ (Nat.le_refl _) e.symm))]
    exact keepCell (keepCell (newCell rfl))
  have c2 : w1.cell? ⟨wr.heap.size + 1, 0, none⟩ = some y := by
    rw [World.cell?_of_block (hg.block (wr.heap.size + 1) (by rw [hsz]; omega) (fun e => hnew _ (by omega) e.symm))]
    exact keepCell (newCell (by simp))
  have cellOld : ∀ g u, wr.cell? ⟨g, 0, none⟩ = some u → v.ownBlock ≠ some g → w1.cell? ⟨g, 0, none⟩ = some u := fun g u hc hn =>
    (World.cell?_of_block (hblk g (World.block_lt_of_cell? _ _ hc) hn)).trans hc
  refine ⟨?_, ?_, ?_, ?_, ?_, ?_, ?_, ?_⟩
  · simpa [pieces, Nat.add_assoc] using hown
  · intro j hj
    simp only [List.length_append, List.length_cons, List.length_nil] at hj
    by_cases hjl : j < bl.length
    · rw [List.getElem_append_left hjl]
      have := h.at1 j hjl
      have hb := World.block_lt_of_cell? _ _ this.1
      exact ⟨cellOld _ _ this.1 this.2, hne _ (by simp only at hb; omega) this.2⟩
    · obtain rfl : j = bl.length := by omega
      simp only [List.getElem_concat_length]
      exact ⟨c1.trans (by rw [hx]), hne _ (by omega) (hnew _ (Nat.le_refl _))⟩
  · intro j hj
    simp only [List.length_append, List.length_cons, List.length_nil] at hj
    by_cases hjl : j < bl.length
    · rw [List.getElem_append_left hjl]
      have := h.at2 j hjl
      have hb := World.block_lt_of_cell? _ _ this.1
      exact ⟨cellOld _ _ this.1 this.2, hne _ (by simp only at hb; omega) this.2⟩
    · obtain rfl : j = bl.length := by omega
      simp only [List.getElem_concat_length]
      exact ⟨c2.trans (by rw [hy]), hne _ (by omega) (hnew _ (by omega))⟩
  · have hb := (Array.getElem?_eq_some_iff.1 h.fbk).1
    exact (hblk fb hb h.fbn).trans h.fbk
  · exact hne _ (by have := (Array.getElem?_eq_some_iff.1 h.fbk).1; omega) h.fbn
  · have hb := (Array.getElem?_eq_some_iff.1 h.pbk).1
    exact (hblk pb hb h.pbn).trans h.pbk
  · exact hne _ (by have := (Array.getElem?_eq_some_iff.1 h.pbk).1; omega) h.pbn
  · refine h.below.trans ⟨hg.os, hg.tape, hg.output, ?_, fun k hk => hblk k (by omega) (fun e => by have := (hlt k e).1; omega)⟩
    have := hg.size; rw [hsz] at this; omega

theorem news_six (w : World) (a b c d e f : Value) (t : TypeId) : ∀ j u, [a, b, c, d, e, f][j]? = some u → (w.alloc (.cells #[a, b, c, d, e, f] t)).cell? ((⟨w.heap.size, 0, none⟩ : Addr).add j) = some u := by
  intro j u hj
  rw [Addr.add_lit, Nat.zero_add]
  match j, hj with
  | 0, hj => simp at hj; subst hj; simp
  | 1, hj => simp at hj; subst hj; simp
  | 2, hj => simp at hj; subst hj; simp
  | 3, hj => simp at hj; subst hj; simp
  | 4, hj => simp at hj; subst hj; simp
  | 5, hj => simp at hj; subst hj; simp
  | (n + 6), hj => simp at hj
theorem news_piece (w : World) (g : Nat) (hg : w.heap.size = g) (fb pb : Nat) (b : Nat × Nat) (t : TypeId) : ∀ j u, (pieceCells fb pb b)[j]? = some u → (w.alloc (.cells #[.func (.func 14) #[] #[.pointer (some ⟨b.1, 0, none⟩), .pointer (some ⟨b.2, 0, none⟩), .pointer (some ⟨fb, 0, none⟩), .pointer (some ⟨pb, 0, none⟩)], .pointer none, .int .i64 0, .int .i64 0, .int .i64 0, .int .i64 0] t)).cell? ((⟨g, 0, none⟩ : Addr).add j) = some u := by
  subst hg
  exact news_six w _ _ _ _ _ _ t
theorem piece_one (fb pb : Nat) (b : Nat × Nat) : ∀ u ∈ pieceCells fb pb b, u.oneCell' = true := by
  intro u hu
  simp only [pieceCells, List.mem_cons, List.not_mem_nil, or_false] at hu
  rcases hu with rfl | rfl | rfl | rfl | rfl | rfl <;> rfl

set_option maxHeartbeats 1600000 in
set_option maxRecDepth 100000 in
theorem lines_any (B m K tb : Nat) (nm : ByteArray) (hv sv : Value) (xs : List Value) (lo hi : Int) (w : World) (hlo : -1000 ≤ lo) (hhi : hi ≤ 100000) (hlo2 : lo ≤ 1000) (hhi2 : -100000 ≤ hi) (hK : ∀ k : Nat, k < K ↔ lo + 8192 * (k : Int) < hi) (hKm : K ≤ 3) (hm : m ≤ 7)
    (_hhv : hv.oneCell' = true) (hown : w.ownsRow B 42 6 sv m xs) (hBw : B ≤ w.heap.size) :
    Calls Yba.prog 10 #[.agg #[.string nm, .nilFunc, .bool false, .bool false, hv, .func (.func 6) #[] #[], .nilFunc], sv, .pointer (some ⟨tb, 0, none⟩), .int .i64 lo, .int .i64 hi] w fun e w' => ∃ v' bl, e = .returned v' ∧ bl.length = K ∧
      Inv B w w' w.heap.size (w.heap.size + 1) #[.string nm, .nilFunc, .bool false, .bool false, hv, .func (.func 6) #[] #[], .nilFunc] tb m xs lo hi v' bl := by
  obtain ⟨i0, hi0, hz0, hz1, hz2⟩ := info_parts info42
  have hlt0 : ∀ k, sv.ownBlock = some k → B ≤ k ∧ k < w.heap.size := fun k hk => hown.lt k hk
  have hI0 : Inv B w ((w.alloc (.cells #[.string nm, .nilFunc, .bool false, .bool false, hv, .func (.func 6) #[] #[], .nilFunc] 34)).alloc (.cells #[.pointer (some ⟨tb, 0, none⟩)] 25)) w.heap.size (w.heap.size + 1) #[.string nm, .nilFunc, .bool false, .bool false, hv, .func (.func 6) #[] #[], .nilFunc] tb m xs lo hi sv [] := by
    refine ⟨by simpa [pieces] using (hown.alloc _).alloc _, fun j h => by simp at h, fun j h => by simp at h, ?_, ?_, ?_, ?_, ?_⟩
    · rw [Below.heap_alloc _ _ _ (by simp)]; exact heap_alloc_new w _
    · intro e; have := (hlt0 _ e).2; omega
    · have := heap_alloc_new (w.alloc (.cells #[.string nm, .nilFunc, .bool false, .bool false, hv, .func (.func 6) #[] #[], .nilFunc] 34)) (.cells #[.pointer (some ⟨tb, 0, none⟩)] 25)
      simpa using this
    · intro e; have := (hlt0 _ e).2; omega
    · exact ((Below.refl _ _).alloc hBw _).alloc (by simp; omega) _
  have HI0 := Lib.hid hI0
  have HK := Lib.hid hK
  clear hI0 hK
  go_enter Yba.func10, Yba.ntmps10
  go_wp2_with fail
  go_loopw [1, 3] (fun v iv wr => ∃ bl : List (Nat × Nat), bl.length ≤ K ∧ iv = .int .i64 (lo + 8192 * (bl.length : Int)) ∧ w.heap.size + 2 ≤ wr.heap.size ∧ Inv B w wr w.heap.size (w.heap.size + 1) #[.string nm, .nilFunc, .bool false, .bool false, hv, .func (.func 6) #[] #[], .nilFunc] tb m xs lo hi v bl)
    (fun _ iv _ => (hi - intOf iv).toNat)
  case atStart => exact ⟨[], by simp, by show _ = Value.int .i64 (lo + 8192 * 0); rw [Int.mul_zero, Int.add_zero], by simp, HI0.out⟩
  case round =>
    obtain ⟨bl, hbl, rfl, hsz, hI⟩ := hrel
    have HI := Lib.hid hI
    have hown1 := hI.own
    clear hI
    by_cases hlt : bl.length < K
    · have hl := (HK.out bl.length).1 hlt
      by_cases hend : lo + 8192 * (bl.length : Int) + 8192 ≤ hi
      · have he : endOf lo hi bl.length = lo + 8192 * (bl.length : Int) + 8192 := by unfold endOf; rw [if_pos hend]
        have HE := Lib.hid he
        clear he
        go_wp2_with (at_builtin; refine wpList_append_own_at _ rfl (.tmp 23) (.tmp 26) 36 rfl B 42 i0 _ 6 48 Yba.underlying36 hi0 hz0 hz1 hz2 rfl (by decide) _ _ _ rfl (((hown1.alloc _).alloc _).alloc _) ⟨wr.heap.size + 1 + 1, 0, none⟩ 1 1 (pieceCells w.heap.size (w.heap.size + 1) (wr.heap.size, wr.heap.size + 1)) rfl rfl (news_piece _ _ (by simp) _ _ (wr.heap.size, wr.heap.size + 1) _) (piece_one _ _ _) ?c3 ?c4 ?c5 ?_)
        case c3 => unfold maxLen; omega
        case c4 => omega
        case c5 => have := HI.out.below.size; simp; omega
        intro v' w1 hown2 hg _ hat
        have hS := HI.out.step (by omega) rfl (by rw [HE.out]) hown2 hg hat
        have hsz2 := hg.size
        simp at hsz2
        have HS := Lib.hid hS
        clear hown2 hg hat hS hown1
        go_wp2
        go_roundw
        case rel => exact ⟨bl ++ [(wr.heap.size, wr.heap.size + 1)], by simp; omega, by simp only [List.length_append, List.length_cons, List.length_nil]; go_num, by omega, HS.out⟩
        case measure => simp [intOf]; omega
      · have he : endOf lo hi bl.length = hi := by unfold endOf; rw [if_neg hend]
        have HE := Lib.hid he
        clear he
        go_wp2_with (at_builtin; refine wpList_append_own_at _ rfl (.tmp 23) (.tmp 26) 36 rfl B 42 i0 _ 6 48 Yba.underlying36 hi0 hz0 hz1 hz2 rfl (by decide) _ _ _ rfl (((hown1.alloc _).alloc _).alloc _) ⟨wr.heap.size + 1 + 1, 0, none⟩ 1 1 (pieceCells w.heap.size (w.heap.size + 1) (wr.heap.size, wr.heap.size + 1)) rfl rfl (news_piece _ _ (by simp) _ _ (wr.heap.size, wr.heap.size + 1) _) (piece_one _ _ _) ?c3 ?c4 ?c5 ?_)
        case c3 => unfold maxLen; omega
        case c4 => omega
        case c5 => have := HI.out.below.size; simp; omega
        intro v' w1 hown2 hg _ hat
        have hS := HI.out.step (by omega) rfl (by rw [HE.out]) hown2 hg hat
        have hsz2 := hg.size
        simp at hsz2
        have HS := Lib.hid hS
        clear hown2 hg hat hS hown1
        go_wp2
        go_roundw
        case rel => exact ⟨bl ++ [(wr.heap.size, wr.heap.size + 1)], by simp; omega, by simp only [List.length_append, List.length_cons, List.length_nil]; go_num, by omega, HS.out⟩
        case measure => simp [intOf]; omega
    · have hl : ¬ (lo + 8192 * (bl.length : Int) < hi) := fun h => hlt ((HK.out bl.length).2 h)
      go_wp2
      go_ret
      exact ⟨_, rfl, bl, by omega, HI.out⟩
end Go.Proofs.Ybulkcygi
