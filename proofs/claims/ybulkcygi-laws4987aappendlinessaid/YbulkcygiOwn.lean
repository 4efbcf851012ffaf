/- A row of one-cell elements that the call owns, whatever type's number its block bears; what an append does to it; what stays. -/
import Derived.WalkKit
import Derived.OwnWalk
import Derived.Below
import Derived.Laws.AppendOwn
import Derived.Lib.AppendStr
import Derived.Deep.RegionLaw
import Derived.Lib.Hide
import Derived.Lib.ItoaMem
namespace Go.Proofs.Ybulkcygi
open Go.RowKit

/-- v owns the n cells xs at the head of a block of number at least 'base'. -/
def Owns (w : World) (base : Nat) (v : Value) (n : Nat) (xs : List Value) : Prop :=
  xs.length = n ∧
  ((v = .slice none 0 0 ∧ n = 0) ∨
   ∃ g cap cur T fz, v = .slice (some ⟨g, 0, none⟩) n cap ∧ base ≤ g ∧ w.heap[g]? = some (.cells cur T fz) ∧ (∀ k, n ≤ k → k < cap → ¬ (fz.1 ≤ k ∧ k < fz.2)) ∧ n ≤ cap ∧ cap ≤ maxLen ∧ cur.size = cap ∧ cur.toList.take n = xs)

/-- w' is w with new blocks, and with writes to block 'row' from cell n on alone. -/
structure Kept (w w' : World) (row : Option Nat) (n : Nat) : Prop where
  os : w'.os = w.os
  tape : w'.tape = w.tape
  output : w'.output = w.output
  size : w.heap.size ≤ w'.heap.size
  block : ∀ k, k < w.heap.size → some k ≠ row → w'.heap[k]? = w.heap[k]?
  own : ∀ k, row = some k → ∀ cur T fz, w.heap[k]? = some (.cells cur T fz) → ∃ cur', w'.heap[k]? = some (.cells cur' T fz) ∧ cur'.size = cur.size ∧ cur'.toList.take n = cur.toList.take n

theorem take_le {α : Type} {a b : List α} {n m : Nat} (h : a.take n = b.take n) (hm : m ≤ n) : a.take m = b.take m := by
  have := congrArg (List.take m) h
  rwa [List.take_take, List.take_take, Nat.min_eq_left hm] at this

theorem Kept.refl (w : World) (row : Option Nat) (n : Nat) : Kept w w row n := ⟨rfl, rfl, rfl, Nat.le_refl _, fun _ _ _ => rfl, fun _ _ cur _ _ h => ⟨cur, h, rfl, rfl⟩⟩

theorem Kept.trans {w w1 w2 : World} {row row1 : Option Nat} {n n1 : Nat} (h : Kept w w1 row n) (k : Kept w1 w2 row1 n1)
    (hr : (row1 = row ∧ n ≤ n1) ∨ ∀ j, row1 = some j → w.heap.size ≤ j) : Kept w w2 row n := by
  refine ⟨k.os.trans h.os, k.tape.trans h.tape, k.output.trans h.output, Nat.le_trans h.size k.size, ?_, ?_⟩
  · intro j hj hne
    have h1 : some j ≠ row1 := by
      rcases hr with ⟨rfl, _⟩ | hr
      · exact hne
      · intro e; have := hr j e.symm; omega
    exact (k.block j (Nat.lt_of_lt_of_le hj h.size) h1).trans (h.block j hj hne)
  · intro j hj cur T fz hc
    obtain ⟨c1, e1, s1, t1⟩ := h.own j hj cur T fz hc
    rcases hr with ⟨rfl, hn⟩ | hr
    · obtain ⟨c2, e2, s2, t2⟩ := k.own j hj c1 T fz e1
      exact ⟨c2, e2, s2.trans s1, (take_le t2 hn).trans t1⟩
    · have hlt : j < w.heap.size := (Array.getElem?_eq_some_iff.1 hc).1
      have h1 : some j ≠ row1 := by intro e; have := hr j e.symm; omega
      exact ⟨c1, (k.block j (Nat.lt_of_lt_of_le hlt h.size) h1).trans e1, s1, t1⟩

theorem Kept.alloc {w w1 : World} {row : Option Nat} {n : Nat} (h : Kept w w1 row n) (o : Obj) : Kept w (w1.alloc o) row n :=
  h.trans (row1 := none) (n1 := 0) ⟨rfl, rfl, rfl, by simp, fun k hk _ => Below.heap_alloc w1 o k hk, fun _ e => by cases e⟩ (.inr fun _ e => by cases e)

theorem Kept.drew {w w1 : World} {row : Option Nat} {n : Nat} (h : Kept w w1 row n) : Kept w w1.drew row n := ⟨h.os, h.tape, h.output, h.size, h.block, h.own⟩

theorem Kept.below {w w1 w2 : World} {row : Option Nat} {n : Nat} (h : Kept w w1 row n) (hb : Below w1.heap.size w1 w2) : Kept w w2 row n :=
  h.trans (row1 := none) (n1 := 0) ⟨hb.os, hb.tape, hb.output, hb.size, fun k hk _ => hb.block k hk, fun _ e => by cases e⟩ (.inr fun _ e => by cases e)

theorem Kept.toBelow {w w' : World} {row : Option Nat} {n B : Nat} (h : Kept w w' row n) (hB : B ≤ w.heap.size) (hr : ∀ k, row = some k → B ≤ k) : Below B w w' :=
  ⟨h.os, h.tape, h.output, h.size, fun k hk => h.block k (by omega) (fun e => by have := hr k e.symm; omega)⟩

theorem Owns.lt {w : World} {B : Nat} {v : Value} {n : Nat} {xs : List Value} (h : Owns w B v n xs) : ∀ k, v.ownBlock = some k → B ≤ k ∧ k < w.heap.size := by
  intro k hk
  rcases h.2 with ⟨rfl, _⟩ | ⟨g, cap, cur, T, fz, rfl, hb, hg, _⟩
  · simp [Value.ownBlock] at hk
  · simp [Value.ownBlock] at hk
    subst hk
    exact ⟨hb, (Array.getElem?_eq_some_iff.1 hg).1⟩

theorem Owns.kept {w w' : World} {B : Nat} {v : Value} {n m : Nat} {xs : List Value} {row : Option Nat} (h : Owns w B v n xs) (k : Kept w w' row m) (hne : v.ownBlock ≠ row ∨ n ≤ m) : Owns w' B v n xs := by
  refine ⟨h.1, ?_⟩
  rcases h.2 with hn | ⟨g, cap, cur, T, fz, rfl, hb, hg, hf, h1, h2, h3, h4⟩
  · exact .inl hn
  · by_cases hr : some g = row
    · have hnm : n ≤ m := by
        rcases hne with hne | hne
        · exact absurd hr hne
        · exact hne
      obtain ⟨c', e1, e2, e3⟩ := k.own g hr.symm cur T fz hg
      exact .inr ⟨g, cap, c', T, fz, rfl, hb, e1, hf, h1, h2, e2.trans h3, (take_le e3 hnm).trans h4⟩
    · exact .inr ⟨g, cap, cur, T, fz, rfl, hb, (k.block g (Array.getElem?_eq_some_iff.1 hg).1 hr).trans hg, hf, h1, h2, h3, h4⟩

theorem Owns.alloc {w : World} {B : Nat} {v : Value} {n : Nat} {xs : List Value} (h : Owns w B v n xs) (o : Obj) : Owns (w.alloc o) B v n xs :=
  h.kept (row := none) (m := n) ((Kept.refl w none n).alloc o) (.inr (Nat.le_refl _))

theorem Owns.drew {w : World} {B : Nat} {v : Value} {n : Nat} {xs : List Value} (h : Owns w B v n xs) : Owns w.drew B v n xs :=
  h.kept (row := none) (m := n) ((Kept.refl w none n).drew) (.inr (Nat.le_refl _))

theorem Owns.below {w w' : World} {B C : Nat} {v : Value} {n : Nat} {xs : List Value} (h : Owns w B v n xs) (hb : Below C w w') (hC : ∀ k, v.ownBlock = some k → k < C) : Owns w' B v n xs := by
  refine ⟨h.1, ?_⟩
  rcases h.2 with hn | ⟨g, cap, cur, T, fz, rfl, hbg, hg, rest⟩
  · exact .inl hn
  · exact .inr ⟨g, cap, cur, T, fz, rfl, hbg, (hb.block g (hC g rfl)).trans hg, rest⟩

theorem Owns.base {w : World} {B B' : Nat} {v : Value} {n : Nat} {xs : List Value} (h : Owns w B v n xs) (hB : B' ≤ B) : Owns w B' v n xs :=
  ⟨h.1, h.2.imp id fun ⟨g, cap, cur, T, fz, a, b, c⟩ => ⟨g, cap, cur, T, fz, a, Nat.le_trans hB b, c⟩⟩

theorem Owns.nil (w : World) (B : Nat) : Owns w B (.slice none 0 0) 0 [] := ⟨rfl, .inl ⟨rfl, rfl⟩⟩

theorem Owns.made {w : World} {B g : Nat} {cur : Array Value} {T : TypeId} {fz : Nat × Nat} (h : w.heap[g]? = some (.cells cur T fz)) (hfz : fz.2 = 0 ∨ cur.size ≤ fz.1) (hB : B ≤ g) (n cap : Nat) (hn : n ≤ cap) (hm : cap ≤ maxLen) (hs : cur.size = cap) :
    Owns w B (.slice (some ⟨g, 0, none⟩) n cap) n (cur.toList.take n) := ⟨by simp; omega, .inr ⟨g, cap, cur, T, fz, rfl, hB, h, fun k _ _ => by omega, hn, hm, hs, rfl⟩⟩

theorem Owns.cells {w : World} {B : Nat} {v : Value} {n : Nat} {xs : List Value} (h : Owns w B v n xs) {g : Nat} (hg : v.ownBlock = some g) : ∀ (j : Nat) u, xs[j]? = some u → w.cell? ⟨g, j, none⟩ = some u := by
  intro j u hu
  rcases h.2 with ⟨rfl, _⟩ | ⟨g', cap, cur, T, fz, rfl, _, hgg, _, _, _, _, htake⟩
  · simp [Value.ownBlock] at hg
  · simp [Value.ownBlock] at hg
    subst hg
    rw [cell_of_row w g' j cur T fz hgg]
    rw [← htake, List.getElem?_take] at hu
    split at hu
    · simpa using hu
    · cases hu

/-- The shape of an owned value that is not empty. -/
theorem Owns.shape {w : World} {B : Nat} {v : Value} {n : Nat} {xs : List Value} (h : Owns w B v n xs) (hn : 0 < n) : ∃ g cap, v = .slice (some ⟨g, 0, none⟩) n cap ∧ B ≤ g ∧ g < w.heap.size ∧ n ≤ cap := by
  rcases h.2 with ⟨_, h0⟩ | ⟨g, cap, cur, T, fz, rfl, hb, hg, _, h1, _⟩
  · omega
  · exact ⟨g, cap, rfl, hb, (Array.getElem?_eq_some_iff.1 hg).1, h1⟩

/-- From v's n cells in w to v's ys in w'. -/
structure Ext (B : Nat) (w : World) (v : Value) (n : Nat) (w' : World) (v' : Value) (n' : Nat) (ys : List Value) : Prop where
  own : Owns w' B v' n' ys
  kept : Kept w w' v.ownBlock n
  next : v'.ownBlock = v.ownBlock ∨ ∀ k, v'.ownBlock = some k → w.heap.size ≤ k
  le : n ≤ n'

theorem Ext.refl {B : Nat} {w : World} {v : Value} {n : Nat} {xs : List Value} (h : Owns w B v n xs) : Ext B w v n w v n xs := ⟨h, Kept.refl _ _ _, .inl rfl, Nat.le_refl _⟩

theorem Ext.trans {B : Nat} {w w1 w2 : World} {v v1 v2 : Value} {n n1 n2 : Nat} {ys zs : List Value} (h : Ext B w v n w1 v1 n1 ys) (k : Ext B w1 v1 n1 w2 v2 n2 zs) : Ext B w v n w2 v2 n2 zs := by
  refine ⟨k.own, h.kept.trans k.kept ?_, ?_, Nat.le_trans h.le k.le⟩
  · rcases h.next with e | e
    · exact .inl ⟨e, h.le⟩
    · exact .inr e
  · rcases k.next with e | e
    · rcases h.next with e' | e'
      · exact .inl (e.trans e')
      · exact .inr (fun j hj => e' j (e.symm.trans hj))
    · exact .inr (fun j hj => Nat.le_trans h.kept.size (e j hj))

theorem Ext.alloc {B : Nat} {w w1 : World} {v v1 : Value} {n n1 : Nat} {ys : List Value} (h : Ext B w v n w1 v1 n1 ys) (o : Obj) : Ext B w v n (w1.alloc o) v1 n1 ys := ⟨h.own.alloc o, h.kept.alloc o, h.next, h.le⟩
theorem Ext.drew {B : Nat} {w w1 : World} {v v1 : Value} {n n1 : Nat} {ys : List Value} (h : Ext B w v n w1 v1 n1 ys) : Ext B w v n w1.drew v1 n1 ys := ⟨h.own.drew, h.kept.drew, h.next, h.le⟩
theorem Ext.below {B : Nat} {w w1 w2 : World} {v v1 : Value} {n n1 : Nat} {ys : List Value} (h : Ext B w v n w1 v1 n1 ys) (hb : Below w1.heap.size w1 w2) : Ext B w v n w2 v1 n1 ys :=
  ⟨h.own.below hb (fun k hk => (h.own.lt k hk).2), h.kept.below hb, h.next, h.le⟩

/-- Another owned value stays, if it is not v's own row beyond n. -/
theorem Ext.other {B C : Nat} {w w1 : World} {v v1 : Value} {n n1 : Nat} {ys : List Value} (h : Ext B w v n w1 v1 n1 ys) {u : Value} {m : Nat} {zs : List Value} (hu : Owns w C u m zs) (hne : u.ownBlock ≠ v.ownBlock ∨ m ≤ n) : Owns w1 C u m zs :=
  hu.kept h.kept hne

theorem Ext.toBelow {B : Nat} {w w1 : World} {v v1 : Value} {n n1 : Nat} {xs ys : List Value} (h : Ext B w v n w1 v1 n1 ys) (ho : Owns w B v n xs) (hB : B ≤ w.heap.size) : Below B w w1 :=
  h.kept.toBelow hB (fun k hk => (ho.lt k hk).1)

/-- Cells stored into a row none of whose written cells is marked. -/
theorem run_storeCells_loose (P : Program) (g o : Nat) (t : TypeId) (fz : Nat × Nat) : ∀ (vs : List Value) (i : Nat) (cur : Array Value) (w : World), w.heap[g]? = some (.cells cur t fz) → (∀ k, o + i ≤ k → k < o + i + vs.length → ¬ (fz.1 ≤ k ∧ k < fz.2)) → o + i + vs.length ≤ cur.size → (∀ v ∈ vs, v.oneCell' = true) →
    (storeCells ⟨g, o, none⟩ vs i).run P w = .ok () (w.setRow g (cur.toList.take (o + i) ++ vs ++ cur.toList.drop (o + i + vs.length)).toArray)
  | [], i, cur, w, hg, _, _, _ => by
    simp only [storeCells, List.append_nil, List.length_nil, Nat.add_zero, List.take_append_drop, Array.toArray_toList]
    rw [setRow_self w g cur t fz hg]
    rfl
  | v :: rest, i, cur, w, hg, hfz, hl, h1 => by
    have hi : o + i < cur.size := by simp at hl; omega
    have hadd : (⟨g, o, none⟩ : Addr).add i = ⟨g, o + i, none⟩ := by unfold Addr.add; split <;> simp_all
    have hcell : w.cell? ⟨g, o + i, none⟩ = some cur[o + i] := by simp [World.cell?, hg, hi]
    have hfro : w.frozen? ⟨g, o + i, none⟩ = false := by
      have h2 := hfz (o + i) (Nat.le_refl _) (by simp)
      simp only [World.frozen?, hg, Bool.and_eq_false_iff, decide_eq_false_iff_not]
      omega
    have hst : (store ((⟨g, o, none⟩ : Addr).add i) v).run P w = .ok () (w.setRow g (cur.setIfInBounds (o + i) v)) := by
      rw [hadd, run_store P w _ v _ (h1 v (by simp)), hcell]
      simp [hfro, setCell_eq_setRow w g (o + i) cur t fz v hg]
    have ih := run_storeCells_loose P g o t fz rest (i + 1) (cur.setIfInBounds (o + i) v) (w.setRow g (cur.setIfInBounds (o + i) v)) (setRow_heap w g cur _ t _ hg) (fun k hk1 hk2 => hfz k (by omega) (by simp; omega)) (by simp at hl ⊢; omega) (fun x hx => h1 x (by simp [hx]))
    simp only [storeCells, Sem.run_bind, hst, Result.andThen_ok, ih, setRow_setRow]
    congr 3
    have e := list_seg_step cur.toList (o + i) v rest (by simp at hl ⊢; omega)
    simpa [Array.toList_setIfInBounds, Nat.add_assoc] using e

section
variable {P : Program} (w : World)

theorem run_append_ext (B : Nat) (t t2 ty e : TypeId) (i : TypeInfo) (z : Value) (bytes : Nat) (ht : P.underlying t = some (.slice e)) (ht2 : P.underlying t2 = some (.slice e) ∨ P.underlying t2 = some .string) (hi : P.info? e = some i) (hz : i.zero = some z)
    (hsize : i.size = 1) (hby : i.bytes = bytes) (hzs : z.cells.size = 1)
    (v : Value) (n : Nat) (xs : List Value) (hown : Owns w B v n xs)
    (x : Value) (m : Nat) (news : List Value) (hl : news.length = m) (hln : Builtin.lenOf x = pure m) (hf : ∀ wd : World, wd.heap = w.heap → (Builtin.firstCells 1 m x).run P wd = .ok news.toArray wd) (h1 : ∀ u ∈ news, u.oneCell' = true)
    (h63 : n + m ≤ maxLen) (hbytes : (n + m) * bytes ≤ 140737488355328) (hbase : B ≤ w.heap.size) :
    ∃ v' w', (Builtin.append_ #[t, t2] ty #[v, x]).run P w = .ok v' w' ∧ Ext B w v n w' v' (n + m) (xs ++ news) := by
  subst hby
  have hsmall : n + m ≤ 9223372036854775807 := by simp only [maxLen] at h63; omega
  have hlen : (xs ++ news).length = n + m := by rw [List.length_append, hown.1, hl]
  have hf0 := hf w rfl
  have hf1 := hf w.drew rfl
  have grown : ∀ (old : Nat) (row : Option Nat),
      Owns (w.drew.alloc (.cells (xs.toArray ++ news.toArray ++ Builtin.zeroCells z.cells (grownCap w (n + m) old e - (n + m))) e)) B
        (.slice (some ⟨w.heap.size, 0, none⟩) (n + m) (grownCap w (n + m) old e)) (n + m) (xs ++ news) ∧
      Kept w (w.drew.alloc (.cells (xs.toArray ++ news.toArray ++ Builtin.zeroCells z.cells (grownCap w (n + m) old e - (n + m))) e)) row n := by
    intro old row
    have hge := grownCap_ge w (n + m) old e
    have hcm : grownCap w (n + m) old e ≤ maxLen := grownCap_le_maxLen w (n + m) old e h63
    refine ⟨⟨hlen, .inr ⟨w.heap.size, _, _, e, (0, 0), rfl, hbase, heap_alloc_new w.drew _, fun k _ _ => by simp, hge, hcm, ?_, ?_⟩⟩, ((Kept.refl w row n).drew).alloc _⟩
    · simp only [Array.size_append, List.size_toArray, size_zeroCells, hzs, hown.1, hl]
      omega
    · simp only [Array.toList_append, List.append_assoc]
      rw [← List.append_assoc, ← hlen]
      exact List.take_left
  rcases hown.2 with ⟨rfl, rfl⟩ | ⟨g, cap, cur, T, fz, rfl, hbg, hg, hfz, hnc, hcm, hcs, htake⟩
  · have hx : xs = [] := List.eq_nil_of_length_eq_zero (by simpa using hown.1)
    subst hx
    by_cases hm : m = 0
    · subst hm
      have hn : news = [] := List.eq_nil_of_length_eq_zero (by simpa using hl)
      subst hn
      refine ⟨.slice none 0 0, w, ?_, Ext.refl (Owns.nil w B)⟩
      rcases ht2 with ht2 | ht2 <;> simp [Builtin.append_, run_underlying ht, run_underlying ht2, sizeOf, typeInfo, hi, hsize, hln, hf0]
    · have hgr := grown 0 (Value.ownBlock (.slice none 0 0))
      simp only [Nat.zero_add, List.nil_append, Array.empty_append] at hgr ⊢
      refine ⟨.slice (some ⟨w.heap.size, 0, none⟩) m (grownCap w m 0 e), w.drew.alloc (.cells (news.toArray ++ Builtin.zeroCells z.cells (grownCap w m 0 e - m)) e), ?_, ⟨hgr.1, hgr.2, .inr fun k hk => by simp [Value.ownBlock] at hk; omega, Nat.zero_le _⟩⟩
      have h48' : ¬ (281474976710656 < Builtin.nextslicecap m 0 * i.bytes) := by rw [nextslicecap_zero (by omega)]; rw [Nat.zero_add] at hbytes; omega
      have h63' : ¬ (9223372036854775807 < (m : Int)) := by omega
      rcases ht2 with ht2 | ht2 <;> simp [Builtin.append_, run_underlying ht, run_underlying ht2, sizeOf, typeInfo, zeroValue, hi, hz, hsize, hln, hm, h63', h48', Question.forced, run_firstCells_none, hf1, newRow, grownCap]
  · by_cases hroom : n + m ≤ cap
    · have hst := run_storeCells_loose P g n T fz news 0 cur w hg (fun k hk1 hk2 => hfz k (by omega) (by omega)) (by rw [hl, hcs]; omega) h1
      simp only [Nat.add_zero] at hst
      refine ⟨.slice (some ⟨g, 0, none⟩) (n + m) cap, w.setRow g (cur.toList.take n ++ news ++ cur.toList.drop (n + news.length)).toArray, ?_, ?_, ?_, .inl rfl, by omega⟩
      · rcases ht2 with ht2 | ht2 <;> simp [Builtin.append_, run_underlying ht, run_underlying ht2, sizeOf, typeInfo, hi, hsize, hln, hroom, hf0, Addr.add_lit, hst]
      · refine ⟨hlen, .inr ⟨g, cap, _, T, fz, rfl, hbg, setRow_heap w g cur _ T _ hg, fun k hk1 hk2 => hfz k (by omega) hk2, hroom, hcm, ?_, ?_⟩⟩
        · simp only [List.size_toArray, List.length_append, List.length_take, List.length_drop, Array.length_toList]
          omega
        · rw [htake, ← hlen]
          exact List.take_left
      · refine ⟨rfl, rfl, rfl, by simp, fun k _ hk => setRow_other w g k _ (fun e => hk (by simp [Value.ownBlock, e])), ?_⟩
        intro k hk cur' T' fz' hc
        simp [Value.ownBlock] at hk
        subst hk
        rw [hg] at hc
        cases hc
        refine ⟨_, setRow_heap w _ cur _ T _ hg, ?_, ?_⟩
        · simp only [List.size_toArray, List.length_append, List.length_take, List.length_drop, Array.length_toList]
          omega
        · show (cur.toList.take n ++ news ++ cur.toList.drop (n + news.length)).take n = _
          rw [List.append_assoc, List.take_append_of_le_length (by simp; omega), List.take_take, Nat.min_self]
    · have hfo := run_firstCells_some (P := P) w.drew 1 n ⟨g, 0, none⟩ n cap xs (by rw [hown.1, Nat.mul_one]) (fun j u hj => by rw [Addr.add_lit, Nat.zero_add]; exact hown.cells (g := g) rfl j u hj)
      have hgr := grown cap (Value.ownBlock (.slice (some ⟨g, 0, none⟩) n cap))
      refine ⟨_, _, ?_, ⟨hgr.1, hgr.2, .inr fun k hk => by simp [Value.ownBlock] at hk; omega, by omega⟩⟩
      have h48' : ¬ (281474976710656 < Builtin.nextslicecap (n + m) cap * i.bytes) := by have := growslice_fits (old := cap) (by omega) hbytes; omega
      have h63' : ¬ (9223372036854775807 < ((n : Int) + (m : Int))) := by omega
      rcases ht2 with ht2 | ht2 <;> (simp [Builtin.append_, run_underlying ht, run_underlying ht2, sizeOf, typeInfo, zeroValue, hi, hz, hsize, hln, hroom, h63', h48', Question.forced, hf1, hfo, newRow, grownCap]; try (congr 2; apply Array.ext'; simp [List.append_assoc]))

theorem wpList_append_ext {ops : Array Oper} {rest : List Oper} {o : Oper} {a : Act} {Q : Exit → Act → World → Prop} (hgd : o.guard = none) (s x : Operand) (t t2 : TypeId)
    (ho : o.op = .call { callee := .builtin .append, args := #[s, x], argTypes := #[t, t2] })
    (B : Nat) (e : TypeId) (i : TypeInfo) (z : Value) (bytes : Nat) (ht : P.underlying t = some (.slice e)) (ht2 : P.underlying t2 = some (.slice e) ∨ P.underlying t2 = some .string) (hi : P.info? e = some i) (hz : i.zero = some z)
    (hsize : i.size = 1) (hby : i.bytes = bytes) (hzs : z.cells.size = 1)
    (v : Value) (n : Nat) (xs : List Value) (hs : a.eval s = v) (hown : Owns w B v n xs)
    (xv : Value) (hx : a.eval x = xv) (m : Nat) (news : List Value) (hl : news.length = m) (hln : Builtin.lenOf xv = pure m) (hf : ∀ wd : World, wd.heap = w.heap → (Builtin.firstCells 1 m xv).run P wd = .ok news.toArray wd) (h1 : ∀ u ∈ news, u.oneCell' = true)
    (h63 : n + m ≤ maxLen) (hbytes : (n + m) * bytes ≤ 140737488355328) (hbase : B ≤ w.heap.size)
    (h : ∀ v' w', Ext B w v n w' v' (n + m) (xs ++ news) → wpList P ops Q rest (a.put o.dst v') w') : wpList P ops Q (o :: rest) a w := by
  refine wpList_plain hgd fun K hK => ?_
  obtain ⟨v', w', hr, h2⟩ := run_append_ext (P := P) w B t t2 o.type e i z bytes ht ht2 hi hz hsize hby hzs v n xs hown xv m news hl hln hf h1 h63 hbytes hbase
  unfold Oper.wp execOp
  simp only [ho, resolve, invoke, builtin, Sem.run_bind, Sem.run_pure, Result.andThen_ok, List.map_toArray, List.map_cons, List.map_nil, hs, hx, hr]
  exact hK _ _ (h v' w' h2)

/-- The same as one step of a region that draws its order. -/
theorem step_append_ext {ops : Array Oper} {o : Oper} {a : Act} {K : Act → World → Prop} {Q : Exit → Act → World → Prop} {E : Prop} (hgd : o.guard = none) (s x : Operand) (t t2 : TypeId)
    (ho : o.op = .call { callee := .builtin .append, args := #[s, x], argTypes := #[t, t2] })
    (B : Nat) (e : TypeId) (i : TypeInfo) (z : Value) (bytes : Nat) (ht : P.underlying t = some (.slice e)) (ht2 : P.underlying t2 = some (.slice e) ∨ P.underlying t2 = some .string) (hi : P.info? e = some i) (hz : i.zero = some z)
    (hsize : i.size = 1) (hby : i.bytes = bytes) (hzs : z.cells.size = 1)
    (v : Value) (n : Nat) (xs : List Value) (hs : a.eval s = v) (hown : Owns w B v n xs)
    (xv : Value) (hx : a.eval x = xv) (m : Nat) (news : List Value) (hl : news.length = m) (hln : Builtin.lenOf xv = pure m) (hf : ∀ wd : World, wd.heap = w.heap → (Builtin.firstCells 1 m xv).run P wd = .ok news.toArray wd) (h1 : ∀ u ∈ news, u.oneCell' = true)
    (h63 : n + m ≤ maxLen) (hbytes : (n + m) * bytes ≤ 140737488355328) (hbase : B ≤ w.heap.size)
    (h : ∀ v' w', Ext B w v n w' v' (n + m) (xs ++ news) → K (a.put o.dst v') w') : if Region.wanted o (yielded ops a.tmps) = true then Oper.wp P o a w K Q else E := by
  have hw : Region.wanted o (yielded ops a.tmps) = true := by simp [Region.wanted, hgd]
  rw [if_pos hw]
  obtain ⟨v', w', hr, h2⟩ := run_append_ext (P := P) w B t t2 o.type e i z bytes ht ht2 hi hz hsize hby hzs v n xs hown xv m news hl hln hf h1 h63 hbytes hbase
  unfold Oper.wp execOp
  simp only [ho, resolve, invoke, builtin, Sem.run_bind, Sem.run_pure, Result.andThen_ok, List.map_toArray, List.map_cons, List.map_nil, hs, hx, hr]
  exact h v' w' h2

/-- The source: a slice's first m cells. -/
theorem src_slice {g o m c : Nat} {news : List Value} (hl : news.length = m) (h : ∀ (j : Nat) u, news[j]? = some u → w.cell? ⟨g, o + j, none⟩ = some u) :
    ∀ wd : World, wd.heap = w.heap → (Builtin.firstCells 1 m (.slice (some ⟨g, o, none⟩) m c)).run P wd = .ok news.toArray wd := fun wd he =>
  run_firstCells_some (P := P) wd 1 m ⟨g, o, none⟩ m c news (by omega) (fun j u hj => by
    have := h j u hj
    rw [Addr.add_lit]
    simpa [World.cell?, he] using this)
theorem src_string (s : ByteArray) : ∀ wd : World, wd.heap = w.heap → (Builtin.firstCells 1 s.size (.string s)).run P wd = .ok (Lib.strCells s).toArray wd := fun wd _ => Lib.run_firstCells_string wd 1 s
theorem src_none : ∀ wd : World, wd.heap = w.heap → (Builtin.firstCells 1 0 (.slice none 0 0)).run P wd = .ok ([] : List Value).toArray wd := fun wd _ => run_firstCells_none wd 1 0 0 0
end
end Go.Proofs.Ybulkcygi
