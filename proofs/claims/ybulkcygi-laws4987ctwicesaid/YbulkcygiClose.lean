/- (*Link).Close. -/
import Derived.Test.YbulkcygiBuild
import Derived.Deep.QuietTactic
import Derived.BigQuiet
import Derived.Lib.Hide
namespace Go.Proofs.Ybulkcygi
open Go.RowKit Go.MuLone

theorem at_cells {w : World} {b : Nat} {cs : Array Value} {T : TypeId} (h : w.heap[b]? = some (.cells cs T (0, 0))) (i : Nat) (v : Value) (hv : cs[i]? = some v) : w.cell? ⟨b, i, none⟩ = some v := by
  simp [World.cell?, h, hv]
theorem at_frozen {w : World} {b : Nat} {cs : Array Value} {T : TypeId} (h : w.heap[b]? = some (.cells cs T (0, 0))) : ∀ i, w.frozen? ⟨b, i, none⟩ = false := fun i => by simp [World.frozen?, h]
theorem at_set {w : World} {b : Nat} {cs : Array Value} {T : TypeId} (h : w.heap[b]? = some (.cells cs T (0, 0))) (i : Nat) (v : Value) {cs' : Array Value} (e : cs.setIfInBounds i v = cs') : (w.setCell ⟨b, i, none⟩ v).heap[b]? = some (.cells cs' T (0, 0)) := by
  rw [heap_setCell_same w b i cs T v h, e]

/-- w' is w but for the blocks bs. -/
structure Only (bs : List Nat) (w w' : World) : Prop where
  os : w'.os = w.os
  tape : w'.tape = w.tape
  output : w'.output = w.output
  size : w'.heap.size = w.heap.size
  block : ∀ k, k ∉ bs → w'.heap[k]? = w.heap[k]?
theorem Only.refl (bs : List Nat) (w : World) : Only bs w w := ⟨rfl, rfl, rfl, rfl, fun _ _ => rfl⟩
theorem Only.set {bs : List Nat} {w w' : World} (h : Only bs w w') (b i : Nat) (v : Value) (hb : b ∈ bs) : Only bs w (w'.setCell ⟨b, i, none⟩ v) :=
  ⟨h.os, h.tape, h.output, by simp [h.size], fun k hk => by
    rw [heap_setCell_other w' ⟨b, i, none⟩ k v (fun e => hk (by simpa [e] using hb))]; exact h.block k hk⟩
theorem Only.drewN {bs : List Nat} {w w' : World} (h : Only bs w w') (n : Nat) : Only bs w (w'.drewN n) := ⟨h.os, h.tape, h.output, h.size, h.block⟩
theorem Only.trans {bs : List Nat} {w w1 w2 : World} (h : Only bs w w1) (k : Only bs w1 w2) : Only bs w w2 :=
  ⟨k.os.trans h.os, k.tape.trans h.tape, k.output.trans h.output, k.size.trans h.size, fun j hj => (k.block j hj).trans (h.block j hj)⟩
theorem Only.mono {bs cs : List Nat} {w w' : World} (h : Only bs w w') (hs : ∀ b ∈ bs, b ∈ cs) : Only cs w w' := ⟨h.os, h.tape, h.output, h.size, fun k hk => h.block k (fun hb => hk (hs k hb))⟩
theorem Only.below {bs : List Nat} {w w' : World} {B : Nat} (h : Only bs w w') (hs : ∀ b ∈ bs, B ≤ b) : Below B w w' := ⟨h.os, h.tape, h.output, Nat.le_of_eq h.size.symm, fun k hk => h.block k (fun hb => by have := hs k hb; omega)⟩

theorem stream_ends (b : Nat) (l lk : Value) (id to ln : Int) (en : Bool) (w : World) (h : w.heap[b]? = some (.cells (strArr l id to 0 lk (.int .u64 0) ln en) 105 (0, 0))) :
    Calls Yba.prog 17 #[.pointer (some ⟨b, 0, none⟩)] w fun e w' => e = .returned (.tuple #[]) ∧ Only [b] w w' ∧ w'.heap[b]? = some (.cells (strArr l id to 0 lk (.pointer (some ⟨b, 12, none⟩)) ln true) 105 (0, 0)) := by
  refine (stream_end b en w (at_cells h 3 _ rfl) (at_cells h 4 _ rfl) (at_cells h 7 _ rfl) (at_cells h 8 _ rfl) (at_cells h 12 _ rfl) (at_cells h 26 _ rfl) (at_frozen h)).mono ?_
  rintro e w' ⟨rfl, rfl⟩
  refine ⟨rfl, ((((Only.refl [b] w).set b _ _ (by simp)).set b _ _ (by simp)).set b _ _ (by simp)).set b _ _ (by simp), ?_⟩
  exact at_set (at_set (at_set (at_set h 4 _ (cs' := strArr l id to 1 lk (.int .u64 0) ln en) rfl) 26 _ (cs' := strArr l id to 1 lk (.int .u64 0) ln true) rfl) 12 _ (cs' := strArr l id to 1 lk (.pointer (some ⟨b, 12, none⟩)) ln true) rfl) 4 _ rfl
theorem reader_ends (b : Nat) (lk : Value) (id tk : Int) (en : Bool) (w : World) (h : w.heap[b]? = some (.cells (rdArr id 0 lk (.int .u64 0) tk en) 112 (0, 0))) :
    Calls Yba.prog 18 #[.pointer (some ⟨b, 0, none⟩)] w fun e w' => e = .returned (.tuple #[]) ∧ Only [b] w w' ∧ w'.heap[b]? = some (.cells (rdArr id 0 lk (.pointer (some ⟨b, 9, none⟩)) tk true) 112 (0, 0)) := by
  refine (reader_end b en w (at_cells h 1 _ rfl) (at_cells h 4 _ rfl) (at_cells h 5 _ rfl) (at_cells h 9 _ rfl) (at_cells h 17 _ rfl) (at_frozen h)).mono ?_
  rintro e w' ⟨rfl, rfl⟩
  refine ⟨rfl, ((((Only.refl [b] w).set b _ _ (by simp)).set b _ _ (by simp)).set b _ _ (by simp)).set b _ _ (by simp), ?_⟩
  exact at_set (at_set (at_set (at_set h 1 _ (cs' := rdArr id 1 lk (.int .u64 0) tk en) rfl) 17 _ (cs' := rdArr id 1 lk (.int .u64 0) tk true) rfl) 9 _ (cs' := rdArr id 1 lk (.pointer (some ⟨b, 9, none⟩)) tk true) rfl) 1 _ rfl

set_option maxRecDepth 100000 in
theorem close_tt (L : Nat) (ct bd : Int) (cl : Bool) (S : Nat) (sl slk : Value) (sid sto sln : Int) (sen : Bool) (R : Nat) (rlk : Value) (rid rtk : Int) (ren : Bool) (w : World) (hL : w.heap[L]? = some (.cells (linkArr 0 ct bd (.pointer (some ⟨S, 0, none⟩)) (.pointer (some ⟨R, 0, none⟩)) cl) 93 (0, 0))) (hS : w.heap[S]? = some (.cells (strArr sl sid sto 0 slk (.int .u64 0) sln sen) 105 (0, 0))) (hSL : S ≠ L) (hR : w.heap[R]? = some (.cells (rdArr rid 0 rlk (.int .u64 0) rtk ren) 112 (0, 0))) (hRL : R ≠ L) (hRS : R ≠ S) :
    Calls Yba.prog 12 #[.pointer (some ⟨L, 0, none⟩)] w fun e w' => e = .returned .nilIface ∧ Only [L, S, R] w w' ∧ w'.heap[L]? = some (.cells (linkArr 0 ct bd (.pointer none) (.pointer none) true) 93 (0, 0)) ∧ w'.heap[S]? = some (.cells (strArr sl sid sto 0 slk (.pointer (some ⟨S, 12, none⟩)) sln true) 105 (0, 0)) ∧ w'.heap[R]? = some (.cells (rdArr rid 0 rlk (.pointer (some ⟨R, 9, none⟩)) rtk true) 112 (0, 0)) := by
  have HL := Lib.hid hL
  have HS := Lib.hid hS
  have HR := Lib.hid hR
  clear hL hS hR
  go_enter Yba.func12, Yba.ntmps12
  go_wp2_with (go_at_call 15; refine (lock_free muLib ⟨L, 12, none⟩ _ (at_cells HL.out 12 _ rfl) (at_frozen HL.out _)).mono ?_; rintro e w1 ⟨rfl, hw1⟩; have h1 : w1.heap[L]? = some (.cells (linkArr 1 ct bd (.pointer (some ⟨S, 0, none⟩)) (.pointer (some ⟨R, 0, none⟩)) cl) 93 (0, 0)) := (by rw [hw1]; exact at_set HL.out 12 _ rfl); have o1 : Only [L] w w1 := (by rw [hw1]; exact (Only.refl [L] w).set L _ _ (by simp)); clear hw1; have c46 := at_cells h1 46 (.bool cl) rfl; have c44 := at_cells h1 44 (.pointer (some ⟨S, 0, none⟩)) rfl; have c45 := at_cells h1 45 (.pointer (some ⟨R, 0, none⟩)) rfl; have z46 := at_frozen h1 46; have z44 := at_frozen h1 44; have z45 := at_frozen h1 45; have H1 := Lib.hid h1; have O1 := Lib.hid o1; clear h1 o1)
  have h2 := at_set H1.out 46 (.bool true) (cs' := linkArr 1 ct bd (.pointer (some ⟨S, 0, none⟩)) (.pointer (some ⟨R, 0, none⟩)) true) rfl
  have d44 := at_cells h2 44 (.pointer (some ⟨S, 0, none⟩)) rfl
  have d45 := at_cells h2 45 (.pointer (some ⟨R, 0, none⟩)) rfl
  have H2 := Lib.hid h2
  clear h2
  go_quiet (fail)
  have h2q : ((w1.setCell ⟨L, 46, none⟩ (.bool true)).drewN nq).heap[L]? = some (.cells (linkArr 1 ct bd (.pointer (some ⟨S, 0, none⟩)) (.pointer (some ⟨R, 0, none⟩)) true) 93 (0, 0)) := H2.out
  have h4 := at_set (at_set h2q 44 (.pointer none) (cs' := linkArr 1 ct bd (.pointer none) (.pointer (some ⟨R, 0, none⟩)) true) rfl) 45 (.pointer none) (cs' := linkArr 1 ct bd (.pointer none) (.pointer none) true) rfl
  have H4 := Lib.hid h4
  clear h2q h4
  go_wp2_with (first | (go_at_call 16; refine (unlock_held muLib ⟨L, 12, none⟩ _ (at_cells H4.out 12 _ rfl) (at_frozen H4.out _)).mono ?_; rintro e w5 ⟨rfl, hw5⟩; have h5 : w5.heap[L]? = some (.cells (linkArr 0 ct bd (.pointer none) (.pointer none) true) 93 (0, 0)) := (by rw [hw5]; exact at_set H4.out 12 _ rfl); have o5 : Only [L] w w5 := (by rw [hw5]; exact ((((O1.out.set L _ _ (by simp)).drewN _).set L _ _ (by simp)).set L _ _ (by simp)).set L _ _ (by simp)); clear hw5; have H5 := Lib.hid h5; have O5 := Lib.hid o5; clear h5 o5) | (go_at_call 17; refine (stream_ends S sl slk sid sto sln sen _ ((O5.out.block S (by simp [hSL])).trans HS.out)).mono ?_; rintro e w6 ⟨rfl, o6, h6⟩; have H6 := Lib.hid h6; have O6 := Lib.hid o6; clear h6 o6) | (go_at_call 18; refine (reader_ends R rlk rid rtk ren _ ((O6.out.block R (by simp [hRS])).trans ((O5.out.block R (by simp [hRL])).trans HR.out))).mono ?_; rintro e w7 ⟨rfl, o7, h7⟩; have H7 := Lib.hid h7; have O7 := Lib.hid o7; clear h7 o7))
  go_ret
  exact ⟨rfl, (((O5.out.mono (by simp)).trans (O6.out.mono (by simp))).trans (O7.out.mono (by simp))), ((O7.out.block L (by simp [Ne.symm hRL])).trans ((O6.out.block L (by simp [Ne.symm hSL])).trans H5.out)), (O7.out.block S (by simp [Ne.symm hRS])).trans H6.out, H7.out⟩

set_option maxRecDepth 100000 in
theorem close_tf (L : Nat) (ct bd : Int) (cl : Bool) (S : Nat) (sl slk : Value) (sid sto sln : Int) (sen : Bool) (w : World) (hL : w.heap[L]? = some (.cells (linkArr 0 ct bd (.pointer (some ⟨S, 0, none⟩)) (.pointer none) cl) 93 (0, 0))) (hS : w.heap[S]? = some (.cells (strArr sl sid sto 0 slk (.int .u64 0) sln sen) 105 (0, 0))) (hSL : S ≠ L) :
    Calls Yba.prog 12 #[.pointer (some ⟨L, 0, none⟩)] w fun e w' => e = .returned .nilIface ∧ Only [L, S] w w' ∧ w'.heap[L]? = some (.cells (linkArr 0 ct bd (.pointer none) (.pointer none) true) 93 (0, 0)) ∧ w'.heap[S]? = some (.cells (strArr sl sid sto 0 slk (.pointer (some ⟨S, 12, none⟩)) sln true) 105 (0, 0)) := by
  have HL := Lib.hid hL
  have HS := Lib.hid hS
  clear hL hS
  go_enter Yba.func12, Yba.ntmps12
  go_wp2_with (go_at_call 15; refine (lock_free muLib ⟨L, 12, none⟩ _ (at_cells HL.out 12 _ rfl) (at_frozen HL.out _)).mono ?_; rintro e w1 ⟨rfl, hw1⟩; have h1 : w1.heap[L]? = some (.cells (linkArr 1 ct bd (.pointer (some ⟨S, 0, none⟩)) (.pointer none) cl) 93 (0, 0)) := (by rw [hw1]; exact at_set HL.out 12 _ rfl); have o1 : Only [L] w w1 := (by rw [hw1]; exact (Only.refl [L] w).set L _ _ (by simp)); clear hw1; have c46 := at_cells h1 46 (.bool cl) rfl; have c44 := at_cells h1 44 (.pointer (some ⟨S, 0, none⟩)) rfl; have c45 := at_cells h1 45 (.pointer none) rfl; have z46 := at_frozen h1 46; have z44 := at_frozen h1 44; have z45 := at_frozen h1 45; have H1 := Lib.hid h1; have O1 := Lib.hid o1; clear h1 o1)
  have h2 := at_set H1.out 46 (.bool true) (cs' := linkArr 1 ct bd (.pointer (some ⟨S, 0, none⟩)) (.pointer none) true) rfl
  have d44 := at_cells h2 44 (.pointer (some ⟨S, 0, none⟩)) rfl
  have d45 := at_cells h2 45 (.pointer none) rfl
  have H2 := Lib.hid h2
  clear h2
  go_quiet (fail)
  have h2q : ((w1.setCell ⟨L, 46, none⟩ (.bool true)).drewN nq).heap[L]? = some (.cells (linkArr 1 ct bd (.pointer (some ⟨S, 0, none⟩)) (.pointer none) true) 93 (0, 0)) := H2.out
  have h4 := at_set (at_set h2q 44 (.pointer none) (cs' := linkArr 1 ct bd (.pointer none) (.pointer none) true) rfl) 45 (.pointer none) (cs' := linkArr 1 ct bd (.pointer none) (.pointer none) true) rfl
  have H4 := Lib.hid h4
  clear h2q h4
  go_wp2_with (first | (go_at_call 16; refine (unlock_held muLib ⟨L, 12, none⟩ _ (at_cells H4.out 12 _ rfl) (at_frozen H4.out _)).mono ?_; rintro e w5 ⟨rfl, hw5⟩; have h5 : w5.heap[L]? = some (.cells (linkArr 0 ct bd (.pointer none) (.pointer none) true) 93 (0, 0)) := (by rw [hw5]; exact at_set H4.out 12 _ rfl); have o5 : Only [L] w w5 := (by rw [hw5]; exact ((((O1.out.set L _ _ (by simp)).drewN _).set L _ _ (by simp)).set L _ _ (by simp)).set L _ _ (by simp)); clear hw5; have H5 := Lib.hid h5; have O5 := Lib.hid o5; clear h5 o5) | (go_at_call 17; refine (stream_ends S sl slk sid sto sln sen _ ((O5.out.block S (by simp [hSL])).trans HS.out)).mono ?_; rintro e w6 ⟨rfl, o6, h6⟩; have H6 := Lib.hid h6; have O6 := Lib.hid o6; clear h6 o6))
  go_ret
  exact ⟨rfl, ((O5.out.mono (by simp)).trans (O6.out.mono (by simp))), ((O6.out.block L (by simp [Ne.symm hSL])).trans H5.out), H6.out⟩

set_option maxRecDepth 100000 in
theorem close_ft (L : Nat) (ct bd : Int) (cl : Bool) (R : Nat) (rlk : Value) (rid rtk : Int) (ren : Bool) (w : World) (hL : w.heap[L]? = some (.cells (linkArr 0 ct bd (.pointer none) (.pointer (some ⟨R, 0, none⟩)) cl) 93 (0, 0))) (hR : w.heap[R]? = some (.cells (rdArr rid 0 rlk (.int .u64 0) rtk ren) 112 (0, 0))) (hRL : R ≠ L) :
    Calls Yba.prog 12 #[.pointer (some ⟨L, 0, none⟩)] w fun e w' => e = .returned .nilIface ∧ Only [L, R] w w' ∧ w'.heap[L]? = some (.cells (linkArr 0 ct bd (.pointer none) (.pointer none) true) 93 (0, 0)) ∧ w'.heap[R]? = some (.cells (rdArr rid 0 rlk (.pointer (some ⟨R, 9, none⟩)) rtk true) 112 (0, 0)) := by
  have HL := Lib.hid hL
  have HR := Lib.hid hR
  clear hL hR
  go_enter Yba.func12, Yba.ntmps12
  go_wp2_with (go_at_call 15; refine (lock_free muLib ⟨L, 12, none⟩ _ (at_cells HL.out 12 _ rfl) (at_frozen HL.out _)).mono ?_; rintro e w1 ⟨rfl, hw1⟩; have h1 : w1.heap[L]? = some (.cells (linkArr 1 ct bd (.pointer none) (.pointer (some ⟨R, 0, none⟩)) cl) 93 (0, 0)) := (by rw [hw1]; exact at_set HL.out 12 _ rfl); have o1 : Only [L] w w1 := (by rw [hw1]; exact (Only.refl [L] w).set L _ _ (by simp)); clear hw1; have c46 := at_cells h1 46 (.bool cl) rfl; have c44 := at_cells h1 44 (.pointer none) rfl; have c45 := at_cells h1 45 (.pointer (some ⟨R, 0, none⟩)) rfl; have z46 := at_frozen h1 46; have z44 := at_frozen h1 44; have z45 := at_frozen h1 45; have H1 := Lib.hid h1; have O1 := Lib.hid o1; clear h1 o1)
  have h2 := at_set H1.out 46 (.bool true) (cs' := linkArr 1 ct bd (.pointer none) (.pointer (some ⟨R, 0, none⟩)) true) rfl
  have d44 := at_cells h2 44 (.pointer none) rfl
  have d45 := at_cells h2 45 (.pointer (some ⟨R, 0, none⟩)) rfl
  have H2 := Lib.hid h2
  clear h2
  go_quiet (fail)
  have h2q : ((w1.setCell ⟨L, 46, none⟩ (.bool true)).drewN nq).heap[L]? = some (.cells (linkArr 1 ct bd (.pointer none) (.pointer (some ⟨R, 0, none⟩)) true) 93 (0, 0)) := H2.out
  have h4 := at_set (at_set h2q 44 (.pointer none) (cs' := linkArr 1 ct bd (.pointer none) (.pointer (some ⟨R, 0, none⟩)) true) rfl) 45 (.pointer none) (cs' := linkArr 1 ct bd (.pointer none) (.pointer none) true) rfl
  have H4 := Lib.hid h4
  clear h2q h4
  go_wp2_with (first | (go_at_call 16; refine (unlock_held muLib ⟨L, 12, none⟩ _ (at_cells H4.out 12 _ rfl) (at_frozen H4.out _)).mono ?_; rintro e w5 ⟨rfl, hw5⟩; have h5 : w5.heap[L]? = some (.cells (linkArr 0 ct bd (.pointer none) (.pointer none) true) 93 (0, 0)) := (by rw [hw5]; exact at_set H4.out 12 _ rfl); have o5 : Only [L] w w5 := (by rw [hw5]; exact ((((O1.out.set L _ _ (by simp)).drewN _).set L _ _ (by simp)).set L _ _ (by simp)).set L _ _ (by simp)); clear hw5; have H5 := Lib.hid h5; have O5 := Lib.hid o5; clear h5 o5) | (go_at_call 18; refine (reader_ends R rlk rid rtk ren _ ((O5.out.block R (by simp [hRL])).trans HR.out)).mono ?_; rintro e w7 ⟨rfl, o7, h7⟩; have H7 := Lib.hid h7; have O7 := Lib.hid o7; clear h7 o7))
  go_ret
  exact ⟨rfl, ((O5.out.mono (by simp)).trans (O7.out.mono (by simp))), ((O7.out.block L (by simp [Ne.symm hRL])).trans H5.out), H7.out⟩

set_option maxRecDepth 100000 in
theorem close_ff (L : Nat) (ct bd : Int) (cl : Bool) (w : World) (hL : w.heap[L]? = some (.cells (linkArr 0 ct bd (.pointer none) (.pointer none) cl) 93 (0, 0))) :
    Calls Yba.prog 12 #[.pointer (some ⟨L, 0, none⟩)] w fun e w' => e = .returned .nilIface ∧ Only [L] w w' ∧ w'.heap[L]? = some (.cells (linkArr 0 ct bd (.pointer none) (.pointer none) true) 93 (0, 0)) := by
  have HL := Lib.hid hL
  clear hL 
  go_enter Yba.func12, Yba.ntmps12
  go_wp2_with (go_at_call 15; refine (lock_free muLib ⟨L, 12, none⟩ _ (at_cells HL.out 12 _ rfl) (at_frozen HL.out _)).mono ?_; rintro e w1 ⟨rfl, hw1⟩; have h1 : w1.heap[L]? = some (.cells (linkArr 1 ct bd (.pointer none) (.pointer none) cl) 93 (0, 0)) := (by rw [hw1]; exact at_set HL.out 12 _ rfl); have o1 : Only [L] w w1 := (by rw [hw1]; exact (Only.refl [L] w).set L _ _ (by simp)); clear hw1; have c46 := at_cells h1 46 (.bool cl) rfl; have c44 := at_cells h1 44 (.pointer none) rfl; have c45 := at_cells h1 45 (.pointer none) rfl; have z46 := at_frozen h1 46; have z44 := at_frozen h1 44; have z45 := at_frozen h1 45; have H1 := Lib.hid h1; have O1 := Lib.hid o1; clear h1 o1)
  have h2 := at_set H1.out 46 (.bool true) (cs' := linkArr 1 ct bd (.pointer none) (.pointer none) true) rfl
  have d44 := at_cells h2 44 (.pointer none) rfl
  have d45 := at_cells h2 45 (.pointer none) rfl
  have H2 := Lib.hid h2
  clear h2
  go_quiet (fail)
  have h2q : ((w1.setCell ⟨L, 46, none⟩ (.bool true)).drewN nq).heap[L]? = some (.cells (linkArr 1 ct bd (.pointer none) (.pointer none) true) 93 (0, 0)) := H2.out
  have h4 := at_set (at_set h2q 44 (.pointer none) (cs' := linkArr 1 ct bd (.pointer none) (.pointer none) true) rfl) 45 (.pointer none) (cs' := linkArr 1 ct bd (.pointer none) (.pointer none) true) rfl
  have H4 := Lib.hid h4
  clear h2q h4
  go_wp2_with ((go_at_call 16; refine (unlock_held muLib ⟨L, 12, none⟩ _ (at_cells H4.out 12 _ rfl) (at_frozen H4.out _)).mono ?_; rintro e w5 ⟨rfl, hw5⟩; have h5 : w5.heap[L]? = some (.cells (linkArr 0 ct bd (.pointer none) (.pointer none) true) 93 (0, 0)) := (by rw [hw5]; exact at_set H4.out 12 _ rfl); have o5 : Only [L] w w5 := (by rw [hw5]; exact ((((O1.out.set L _ _ (by simp)).drewN _).set L _ _ (by simp)).set L _ _ (by simp)).set L _ _ (by simp)); clear hw5; have H5 := Lib.hid h5; have O5 := Lib.hid o5; clear h5 o5))
  go_ret
  exact ⟨rfl, (O5.out.mono (by simp)), H5.out⟩
end Go.Proofs.Ybulkcygi
