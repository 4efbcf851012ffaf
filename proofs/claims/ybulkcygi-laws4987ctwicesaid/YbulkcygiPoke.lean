/- The channel, the condition variable: what these calls do in one goroutine. -/
import Derived.Test.YbulkcygiProg
import Derived.Conc.LoneSelect
import Derived.Laws.Externs
import Derived.Laws.LoneSync
import Derived.KernelRfl
import Derived.Laws.Rows
import Derived.Laws.Runes
import Derived.Laws.Tables
namespace Go.Proofs.Ybulkcygi
open Go.Conc Go.RowKit

theorem build76 (w : World) : (Instr.build 76 #[]).run Yba.prog w = .ok (.agg #[]) w := run_build w 76 #[] #[] (by kernel_rfl)

set_option maxRecDepth 100000 in
/-- 'poke' where the channel is nil: the default; nothing is turned. -/
theorem poke_any (b : Nat) (w : World) (h3 : w.cell? ⟨b, 3, none⟩ = some (.chan none)) : Calls Yba.prog 22 #[.pointer (some ⟨b, 0, none⟩)] w fun e w' => e = .returned (.tuple #[]) ∧ w' = w := by
  refine calls_of_loneTo fun cs => ?_
  have e : Frame.enter Yba.prog 22 #[.pointer (some ⟨b, 0, none⟩)] .normal = (base 22).at ⟨#[.pointer (some ⟨b, 0, none⟩), undef, undef, undef, undef, undef, undef, undef, undef, undef], []⟩ [.code (Yba.f22.body.getD .skip)] := by
    simp [Frame.enter, Frame.at, Yba.func22, base, Yba.f22]
  rw [e]
  have hbd := build76
  refine LoneTo.goes (n := 50) ?_
  simp only [Yba.f22, Option.getD_some]
  s_c stepG_seq
  s_c stepG_seq
  s_reg
  s_op
  s_op
  s_op
  s_op
  s_c stepG_region_end
  s_reg
  s_op
  s_c stepG_region_end
  s_c stepG_seq
  s_reg
  s_stop
  refine LoneTo.step (step_lone_select_send_nil (stepG_comm (cases := #[scaseNil (.agg #[]) (.agg #[])]) (blocking := false) (shape := .select) (w' := w) rfl rfl (by decide) (by simp [go_sem, execOp, scaseNil, Act.eval]))) ?_
  rw [Frame.finish_at]
  walk_nrm
  refine LoneTo.goes (n := 20) ?_
  s_op
  s_op
  s_c stepG_region_end
  s_c stepG_block
  s_cond false
  s_c stepG_skip
  s_c stepG_inBlock
  s_c stepG_end
  s_stop
  exact LoneTo.done ⟨.returned (.tuple #[]), _, rfl, ⟨rfl, rfl⟩, rfl, rfl, rfl, rfl, _, Yba.func22, by simp [results, Yba.f22, Frame.at]⟩

theorem check_new (c : Addr) (w : World) (hc : w.cell? c = some (.int .u64 0)) (hz : w.frozen? c = false) : (callFunc 31 #[.pointer (some c)]).run Yba.prog w = .ok (.value (.tuple #[])) (w.setCell c (.pointer (some c))) := by
  rw [run_callFunc_extern (e := Extern.SyncCond.check) Yba.func31 (by kernel_rfl) (by kernel_rfl) (by kernel_rfl) (by kernel_rfl)]
  have e3 : (store c (.pointer (some c)) .atomic).run Yba.prog w = .ok () (w.setCell c (.pointer (some c))) := by
    rw [run_store Yba.prog w c (.pointer (some c)) .atomic rfl]; simp [hc, hz]
  have hl : ∀ (n : Nat) (h1 : (#[Value.pointer (some c)] : Array Value).size = n) (h2 : 0 < n), (#[Value.pointer (some c)] : Array Value).getLit 0 h1 h2 = .pointer (some c) := fun _ _ _ => rfl
  delta Extern.SyncCond.check Extern.SyncCond.check.match_3
  simp [asAddr, Extern.SyncCond.isSelf, hc, e3, Extern.SyncCond.none_, hl]

theorem notify_none (b o : Nat) (w : World) (h0 : w.cell? ⟨b, o, none⟩ = some (.int .u32 0)) (h1 : w.cell? ⟨b, o + 1, none⟩ = some (.int .u32 0)) : (callFunc 32 #[.pointer (some ⟨b, o, none⟩)]).run Yba.prog w = .ok (.value (.tuple #[])) w := by
  rw [run_callFunc_extern (e := Extern.SyncCond.notifyAll) Yba.func32 (by kernel_rfl) (by kernel_rfl) (by kernel_rfl) (by kernel_rfl)]
  have c0 : (Extern.SyncCond.counter ⟨b, o, none⟩ 0).run Yba.prog w = .ok 0 w := by simp [Extern.SyncCond.counter, Addr.add, h0]
  have c1 : (Extern.SyncCond.counter ⟨b, o, none⟩ 1).run Yba.prog w = .ok 0 w := by simp [Extern.SyncCond.counter, Addr.add, h1]
  have w0 : IntKind.u32.wrap 0 = 0 := by decide
  simp [Extern.SyncCond.notifyAll, Extern.SyncCond.list, c0, c1, w0, Extern.SyncCond.none_]
end Go.Proofs.Ybulkcygi
