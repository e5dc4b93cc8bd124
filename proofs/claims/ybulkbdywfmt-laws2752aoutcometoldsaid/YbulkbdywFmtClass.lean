import Derived.Test.YbulkbdywFmtIs
import Derived.Test.YbulkbdywFmtClone
import Derived.Test.YbulkbdywFmtHas
import Derived.Deep.RegionWith
import Derived.Deep.Cut
import Derived.Deep.CutRange
import Derived.Deep.CutBlock
/-! How an error is sorted, and what fmt.Errorf makes, whatever its text. -/
namespace Go.Proofs.YbulkbdywFmt
open Go.RowKit Go.Extern.Stop Go.Stop Go.Extern

/-- The error v is of class k: none · it wraps the package's sentinel (at b0) · another · it wraps the law's (at bs). -/
def Ends (k : Nat) (b0 bs : Addr) (v : Value) (w : World) : Prop :=
  (k = 0 ∧ v = .nilIface) ∨
  (k = 1 ∧ ∃ p, v = .iface 51 (.pointer (some ⟨p, 0, none⟩)) ∧ w.cell? ⟨p, 1, none⟩ = some (.iface 41 (.pointer (some b0)))) ∨
  (k = 3 ∧ ∃ p, v = .iface 51 (.pointer (some ⟨p, 0, none⟩)) ∧ w.cell? ⟨p, 1, none⟩ = some (.iface 41 (.pointer (some bs)))) ∨
  (k = 2 ∧ ∃ a ca ta, a ≠ b0 ∧ a ≠ bs ∧ w.heap[a.block]? = some (.cells ca ta (0, 0)) ∧ (v = .iface 41 (.pointer (some a)) ∨ ∃ p, v = .iface 51 (.pointer (some ⟨p, 0, none⟩)) ∧ w.cell? ⟨p, 1, none⟩ = some (.iface 41 (.pointer (some a)))))

set_option maxHeartbeats 1000000 in
theorem class_any (k : Nat) (b0 bs : Addr) (v : Value) (c0 cs : Array Value) (t0 ts : TypeId) (w : World) (hg : w.cell? ⟨0, 0, none⟩ = some (.iface 41 (.pointer (some b0)))) (hne : b0 ≠ bs)
    (h0 : w.heap[b0.block]? = some (.cells c0 t0 (0, 0))) (hs : w.heap[bs.block]? = some (.cells cs ts (0, 0))) (h : Ends k b0 bs v w) :
    Calls Ybaf.prog 7 #[v, .iface 41 (.pointer (some bs))] w fun e w' => e = .returned (.int .i64 k) ∧ w' = w := by
  rcases h with ⟨rfl, rfl⟩ | ⟨rfl, p, rfl, hc⟩ | ⟨rfl, p, rfl, hc⟩ | ⟨rfl, a, ca, ta, n1, n2, hr, rfl | ⟨p, rfl, hc⟩⟩
  · go_enter Ybaf.func7, Ybaf.ntmps7
    go_wp2
    go_ret
    exact ⟨rfl, rfl⟩
  · have I1 : Hid (Calls Ybaf.prog 12 #[.iface 51 (.pointer (some ⟨p, 0, none⟩)), .iface 41 (.pointer (some b0))] w fun e w' => e = .returned (.bool true) ∧ w' = w) := is_wrap_same p 0 b0 w hc
    clear hc h0 hs hne
    go_enter Ybaf.func7, Ybaf.ntmps7
    go_wp2_with (go_at_call 12; refine I1.out.mono ?_; rintro e w' ⟨rfl, rfl⟩)
    go_ret
    exact ⟨rfl, rfl⟩
  · have I1 : Hid (Calls Ybaf.prog 12 #[.iface 51 (.pointer (some ⟨p, 0, none⟩)), .iface 41 (.pointer (some b0))] w fun e w' => e = .returned (.bool false) ∧ w = w') := (is_wrap_other p 0 b0 bs _ _ _ _ w hc (fun e => hne e.symm) hs h0).mono fun e w' h => ⟨h.1, h.2.symm⟩
    have I2 : Hid (Calls Ybaf.prog 12 #[.iface 51 (.pointer (some ⟨p, 0, none⟩)), .iface 41 (.pointer (some bs))] w fun e w' => e = .returned (.bool true) ∧ w = w') := (is_wrap_same p 0 bs w hc).mono fun e w' h => ⟨h.1, h.2.symm⟩
    clear hc h0 hs hne
    go_enter Ybaf.func7, Ybaf.ntmps7
    go_upto_if 9 with (go_at_call 12; refine I1.out.mono ?_; rintro e w' ⟨rfl, rfl⟩)
    go_wp2_with (go_at_call 12; refine I2.out.mono ?_; rintro e w' ⟨rfl, rfl⟩)
    go_ret
    exact ⟨rfl, rfl⟩
  · have I1 : Hid (Calls Ybaf.prog 12 #[.iface 41 (.pointer (some a)), .iface 41 (.pointer (some b0))] w fun e w' => e = .returned (.bool false) ∧ w = w') := (is_other a b0 _ _ _ _ w n1 hr h0).mono fun e w' h => ⟨h.1, h.2.symm⟩
    have I2 : Hid (Calls Ybaf.prog 12 #[.iface 41 (.pointer (some a)), .iface 41 (.pointer (some bs))] w fun e w' => e = .returned (.bool false) ∧ w = w') := (is_other a bs _ _ _ _ w n2 hr hs).mono fun e w' h => ⟨h.1, h.2.symm⟩
    clear h0 hs hne hr n1 n2
    go_enter Ybaf.func7, Ybaf.ntmps7
    go_upto_if 9 with (go_at_call 12; refine I1.out.mono ?_; rintro e w' ⟨rfl, rfl⟩)
    go_wp2_with (go_at_call 12; refine I2.out.mono ?_; rintro e w' ⟨rfl, rfl⟩)
    go_ret
    exact ⟨rfl, rfl⟩
  · have I1 : Hid (Calls Ybaf.prog 12 #[.iface 51 (.pointer (some ⟨p, 0, none⟩)), .iface 41 (.pointer (some b0))] w fun e w' => e = .returned (.bool false) ∧ w = w') := (is_wrap_other p 0 b0 a _ _ _ _ w hc n1 hr h0).mono fun e w' h => ⟨h.1, h.2.symm⟩
    have I2 : Hid (Calls Ybaf.prog 12 #[.iface 51 (.pointer (some ⟨p, 0, none⟩)), .iface 41 (.pointer (some bs))] w fun e w' => e = .returned (.bool false) ∧ w = w') := (is_wrap_other p 0 bs a _ _ _ _ w hc n2 hr hs).mono fun e w' h => ⟨h.1, h.2.symm⟩
    clear hc h0 hs hne hr n1 n2
    go_enter Ybaf.func7, Ybaf.ntmps7
    go_upto_if 9 with (go_at_call 12; refine I1.out.mono ?_; rintro e w' ⟨rfl, rfl⟩)
    go_wp2_with (go_at_call 12; refine I2.out.mono ?_; rintro e w' ⟨rfl, rfl⟩)
    go_ret
    exact ⟨rfl, rfl⟩
end Go.Proofs.YbulkbdywFmt
