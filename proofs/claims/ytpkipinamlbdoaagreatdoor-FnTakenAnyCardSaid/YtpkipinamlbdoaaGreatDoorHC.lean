/-
  The walk of the closure in the library's HMAC: the two digests are two. No condition but that they are there.
-/
import Derived.Test.YtpkipinamlbdoaaGreatDoorIC
import Derived.Tactics
import Derived.Tactics2
import Derived.Defers
import Derived.Recover
import Derived.LaidEql
import Derived.Deep.QuietTactic
import Derived.BigQuiet
import Derived.Lib.Hide
namespace Go.Proofs.YtpkipinamlbdoaaGreatDoor
open Go Go.RowKit

theorem rec59 (w : World) : CallsD Tryz.prog 59 #[] .returning w fun e u' w' => e = .returned (.tuple #[]) ∧ u' = .returning ∧ w' = w := by
  refine callsD_of_wpS Tryz.func59 rfl fun c₀ cs hu => ?_
  try apply wpS_seq
  apply wpS_region
  simp [wpOpsS, go_sem, recoverD, hu, Tryz.ntmps59]
  cases c₀
  simp_all [bodyPostS, results, Tryz.results59]
theorem comp89 : (Tryz.prog.info? 89).map (·.comparable) = some true := by kernel_rfl
theorem info115e : (Tryz.prog.info? 115).map (fun i => decide (i.size ≠ 0)) = some true := by kernel_rfl
theorem eq_other (go gi : Nat) (hne : go ≠ gi) (w : World) (co ci : Array Value) (ho : Blk w go co 115) (hi : Blk w gi ci 115) :
    (binOp .eql 108 (.iface 89 (.pointer (some ⟨go, 0, none⟩))) (.iface 89 (.pointer (some ⟨gi, 0, none⟩)))).run Tryz.prog w = .ok (.bool false) w := by
  obtain ⟨i, h1, h2⟩ := Option.map_eq_some_iff.1 comp89
  obtain ⟨j, k1, k2⟩ := Option.map_eq_some_iff.1 info115e
  exact run_eql_iface_ptr_other (w := w) Tryz.underlying108 Tryz.underlying89 h1 h2 k1 (by simpa using k2) (fun e => hne (by injection e)) ho hi
set_option maxRecDepth 100000 in
set_option maxHeartbeats 2000000 in
theorem closure_any (hv gb gh go gi : Nat) (co ci : Array Value) (w : World) (h1 : w.cell? ⟨hv, 0, none⟩ = some (.pointer (some ⟨gh, 0, none⟩))) (h2 : w.cell? ⟨gh, 2, none⟩ = some (.iface 89 (.pointer (some ⟨go, 0, none⟩))))
    (h3 : w.cell? ⟨gh, 3, none⟩ = some (.iface 89 (.pointer (some ⟨gi, 0, none⟩)))) (ho : Blk w go co 115) (hi : Blk w gi ci 115) (hne : go ≠ gi) :
    Calls Tryz.prog 58 #[.pointer (some ⟨hv, 0, none⟩), .pointer (some ⟨gb, 0, none⟩)] w fun e w' => e = .returned (.tuple #[]) ∧ ∃ m, w' = w.drewN m := by
  have heq : ∀ k, (binOp .eql 108 (.iface 89 (.pointer (some ⟨go, 0, none⟩))) (.iface 89 (.pointer (some ⟨gi, 0, none⟩)))).run Tryz.prog (w.drewN k) = .ok (.bool false) (w.drewN k) := fun k => eq_other go gi hne _ co ci ho hi
  clear ho hi hne
  go_enter_defers Tryz.func58, Tryz.ntmps58
  go_wp2
  have heq0 := heq 0
  go_quiet (fail)
  go_wp2
  refine leaves_cons (f := 59) (args := #[]) (by simp) (by simp [go_sem]) ?_
  refine (rec59 _).mono ?_
  rintro e u' w'' ⟨rfl, rfl, rfl⟩
  simp [Leaves, settle, results, Tryz.results58, go_sem]
  exact ⟨nq, rfl⟩
end Go.Proofs.YtpkipinamlbdoaaGreatDoor
