/-
  sync.Once in one goroutine: not yet done, the lock free. The function that is handed to Do comes by a contract of its own.
-/
import Derived.Test.Qxb6616383aRows
import Derived.WalkKit
import Derived.WalkSpells
import Derived.WalkLawsBesides
import Derived.Defers
import Derived.Laws.Pointers
import Derived.Laws.LoneSync
import Derived.RegionTactic
import Derived.RegionCalls
import Derived.ChangeAlike
namespace Go.Proofs.Qxb6616383a
open Go.RowKit

theorem disable (w : World) : (callFunc 61 #[]).run Try.prog w = .ok (.value (.tuple #[])) w := run_call_mark0 Try.func61 (by kernel_rfl) (by kernel_rfl) (by kernel_rfl) .disable (by kernel_rfl) w
theorem enable (w : World) : (callFunc 63 #[]).run Try.prog w = .ok (.value (.tuple #[])) w := run_call_mark0 Try.func63 (by kernel_rfl) (by kernel_rfl) (by kernel_rfl) .enable (by kernel_rfl) w
theorem acquire (a : Addr) (w : World) : (callFunc 64 #[.pointer (some a)]).run Try.prog w = .ok (.value (.tuple #[])) w := run_call_marked Try.func64 (by kernel_rfl) (by kernel_rfl) (by kernel_rfl) .acquire (by kernel_rfl) a w
theorem releaseMerge (a : Addr) (w : World) : (callFunc 66 #[.pointer (some a)]).run Try.prog w = .ok (.value (.tuple #[])) w := run_call_marked Try.func66 (by kernel_rfl) (by kernel_rfl) (by kernel_rfl) .releaseMerge (by kernel_rfl) a w

/-- '(*sync/atomic.Bool).Store(true)', entered as a deferred call: the cell holds 1. -/
theorem store_deferred (a : Addr) (x : Value) (u : FrameMode) (w : World) (hc : w.cell? a = some x) (hz : w.frozen? a = false) :
    CallsD Try.prog 37 #[.pointer (some a), .bool true] u w fun e u' w' => u' = u ∧ (e = .returned (.tuple #[]) ∧ w' = w.drew.setCell a (.int .u32 1)) := by
  have hc' : w.drew.cell? a = some x := by go_simp
  have hz' : w.drew.frozen? a = false := by go_simp
  have hst := run_call_store (P := Try.prog) Try.func47 (by kernel_rfl) (by kernel_rfl) (by kernel_rfl) (by kernel_rfl) (k := .u32) (y := 1) hc' hz'
  go_enter_d Try.func37, Try.ntmps37
  go_wp2
  go_region_calls
  all_goals (go_end0; exact ⟨rfl, rfl⟩)

set_option maxRecDepth 100000 in
/-- '(*sync.Mutex).Unlock', entered as a deferred call, the lock held and nobody waiting (state 1): state 0. -/
theorem unlock_deferred (a : Addr) (u : FrameMode) (w : World) (hc : w.cell? a = some (.int .i32 1)) (hz : w.frozen? a = false) :
    CallsD Try.prog 36 #[.pointer (some a)] u w fun e u' w' => u' = u ∧ (e = .returned (.tuple #[]) ∧ w' = w.setCell a (.int .i32 0)) := by
  have hd := disable
  have he := enable
  have hr := releaseMerge
  have hadd := run_call_add (P := Try.prog) Try.func67 (by kernel_rfl) (by kernel_rfl) (by kernel_rfl) .i32 (by kernel_rfl) (y := -1) (s := 0) hc hz (by simp [go_sem]; rfl)
  have hcv := run_convert_to_unsafe (P := Try.prog) (src := 114) (dst := 118) Try.underlying114 Try.underlying118 (by kernel_rfl) hc
  go_enter_d Try.func36, Try.ntmps36
  go_wp2
  go_end0
  go_wp2
  go_end0
  exact ⟨rfl, rfl⟩

set_option maxRecDepth 100000 in
/-- '(*sync.Mutex).Lock', the lock free (state 0): state 1. -/
theorem lock_free (a : Addr) (w : World) (hc : w.cell? a = some (.int .i32 0)) (hz : w.frozen? a = false) :
    Calls Try.prog 35 #[.pointer (some a)] w fun e w' => e = .returned (.tuple #[]) ∧ w' = w.setCell a (.int .i32 1) := by
  have hd := disable
  have he := enable
  have ha := acquire
  have hcas := run_call_cas_hit (P := Try.prog) Try.func62 (by kernel_rfl) (by kernel_rfl) (by kernel_rfl) .i32 (by kernel_rfl) (y := 1) hc hz
  have hc' : (w.setCell a (.int .i32 1)).cell? a = some (.int .i32 1) := World.cell?_setCell_same w a _ hc
  have hcv := run_convert_to_unsafe (P := Try.prog) (src := 114) (dst := 118) Try.underlying114 Try.underlying118 (by kernel_rfl) hc'
  go_enter Try.func35, Try.ntmps35
  go_wp2
  first | go_end0 | (simp only [Exit.inBlock, Exit.then]; refine bodyPost_ret (results_none rfl _ _ _) rfl ?_) | refine bodyPost_ret (results_none rfl _ _ _) rfl ?_
  go_wp2
  go_end0
  exact ⟨rfl, rfl⟩

set_option maxRecDepth 100000 in
set_option maxHeartbeats 1600000 in
/-- '(*sync.Once).doSlow', not yet done and the lock free, the function being the method value of function 23 at the very struct: the lock is taken; the function is called; 'done' is stored, the lock let go. -/
theorem slow_any (b : Nat) (w : World) (Q : World → Prop)
    (h0 : w.cell? ⟨b, 1, none⟩ = some (.int .u32 0)) (h1 : w.cell? ⟨b, 2, none⟩ = some (.int .i32 0)) (f1 : w.frozen? ⟨b, 2, none⟩ = false)
    (hcall : Hid (Calls Try.prog 23 #[.pointer (some ⟨b, 0, none⟩)] (w.setCell ⟨b, 2, none⟩ (.int .i32 1)) fun e w' => e = .returned (.tuple #[]) ∧ Q w'))
    (hq : Hid (∀ w', Q w' → w'.cell? ⟨b, 1, none⟩ = some (.int .u32 0) ∧ w'.cell? ⟨b, 2, none⟩ = some (.int .i32 1) ∧ w'.frozen? ⟨b, 1, none⟩ = false ∧ w'.frozen? ⟨b, 2, none⟩ = false)) :
    Calls Try.prog 27 #[.pointer (some ⟨b, 1, none⟩), .func (.func 23) #[.pointer (some ⟨b, 0, none⟩)] #[]] w fun e w' => e = .returned (.tuple #[]) ∧
      ∃ w1, Q w1 ∧ w' = (w1.drew.setCell ⟨b, 1, none⟩ (.int .u32 1)).setCell ⟨b, 2, none⟩ (.int .i32 0) := by
  have hl := run_call_load (P := Try.prog) Try.func34 (by kernel_rfl) (by kernel_rfl) (by kernel_rfl) .u32 (by kernel_rfl) (w := w.setCell ⟨b, 2, none⟩ (.int .i32 1)) (a := ⟨b, 1, none⟩) (x := 0) ((World.cell?_setCell_other _ ⟨b, 2, none⟩ ⟨b, 1, none⟩ _ (by simp)).trans h0)
  have hnot : ∀ (x : Bool) (w : World), (Op.unary .not (.bool x)).run Try.prog w = .ok (.bool (!x)) w := fun _ _ => rfl
  go_enter_defers Try.func27, Try.ntmps27
  go_wp2_with (go_at_call 35; refine (lock_free ⟨b, 2, none⟩ _ (by go_simp) (by go_simp)).mono ?_; rintro e w' ⟨rfl, rfl⟩)
  go_wp2_with (first | (go_at_call 26; go_in) | (go_at_call 23; refine hcall.out.mono ?_; rintro e w1 ⟨rfl, hw1⟩))
  obtain ⟨q0, q1, g0, g1⟩ := hq.out w1 hw1
  refine leaves_cons (f := 37) (args := #[.pointer (some ⟨b, 1, none⟩), .bool true]) (by simp) (by simp [go_sem]) ?_
  refine (store_deferred ⟨b, 1, none⟩ (.int .u32 0) .returning _ q0 g0).mono ?_
  rintro e u' w'' ⟨rfl, rfl, rfl⟩
  refine leaves_cons (f := 36) (args := #[.pointer (some ⟨b, 2, none⟩)]) (by simp [settle]) (by simp [go_sem]) ?_
  refine (unlock_deferred ⟨b, 2, none⟩ _ _ ?_ (by simp [g1])).mono ?_
  · refine (World.cell?_setCell_other _ ⟨b, 1, none⟩ ⟨b, 2, none⟩ _ (by simp)).trans ?_
    rw [World.cell?_drew]
    exact q1
  rintro e u' w'' ⟨rfl, rfl, rfl⟩
  simp [Leaves, settle, results, Try.results27]
  exact ⟨w1, hw1, rfl⟩

set_option maxRecDepth 100000 in
set_option maxHeartbeats 1600000 in
/-- '(*sync.Once).Do', not yet done, the lock free. -/
theorem do_first (b : Nat) (w : World) (Q : World → Prop)
    (h0 : w.cell? ⟨b, 1, none⟩ = some (.int .u32 0)) (h1 : w.cell? ⟨b, 2, none⟩ = some (.int .i32 0)) (f1 : w.frozen? ⟨b, 2, none⟩ = false)
    (hcall : Hid (Calls Try.prog 23 #[.pointer (some ⟨b, 0, none⟩)] (w.setCell ⟨b, 2, none⟩ (.int .i32 1)) fun e w' => e = .returned (.tuple #[]) ∧ Q w'))
    (hq : Hid (∀ w', Q w' → w'.cell? ⟨b, 1, none⟩ = some (.int .u32 0) ∧ w'.cell? ⟨b, 2, none⟩ = some (.int .i32 1) ∧ w'.frozen? ⟨b, 1, none⟩ = false ∧ w'.frozen? ⟨b, 2, none⟩ = false)) :
    Calls Try.prog 22 #[.pointer (some ⟨b, 1, none⟩), .func (.func 23) #[.pointer (some ⟨b, 0, none⟩)] #[]] w fun e w' => e = .returned (.tuple #[]) ∧
      ∃ w1, Q w1 ∧ w' = (w1.drew.setCell ⟨b, 1, none⟩ (.int .u32 1)).setCell ⟨b, 2, none⟩ (.int .i32 0) := by
  have hl := run_call_load (P := Try.prog) Try.func34 (by kernel_rfl) (by kernel_rfl) (by kernel_rfl) .u32 (by kernel_rfl) h0
  have hnot : ∀ (x : Bool) (w : World), (Op.unary .not (.bool x)).run Try.prog w = .ok (.bool (!x)) w := fun _ _ => rfl
  go_enter Try.func22, Try.ntmps22
  go_wp2_with (first | (go_at_call 27; refine (slow_any b _ Q h0 h1 f1 hcall hq).mono ?_; rintro e w' ⟨rfl, w1, hw1, rfl⟩) | (go_at_call 26; go_in))
  go_end0
  exact ⟨rfl, w1, hw1, rfl⟩
end Go.Proofs.Qxb6616383a
