/-
  strings.NewReplacer at the four strings of oneLine.
-/
import Derived.Test.Qxb6616464aRows
import Derived.WalkKit
import Derived.WalkSpells
import Derived.WalkLawsBesides
import Derived.ProofKit
namespace Go.Proofs.Qxb6616464a
open Go.RowKit
/-- The four strings handed to NewReplacer. -/
def S4 : List Value := [.string ⟨#[9]⟩, .string ⟨#[92, 117, 48, 48, 48, 57]⟩, .string ⟨#[10]⟩, .string ⟨#[92, 117, 48, 48, 48, 97]⟩]
theorem Try.info9 : (Try.prog.info? 9).map (fun i => (i.zero, i.size, i.bytes)) = some (some (.string ⟨#[]⟩), 1, 16) := by kernel_rfl
theorem own_shape {w : World} {base e size : Nat} {v : Value} {n : Nat} {xs : List Value} (h : w.ownsRow base e size v n xs) (hn : n ≠ 0) : ∃ g cap, v = .slice (some ⟨g, 0, none⟩) n cap := by
  rcases h.2 with ⟨_, h0⟩ | ⟨g, cap, _, hv, _⟩
  · exact absurd h0 hn
  · exact ⟨g, cap, hv⟩
set_option maxRecDepth 100000 in
set_option maxHeartbeats 400000 in
theorem newReplacer (b : Nat) (w : World) (hc : Hid (∀ j u, S4[j]? = some u → w.cell? ((⟨b, 0, none⟩ : Addr).add j) = some u)) :
    Calls Try.prog 23 #[.slice (some ⟨b, 0, none⟩) 4 4] w fun e w' => ∃ v w1, e = .returned (.pointer (some ⟨w1.heap.size, 0, none⟩)) ∧ w1.ownsRow w.heap.size 9 1 v 4 S4 ∧ w.grownBy w1 none ∧
      w' = w1.alloc (.cells #[.int .u32 0, .int .i32 0, .int .u32 0, .nilIface, v] 51) := by
  obtain ⟨i0, hi, hz0, hz1, hz2⟩ := info_parts Try.info9
  go_enter Try.func23, Try.ntmps23
  go_wp2_with (at_builtin; refine wpList_append_own _ rfl _ _ 35 rfl w.heap.size 9 i0 (.string ⟨#[]⟩) 1 16 Try.underlying35 hi hz0 hz1 hz2 rfl (by decide) _ _ _ rfl (World.ownsRow_nil _ _ _ _) ⟨b, 0, none⟩ 4 4 S4 rfl rfl hc.out ?c2 ?c3 ?c4 ?c5 ?_)
  case c2 => decide
  case c3 => unfold maxLen; omega
  case c4 => omega
  case c5 => omega
  intro v' w1 hown' hgrow _
  obtain ⟨g, cap, hv⟩ := own_shape hown' (by decide)
  have H1 : Hid (w1.ownsRow w.heap.size 9 1 v' 4 S4) := hown'
  have H2 : Hid (w.grownBy w1 none) := hgrow
  clear hown' hgrow
  rw [hv] at H1 ⊢
  clear hv
  go_wp2
  go_ret
  exact ⟨_, w1, rfl, H1.out, H2.out, rfl⟩
end Go.Proofs.Qxb6616464a
