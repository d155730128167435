/-
  The search that marks all that one name reaches (plain).
-/
import Derived.Test.Qxb6616383aCover
namespace Go.Proofs.Qxb6616383a
namespace Plain
/-- At the loop's head: mk is marked, st still to be looked at. -/
structure RI (n : Nat) (O : Nat → List Nat) (u : Nat) (mk : Nat → Bool) (st : List Nat) : Prop where
  own : mk u = true
  from_ : ∀ x, mk x = true → x < n ∧ Reach O u x
  stk : ∀ x, x ∈ st → mk x = true
  done : ∀ v, mk v = true → v ∉ st → ∀ y, y ∈ O v → mk y = true
  room : st.length + unv (b2n mk) n ≤ n
/-- Inside: v is looked at, the first k of its list passed. -/
structure RJ (n : Nat) (O : Nat → List Nat) (u : Nat) (mk : Nat → Bool) (st : List Nat) (v k : Nat) : Prop where
  own : mk u = true
  from_ : ∀ x, mk x = true → x < n ∧ Reach O u x
  stk : ∀ x, x ∈ st → mk x = true
  at_ : mk v = true
  done : ∀ v', mk v' = true → v' ∉ st → v' ≠ v → ∀ y, y ∈ O v' → mk y = true
  part : ∀ y, y ∈ (O v).take k → mk y = true
  room : st.length + 1 + unv (b2n mk) n ≤ n
theorem unv_mark {mk : Nat → Bool} {x n : Nat} (h : mk x = false) (hx : x < n) : unv (b2n (upd mk x true)) n + 1 = unv (b2n mk) n := by
  have e : b2n (upd mk x true) = upd (b2n mk) x 1 := by
    funext y
    by_cases e : y = x
    · simp [b2n, upd, e]
    · simp [b2n, upd, e]
  have h2 := unv_upd (ord := b2n mk) (x := x) (z := 1) (by omega) (by simp [b2n, h]) n
  rw [if_pos hx] at h2
  rw [e]; exact h2
theorem RI.start {n : Nat} {O : Nat → List Nat} {u : Nat} (hu : u < n) : RI n O u (upd (fun _ => false) u true) [u] := by
  refine ⟨upd_same _ _ _, fun x hx => ?_, fun x hx => ?_, fun v hv hn => ?_, ?_⟩
  · by_cases e : x = u
    · rw [e]; exact ⟨hu, Reach.refl O u⟩
    · rw [upd_other _ _ _ _ e] at hx; cases hx
  · rw [List.mem_singleton.1 hx]; exact upd_same _ _ _
  · exfalso
    by_cases e : v = u
    · exact hn (by rw [e]; exact List.mem_singleton.2 rfl)
    · rw [upd_other _ _ _ _ e] at hv; cases hv
  · have h1 := unv_mark (mk := fun _ => false) (x := u) (n := n) rfl hu
    have h2 : b2n (fun _ => false) = fun _ => 0 := by funext x; simp [b2n]
    rw [h2, unv_zero] at h1
    simp only [List.length_singleton]
    omega
theorem RI.pop {n : Nat} {O : Nat → List Nat} {u : Nat} {mk : Nat → Bool} {st : List Nat} {v : Nat} (h : RI n O u mk (st ++ [v])) : RJ n O u mk st v 0 := by
  refine ⟨h.own, h.from_, fun x hx => h.stk x (List.mem_append_left _ hx), h.stk v (by simp), fun v' hv hn hne => h.done v' hv (by simp [hn, hne]), fun y hy => by simp at hy, ?_⟩
  have := h.room
  rw [List.length_append, List.length_singleton] at this
  omega
theorem RJ.next {n : Nat} {O : Nat → List Nat} {u : Nat} {mk : Nat → Bool} {st : List Nat} {v k : Nat} (h : RJ n O u mk st v k) (hk : k < (O v).length) (hm : mk ((O v).getD k 0) = true) : RJ n O u mk st v (k + 1) := by
  refine ⟨h.own, h.from_, h.stk, h.at_, h.done, fun y hy => ?_, h.room⟩
  rw [← List.take_append_getElem hk] at hy
  rcases List.mem_append.1 hy with hy | hy
  · exact h.part y hy
  · rw [List.mem_singleton.1 hy]
    rw [List.getD_eq_getElem?_getD, List.getElem?_eq_getElem hk, Option.getD_some] at hm
    exact hm
theorem RJ.push {n : Nat} {O : Nat → List Nat} {u : Nat} {mk : Nat → Bool} {st : List Nat} {v k : Nat} (h : RJ n O u mk st v k) (hk : k < (O v).length) (hO : ∀ v x, x ∈ O v → x < n) (hm : mk ((O v).getD k 0) = false) : RJ n O u (upd mk ((O v).getD k 0) true) (st ++ [(O v).getD k 0]) v (k + 1) := by
  have hx : (O v).getD k 0 ∈ O v := getD_mem hk
  obtain ⟨x, ex⟩ : ∃ x, x = (O v).getD k 0 := ⟨_, rfl⟩
  rw [← ex] at hm hx ⊢
  have hmono : ∀ y, mk y = true → upd mk x true y = true := fun y hy => by
    by_cases e : y = x
    · rw [e]; exact upd_same _ _ _
    · rw [upd_other _ _ _ _ e]; exact hy
  have hv := h.from_ v h.at_
  refine ⟨hmono _ h.own, fun y hy => ?_, fun y hy => ?_, hmono _ h.at_, fun v' hv' hn hne y hy => ?_, fun y hy => ?_, ?_⟩
  · by_cases e : y = x
    · rw [e]; exact ⟨hO v x hx, Reach.trans hv.2 (Reach.step hx)⟩
    · rw [upd_other _ _ _ _ e] at hy; exact h.from_ y hy
  · rcases List.mem_append.1 hy with hy | hy
    · exact hmono _ (h.stk y hy)
    · rw [List.mem_singleton.1 hy]; exact upd_same _ _ _
  · have e : v' ≠ x := fun e => hn (by rw [e]; simp)
    rw [upd_other _ _ _ _ e] at hv'
    exact hmono _ (h.done v' hv' (fun h1 => hn (List.mem_append_left _ h1)) hne y hy)
  · rw [← List.take_append_getElem hk] at hy
    rcases List.mem_append.1 hy with hy | hy
    · exact hmono _ (h.part y hy)
    · rw [List.mem_singleton.1 hy]
      rw [List.getD_eq_getElem?_getD, List.getElem?_eq_getElem hk, Option.getD_some] at ex
      rw [← ex]; exact upd_same _ _ _
  · have h1 := unv_mark (n := n) hm (hO v x hx)
    have h2 := h.room
    rw [List.length_append, List.length_singleton]
    omega
theorem RJ.close {n : Nat} {O : Nat → List Nat} {u : Nat} {mk : Nat → Bool} {st : List Nat} {v : Nat} (h : RJ n O u mk st v (O v).length) : RI n O u mk st := by
  refine ⟨h.own, h.from_, h.stk, fun v' hv hn y hy => ?_, by have := h.room; omega⟩
  by_cases e : v' = v
  · rw [e] at hy
    exact h.part y (by rw [List.take_length]; exact hy)
  · exact h.done v' hv hn e y hy
theorem RI.end_ {n : Nat} {O : Nat → List Nat} {u : Nat} {mk : Nat → Bool} (h : RI n O u mk []) (x : Nat) : mk x = true ↔ Reach O u x := by
  constructor
  · exact fun hx => (h.from_ x hx).2
  · intro hr
    exact Reach.shut (fun y => mk y = true) (fun v hv y hy => h.done v hv (by simp) y hy) hr h.own
end Plain
end Go.Proofs.Qxb6616383a
