/-
  The walk of built: the tables are built once.
-/
import Derived.Test.Qxb6616383aBuild
import Derived.Test.Qxb6616383aOnce
namespace Go.Proofs.Qxb6616383a
open Go.RowKit
open Plain
/-- What a graph built from the m edges is. -/
def Made (m : Nat) (dep dpt : Nat → ByteArray) (n : Nat) (N : Nat → ByteArray) (D : Nat → List Nat) : Prop :=
  Rises n N ∧ (∀ i, i < n → ∃ k, k < m ∧ (N i = dep k ∨ N i = dpt k)) ∧ ∃ x y : Nat → Nat, (∀ k, k < m → x k < n ∧ N (x k) = dep k ∧ y k < n ∧ N (y k) = dpt k) ∧ D = nbr n x y m
/-- What is asked of findGroups. -/
def Finds : Prop := ∀ (w : World) (b NB n LD AD : Nat) (F : Nat → Value) (D : Nat → List Nat), Arr w b 56 14 F → F 4 = .slice (some ⟨NB, 0, none⟩) n n → F 6 = .slice (some ⟨LD, 0, none⟩) n n → Lists w LD AD n D → (∀ u x, x ∈ D u → x < n) → (∀ u, (D u).length ≤ 100000) → n ≤ 100000 → b < LD → b < AD → Calls Try.prog 33 #[.pointer (some ⟨b, 0, none⟩)] w fun e w' => e = .returned (.tuple #[]) ∧ ∃ grp G GA LM AM, Arr w' b 56 14 (upd (upd F 8 (.slice (some ⟨GA, 0, none⟩) n n)) 9 (.slice (some ⟨LM, 0, none⟩) G G)) ∧ Arr w' GA 3 n (nv grp) ∧ Lists w' LM AM G (memb grp n) ∧ Gr n D grp G ∧ Only (fun k => k = b) w w' ∧ w.heap.size ≤ GA ∧ w.heap.size ≤ LM ∧ w.heap.size ≤ AM
theorem Tables.setG {w : World} {K b : Nat} {F : Nat → Value} {n G : Nat} {N : Nat → ByteArray} {D : Nat → List Nat} {grp : Nat → Nat} {NB LD AD GB LM AM : Nat} (h : Tables w K b F n G N D grp NB LD AD GB LM AM) (hd : NB ≠ b ∧ LD ≠ b ∧ AD ≠ b ∧ GB ≠ b ∧ LM ≠ b ∧ AM ≠ b) {i : Nat} (hi : i < 4) (v : Value) : Tables (w.setCell ⟨b, i, none⟩ v) K b (upd F i v) n G N D grp NB LD AD GB LM AM := by
  have ho : Only (fun k => k = b) w (w.setCell ⟨b, i, none⟩ v) := Only.put1' (fun k => k = b) w b i v rfl
  obtain ⟨h1, h2, h3, h4, h5, h6, h7, h8, h9, h10⟩ := h
  obtain ⟨d1, d2, d3, d4, d5, d6⟩ := hd
  exact ⟨h1.set i v, by rw [upd_other _ _ _ _ (by omega)]; exact h2, by rw [upd_other _ _ _ _ (by omega)]; exact h3, by rw [upd_other _ _ _ _ (by omega)]; exact h4, by rw [upd_other _ _ _ _ (by omega)]; exact h5, h6.only ho d1, h7.only ho d2 d3, h8.only ho d4, h9.only ho d5 d6, h10⟩
/-- Of one block two lengths cannot be told. -/
theorem Arr.ne_of_type {w : World} {a b t u n m : Nat} {f g : Nat → Value} (h : Arr w a t n f) (k : Arr w b u m g) (ht : t ≠ u) : a ≠ b := by
  intro e
  subst e
  unfold Arr at h k
  rw [h] at k
  simp only [Option.some.injEq, Obj.cells.injEq] at k
  exact ht k.2.1
theorem Tables.apart {w : World} {K b : Nat} {F : Nat → Value} {n G : Nat} {N : Nat → ByteArray} {D : Nat → List Nat} {grp : Nat → Nat} {NB LD AD GB LM AM : Nat} (h : Tables w K b F n G N D grp NB LD AD GB LM AM) : NB ≠ b ∧ LD ≠ b ∧ AD ≠ b ∧ GB ≠ b ∧ LM ≠ b ∧ AM ≠ b := by
  obtain ⟨v1, F1, m1, a1, a2, _⟩ := h.hD
  obtain ⟨v2, F2, m2, b1, b2, _⟩ := h.hM
  exact ⟨h.hN.ne_of_type h.g (by omega), a1.ne_of_type h.g (by omega), a2.ne_of_type h.g (by omega), h.hG.ne_of_type h.g (by omega), b1.ne_of_type h.g (by omega), b2.ne_of_type h.g (by omega)⟩
def BPost (w : World) (b m : Nat) (F : Nat → Value) (dep dpt : Nat → ByteArray) (w' : World) : Prop :=
  ∃ F' n G N D grp NB LD AD GB LM AM, Tables w' w'.heap.size b F' n G N D grp NB LD AD GB LM AM ∧ (∀ i, i < 4 → F' i = F i) ∧ Gr n D grp G ∧ Made m dep dpt n N D ∧ n ≤ 100000 ∧ Only (fun k => k = b) w w'
set_option maxRecDepth 100000 in
set_option maxHeartbeats 4000000 in
theorem built_any (h33 : Finds) (w : World) (b EB m : Nat) (F : Nat → Value) (dep dpt : Nat → ByteArray) (hb : Arr w b 56 14 F) (h0 : F 0 = .slice (some ⟨EB, 0, none⟩) m m) (h1 : F 1 = .int .u32 0) (h2 : F 2 = .int .i32 0) (hE : Arr w EB 31 (m * 2) (ev dep dpt)) (hm : m ≤ 20000) (hs : ∀ k, k < m → (dep k).size ≤ maxLen ∧ (dpt k).size ≤ maxLen) (hEb : EB ≠ b) :
    Calls Try.prog 16 #[.pointer (some ⟨b, 0, none⟩)] w fun e w' => e = .returned (.pointer (some ⟨b, 0, none⟩)) ∧ ∃ K F n G N D grp NB LD AD GB LM AM, Tables w' K b F n G N D grp NB LD AD GB LM AM ∧ Made m dep dpt n N D ∧ Gr n D grp G ∧ n ≤ 100000 ∧ Only (fun k => k = b) w w' ∧ K ≤ w'.heap.size := by
  have c1 := hb.cell (i := 1) (by omega)
  rw [h1] at c1
  have c2 := hb.cell (i := 2) (by omega)
  rw [h2] at c2
  have hset := hb.set 2 (.int .i32 1)
  have hE2 : Arr (w.setCell ⟨b, 2, none⟩ (.int .i32 1)) EB 31 (m * 2) (ev dep dpt) := hE.other hEb _
  have hcall : Hid (Calls Try.prog 23 #[.pointer (some ⟨b, 0, none⟩)] (w.setCell ⟨b, 2, none⟩ (.int .i32 1)) fun e w' => e = .returned (.tuple #[]) ∧ BPost (w.setCell ⟨b, 2, none⟩ (.int .i32 1)) b m (upd F 2 (.int .i32 1)) dep dpt w') := by
    refine (build_any (w.setCell ⟨b, 2, none⟩ (.int .i32 1)) b EB m (upd F 2 (.int .i32 1)) dep dpt hset (by rw [upd_other _ _ _ _ (by omega)]; exact h0) hE2 hm hs hEb h33).mono ?_
    rintro e w' ⟨rfl, F', n, G, N, D, grp, NB, LD, AD, GB, LM, AM, a1, a2, a3, a4, a5, a6, a7, a8⟩
    exact ⟨rfl, F', n, G, N, D, grp, NB, LD, AD, GB, LM, AM, a1, a2, a3, ⟨a4, a5, a6⟩, a7, a8⟩
  have hq : Hid (∀ w', BPost (w.setCell ⟨b, 2, none⟩ (.int .i32 1)) b m (upd F 2 (.int .i32 1)) dep dpt w' → w'.cell? ⟨b, 1, none⟩ = some (.int .u32 0) ∧ w'.cell? ⟨b, 2, none⟩ = some (.int .i32 1) ∧ w'.frozen? ⟨b, 1, none⟩ = false ∧ w'.frozen? ⟨b, 2, none⟩ = false) := by
    rintro w' ⟨F', n, G, N, D, grp, NB, LD, AD, GB, LM, AM, a1, a2, _⟩
    refine ⟨?_, ?_, a1.g.free 1, a1.g.free 2⟩
    · rw [a1.g.cell (i := 1) (by omega), a2 1 (by omega), upd_other _ _ _ _ (by omega), h1]
    · rw [a1.g.cell (i := 2) (by omega), a2 2 (by omega), upd_same]
  have hdo : Hid (Calls Try.prog 22 #[.pointer (some ⟨b, 1, none⟩), .func (.func 23) #[.pointer (some ⟨b, 0, none⟩)] #[]] w fun e w' => e = .returned (.tuple #[]) ∧ ∃ w1, BPost (w.setCell ⟨b, 2, none⟩ (.int .i32 1)) b m (upd F 2 (.int .i32 1)) dep dpt w1 ∧ w' = (w1.drew.setCell ⟨b, 1, none⟩ (.int .u32 1)).setCell ⟨b, 2, none⟩ (.int .i32 0)) := do_first b w _ c1 c2 (hb.free 2) hcall hq
  clear hcall hq hset hE2 hb hE c1 c2
  have hmf : ∀ (fn : Fn) (first cap : Array Value) (w : World), (Instr.makeFunc fn first cap).run Try.prog w = .ok (.func fn first cap) w := fun _ _ _ _ => rfl
  go_enter Try.func16, Try.ntmps16
  go_wp2_with (
    go_at_call 22
    refine hdo.out.mono ?_
    rintro e w2 ⟨rfl, w1, hp, hw⟩
    have HP : Hid (BPost (w.setCell ⟨b, 2, none⟩ (.int .i32 1)) b m (upd F 2 (.int .i32 1)) dep dpt w1) := hp
    have HW : Hid (w2 = (w1.drew.setCell ⟨b, 1, none⟩ (.int .u32 1)).setCell ⟨b, 2, none⟩ (.int .i32 0)) := hw
    clear hp hw)
  go_ret
  obtain ⟨F', n, G, N, D, grp, NB, LD, AD, GB, LM, AM, a1, a2, a3, a4, a5, a6⟩ := HP.out
  have t1 : Tables w1.drew w1.heap.size b F' n G N D grp NB LD AD GB LM AM := a1.only (Only.drewN _ 1 (fun _ => False)) (fun _ _ => id)
  have t2 := t1.setG t1.apart (i := 1) (by omega) (.int .u32 1)
  have t3 := t2.setG t2.apart (i := 2) (by omega) (.int .i32 0)
  rw [← HW.out] at t3
  refine ⟨rfl, _, _, n, G, N, D, grp, NB, LD, AD, GB, LM, AM, t3, a4, a3, a5, ?_, ?_⟩
  · rw [HW.out]
    exact (((Only.put1' (fun k => k = b) w b 2 _ rfl).trans a6).trans (Only.drewN _ 1 _)).trans ((Only.put1' (fun k => k = b) _ b 1 _ rfl).trans (Only.put1' _ _ b 2 _ rfl))
  · rw [HW.out, size_setCell, size_setCell]; exact Nat.le_refl _
end Go.Proofs.Qxb6616383a
