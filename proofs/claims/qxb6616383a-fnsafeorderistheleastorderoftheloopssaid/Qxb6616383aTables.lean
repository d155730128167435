/-
  The tables of a graph that has been built.
-/
import Derived.Test.Qxb6616383aLaws
import Derived.Test.Qxb6616383aGroups
import Derived.Handy
namespace Go.Proofs.Qxb6616383a
open Go.RowKit
open Plain
/-- The table L of n lists that share the row A: the list of u is D u. -/
def Lists (w : World) (L A n : Nat) (D : Nat → List Nat) : Prop :=
  ∃ (val : Nat → Value) (F : Nat → Int) (m : Nat), Arr w L 26 n val ∧ Arr w A 3 m (iv F) ∧ ∀ u, u < n → ∃ ao c o, val u = .slice ao (D u).length c ∧ ((D u).length = 0 ∨ ao = some ⟨A, o, none⟩) ∧ (∀ j, j < (D u).length → F (o + j) = ((D u).getD j 0 : Nat)) ∧ o + (D u).length ≤ m
theorem Lists.only {S : Nat → Prop} {w w' : World} {L A n : Nat} {D : Nat → List Nat} (h : Lists w L A n D) (ho : Only S w w') (hL : ¬ S L) (hA : ¬ S A) : Lists w' L A n D := by
  obtain ⟨val, F, m, h1, h2, h3⟩ := h
  exact ⟨val, F, m, h1.only ho hL, h2.only ho hA, h3⟩
/-- The tables of the graph at b: n names N, the lists D of what depends on each, the group of each name, the members of the G groups. All lies below K. -/
structure Tables (w : World) (K b : Nat) (F : Nat → Value) (n G : Nat) (N : Nat → ByteArray) (D : Nat → List Nat) (grp : Nat → Nat) (NB LD AD GB LM AM : Nat) : Prop where
  g : Arr w b 56 14 F
  f4 : F 4 = .slice (some ⟨NB, 0, none⟩) n n
  f6 : F 6 = .slice (some ⟨LD, 0, none⟩) n n
  f8 : F 8 = .slice (some ⟨GB, 0, none⟩) n n
  f9 : F 9 = .slice (some ⟨LM, 0, none⟩) G G
  hN : Arr w NB 9 n (sv N)
  hD : Lists w LD AD n D
  hG : Arr w GB 3 n (nv grp)
  hM : Lists w LM AM G (memb grp n)
  lt : b < K ∧ NB < K ∧ LD < K ∧ AD < K ∧ GB < K ∧ LM < K ∧ AM < K
theorem Tables.only {w w' : World} {K b : Nat} {F : Nat → Value} {n G : Nat} {N : Nat → ByteArray} {D : Nat → List Nat} {grp : Nat → Nat} {NB LD AD GB LM AM : Nat} (h : Tables w K b F n G N D grp NB LD AD GB LM AM) {S : Nat → Prop} (ho : Only S w w') (hS : ∀ k, k < K → ¬ S k) : Tables w' K b F n G N D grp NB LD AD GB LM AM := by
  obtain ⟨h1, h2, h3, h4, h5, h6, h7, h8, h9, h10⟩ := h
  exact ⟨h1.only ho (hS _ h10.1), h2, h3, h4, h5, h6.only ho (hS _ h10.2.1), h7.only ho (hS _ h10.2.2.1) (hS _ h10.2.2.2.1), h8.only ho (hS _ h10.2.2.2.2.1), h9.only ho (hS _ h10.2.2.2.2.2.1) (hS _ h10.2.2.2.2.2.2), h10⟩
theorem Tables.below {w w' : World} {K b : Nat} {F : Nat → Value} {n G : Nat} {N : Nat → ByteArray} {D : Nat → List Nat} {grp : Nat → Nat} {NB LD AD GB LM AM : Nat} (h : Tables w K b F n G N D grp NB LD AD GB LM AM) (ho : Below K w w') : Tables w' K b F n G N D grp NB LD AD GB LM AM :=
  h.only (S := fun k => ¬ k < K) ⟨ho.os, ho.tape, ho.output, ho.size, fun k _ hn => ho.block k (Decidable.not_not.1 hn)⟩ (fun _ hk h => h hk)
theorem Lists.at_ {w : World} {L A n : Nat} {D : Nat → List Nat} (h : Lists w L A n D) {u : Nat} (hu : u < n) : ∃ ao c o, w.cell? ⟨L, u, none⟩ = some (.slice ao (D u).length c) ∧ ((D u).length = 0 ∨ ao = some ⟨A, o, none⟩) ∧ ∀ j, j < (D u).length → w.cell? ⟨A, o + j, none⟩ = some (.int .i64 (((D u).getD j 0 : Nat) : Int)) := by
  obtain ⟨val, F, m, h1, h2, h3⟩ := h
  obtain ⟨ao, c, o, e1, e2, e3, e4⟩ := h3 u hu
  refine ⟨ao, c, o, by rw [h1.cell hu, e1], e2, fun j hj => ?_⟩
  rw [h2.cell (by omega), ← e3 j hj]; rfl
end Go.Proofs.Qxb6616383a
