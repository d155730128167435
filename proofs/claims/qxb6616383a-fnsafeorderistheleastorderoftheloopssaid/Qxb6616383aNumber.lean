/-
  The walk of build's closure that numbers the names.
-/
import Derived.Test.Qxb6616383aTab
import Derived.Test.Qxb6616383aAppend
import Derived.Test.Qxb6616383aUp
namespace Go.Proofs.Qxb6616383a
open Go.RowKit
open Plain
/-- The numbering under way: the graph in block b, its index in mb; the box of the graph's pointer G1, the box of the names N1. -/
structure NumAt (w : World) (b G1 mb N1 : Nat) (F : Nat → Value) (v : Value) (m : Nat) (f : Nat → ByteArray) : Prop where
  box1 : Arr w G1 40 1 (fun _ => .pointer (some ⟨b, 0, none⟩))
  gr : Arr w b 56 14 F
  ix : F 5 = .map (some mb)
  box2 : Arr w N1 22 1 (fun _ => v)
  own : Own w (N1 + 1) 9 v m (sv f)
  tab : Tab w mb m f (fun i => i)
  keys : Keys m f
  lt1 : b < G1
  lt2 : G1 < mb
  lt3 : mb < N1
theorem Keys.add {n : Nat} {f : Nat → ByteArray} (K : Keys n f) (s : ByteArray) (hs : s.size ≤ maxLen) (hm : ∀ i, i < n → f i ≠ s) : Keys (n + 1) (upd f n s) := by
  refine ⟨fun i j hi hj e => ?_, fun i hi => ?_⟩
  · simp only [upd] at e
    by_cases h1 : i = n <;> by_cases h2 : j = n
    · omega
    · rw [if_pos h1, if_neg h2] at e; exact absurd e.symm (hm j (by omega))
    · rw [if_neg h1, if_pos h2] at e; exact absurd e (hm i (by omega))
    · rw [if_neg h1, if_neg h2] at e; exact K.inj i j (by omega) (by omega) e
  · simp only [upd]
    split
    · exact hs
    · exact K.size i (by omega)
theorem look_dec (n : Nat) (f : Nat → ByteArray) (s : ByteArray) : (∃ i, i < n ∧ f i = s) ∨ ∀ i, i < n → f i ≠ s := by
  by_cases h : ∃ i, i < n ∧ f i = s
  · exact Or.inl h
  · exact Or.inr (fun i hi e => h ⟨i, hi, e⟩)
theorem Own.shape {w : World} {B t n : Nat} {v : Value} {f : Nat → Value} (h : Own w B t v n f) : ∃ ao c, v = .slice ao n c := by
  rcases h.cases with ⟨rfl, rfl⟩ | ⟨g, c, rfl, _⟩
  · exact ⟨none, 0, rfl⟩
  · exact ⟨_, c, rfl⟩
set_option maxRecDepth 100000 in
set_option maxHeartbeats 4000000 in
theorem number_any (w : World) (b G1 mb N1 m : Nat) (F : Nat → Value) (v : Value) (f : Nat → ByteArray) (s : ByteArray) (hs : s.size ≤ maxLen) (hm : m ≤ 100000) (h : NumAt w b G1 mb N1 F v m f) :
    Calls Try.prog 28 #[.string s, .pointer (some ⟨G1, 0, none⟩), .pointer (some ⟨N1, 0, none⟩)] w fun e w' => ∃ i m' f' v', e = .returned (.int .i64 (i : Nat)) ∧ NumAt w' b G1 mb N1 F v' m' f' ∧ i < m' ∧ f' i = s ∧ m ≤ m' ∧ m' ≤ m + 1 ∧ (∀ j, j < m → f' j = f j) ∧ (∀ j, j < m' → j < m ∨ f' j = s) ∧ Only (fun k => k = N1 ∨ k = mb ∨ v.ownBlock = some k) w w' ∧ Moved w v v' := by
  have c1 := h.box1.cell (i := 0) (by omega)
  have c2 := h.gr.cell (i := 5) (by omega)
  rw [h.ix] at c2
  have c3 := h.box2.cell (i := 0) (by omega)
  have f3 := h.box2.free 0
  have H : Hid (NumAt w b G1 mb N1 F v m f) := h
  clear h
  rcases look_dec m f s with ⟨i, hi, rfl⟩ | hmiss
  · have hl := H.out.tab.look_hit H.out.keys hi
    go_enter Try.func28, Try.ntmps28
    go_wp2_with fail
    go_ret
    exact ⟨i, m, f, v, rfl, H.out, hi, rfl, by omega, by omega, fun _ _ => rfl, fun j hj => Or.inl hj, Only.refl _ _, Or.inl rfl⟩
  · have hl := H.out.tab.look_miss H.out.keys s hs hmiss
    obtain ⟨w2, hup, ht2, ho2, hs2⟩ := H.out.tab.push (x := m) H.out.keys s hs hmiss
    have HM : Hid (∀ i, i < m → f i ≠ s) := hmiss
    have HT2 : Hid (Tab w2 mb (m + 1) (upd f m s) (upd (fun i => i) m m)) := ht2
    have HO2 : Hid (Only (fun k => k = mb) w w2) := ho2
    have HS2 : Hid (w2.heap.size = w.heap.size) := hs2
    have d1 := H.out.lt1
    have d2 := H.out.lt2
    have d3 := H.out.lt3
    have c1' := (H.out.box1.only ho2 (by omega)).cell (i := 0) (by omega)
    have c2' := (H.out.gr.only ho2 (by omega)).cell (i := 5) (by omega)
    rw [H.out.ix] at c2'
    have HB2 : Hid (Arr w2 N1 22 1 (fun _ => v)) := H.out.box2.only ho2 (by omega)
    have HW2 : Hid (Own w2 (N1 + 1) 9 v m (sv f)) := H.out.own.only ho2 (fun k hk => by have := (H.out.own.lt k hk).1; omega)
    have c3' := HB2.out.cell (i := 0) (by omega)
    clear hmiss ht2 ho2 hs2
    obtain ⟨ao, c, rfl⟩ := H.out.own.shape
    go_enter Try.func28, Try.ntmps28
    go_wp2_with (
      refine app_one' _ rfl _ _ 22 rfl (N1 + 1) 9 (.string ⟨#[]⟩) 16 Try.underlying22 Try.info9 rfl _ m (sv f) rfl (HW2.out.alloc _) _ 1 (.string s) rfl (cell_new _ _ _) rfl (by unfold maxLen; omega) (by omega) (by simp; have := HB2.out.lt; omega) ?_
      intro v' w3 hO3 hG3 hM3
      obtain ⟨g', c', rfl⟩ := hO3.out.some_
      have HA3 : Hid (Arr w3 N1 22 1 (fun _ => Value.slice ao m c)) := (HB2.out.alloc _).grown hG3.out (fun h => by have := HW2.out.lt N1 h.symm; omega)
      have cR2 := HA3.out.cell (i := 0) (by omega)
      have fR2 := HA3.out.free 0)
    go_ret
    have o3 : Only (fun k => k = N1 ∨ k = mb ∨ (Value.slice ao m c).ownBlock = some k) w (w2.alloc (.cells #[.string s] 9)) := (HO2.out.weak (fun i h => Or.inr (Or.inl h))).trans (Only.alloc _ _ _)
    have o4 := o3.trans' (Only.grown hG3.out) (fun i _ h => Or.inr (Or.inr h.symm))
    have o5 := o4.trans' (Only.setCell w3 ⟨N1, 0, none⟩ (Value.slice (some ⟨g', 0, none⟩) (m + 1) c')) (fun i _ h => Or.inl h)
    have hvb : ∀ k, (Value.slice ao m c).ownBlock = some k → N1 < k := fun k hk => by have := (H.out.own.lt k hk).1; omega
    have eid : upd (fun i => i) m m = fun i : Nat => i := by funext k; simp only [upd]; split <;> omega
    have hT := HT2.out
    rw [eid] at hT
    have hT3 : Tab w3 mb (m + 1) (upd f m s) (fun i => i) := ((hT.only (Only.alloc w2 _ (fun _ => False)) id).only (Only.grown hG3.out) (fun h => by have := hvb mb h.symm; omega))
    have hOw := hO3.out
    rw [upd_sv] at hOw
    refine ⟨m, m + 1, upd f m s, _, rfl, ⟨H.out.box1.only o5 ?_, H.out.gr.only o5 ?_, H.out.ix, HA3.out.set 0 _, hOw.setCell ?_ _, hT3.only (Only.setCell _ _ _) ?_, H.out.keys.add s hs HM.out, d1, d2, d3⟩, by omega, by simp [upd], by omega, by omega, fun j hj => by simp [upd, show j ≠ m by omega], fun j hj => ?_, o5, ?_⟩
    · rintro (h | h | h)
      · omega
      · omega
      · have := hvb _ h; omega
    · rintro (h | h | h)
      · omega
      · omega
      · have := hvb _ h; omega
    · intro h
      have := (hO3.out.lt g' rfl).1
      simp [Value.ownBlock] at h
      omega
    · show ¬ mb = N1
      omega
    · by_cases hjm : j = m
      · exact Or.inr (by simp [upd, hjm])
      · exact Or.inl (by omega)
    · rcases hM3.out with h | h
      · exact Or.inl h
      · exact Or.inr (fun k hk => by have := h k hk; have := HS2.out; simp at *; omega)
end Go.Proofs.Qxb6616383a
