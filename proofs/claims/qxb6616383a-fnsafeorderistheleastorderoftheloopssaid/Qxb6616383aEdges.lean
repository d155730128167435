/-
  The law's edges: the two lists, what the two answers say; the arguments as they come in.
-/
import Derived.Test.Qxb6616383aGlue
import Derived.Test.Qxb6616383aZz
import Derived.Test.Qxb6616383aCover
import Derived.Test.Qxb6616383aNames
import Derived.Test.Qxb6616383aBytes
import Derived.Deep.DeepCutAuto
import Derived.Deep.OwnRows
import Derived.Deep.RegionHeld3
import Derived.Deep.LoopGhost
import Derived.Laws.CopyOwn
import Derived.SliceStrings
import Derived.Deep.Grids
import Derived.ProofKit
namespace Go.Proofs.Qxb6616383a
open Go.RowKit
open Plain
theorem Try.info31 : (Try.prog.info? 31).map (fun i => (i.zero, i.size, i.bytes)) = some (some (.agg #[.string ⟨#[]⟩, .string ⟨#[]⟩]), 2, 32) := by kernel_rfl
theorem run_make_edges (l n : Nat) (hl : l ≤ n) (hn : n ≤ 100000) (w : World) : (Instr.makeSlice 29 (.int .i64 (l : Int)) (.int .i64 (n : Int))).run Try.prog w = .ok (.slice (some ⟨w.heap.size, 0, none⟩) l n) (w.alloc (.cells (madeCells #[.string ⟨#[]⟩, .string ⟨#[]⟩] (n * 2)) 31)) := by
  obtain ⟨i, hi, hz, hs, hb⟩ := info_parts Try.info31
  have hb' : (i.bytes : Int) * (n : Int) ≤ 281474976710656 := by rw [hb]; omega
  have hr := run_make (P := Try.prog) w 29 31 i _ Try.underlying29 hi hz .i64 .i64 l n (by omega) (by omega) hb' (by omega)
  simp only [Int.toNat_natCast, hs] at hr
  exact hr
/-- f below t, and nothing from there on. -/
def upto (t : Nat) (f : Nat → ByteArray) : Nat → ByteArray := fun k => if k < t then f k else ⟨#[]⟩
theorem made_edges (w : World) (n : Nat) (d p : Nat → ByteArray) : Arr (w.alloc (.cells (madeCells #[.string ⟨#[]⟩, .string ⟨#[]⟩] (n * 2)) 31)) w.heap.size 31 (n * 2) (ev (upto 0 d) (upto 0 p)) := by
  unfold Arr
  rw [heap_alloc_last]
  congr 2
  apply Array.ext'
  simp only [madeCells, Array.toList_map, Array.toList_range]
  apply List.map_congr_left
  intro i _
  rcases Nat.mod_two_eq_zero_or_one i with h | h <;> simp [ev, upto, h]
theorem ev_put (d p : Nat → ByteArray) (k : Nat) : upd (upd (ev (upto k d) (upto k p)) (k * 2) (.string (d k))) (k * 2 + 1) (.string (p k)) = ev (upto (k + 1) d) (upto (k + 1) p) := by
  funext i
  simp only [upd, ev, upto]
  by_cases h1 : i = k * 2 + 1
  · simp [h1, show (k * 2 + 1) / 2 = k by omega, show (k * 2 + 1) % 2 = 1 by omega]
  · rw [if_neg h1]
    by_cases h2 : i = k * 2
    · simp [h2]
    · rw [if_neg h2]
      have e1 : (i / 2 < k) = (i / 2 < k + 1) := by
        apply propext
        omega
      simp only [e1]
theorem ev_full (w : World) (b m : Nat) (d p : Nat → ByteArray) (h : Arr w b 31 (m * 2) (ev (upto m d) (upto m p))) : Arr w b 31 (m * 2) (ev d p) := h.congr (fun i hi => by
  have h1 : i / 2 < m := by omega
  simp [ev, upto, h1])
theorem put2_only (w : World) (E k : Nat) (a c : Value) : Only (fun y => y = E) w ((w.setCell ⟨E, k * 2, none⟩ a).setCell ⟨E, k * 2 + 1, none⟩ c) := (Only.setCell w ⟨E, k * 2, none⟩ a).trans (Only.setCell _ ⟨E, k * 2 + 1, none⟩ c)
theorem put2_cell {w : World} {E b o : Nat} {v : Value} (k : Nat) (a c : Value) (h : w.cell? ⟨b, o, none⟩ = some v) (hb : b ≠ E) : ((w.setCell ⟨E, k * 2, none⟩ a).setCell ⟨E, k * 2 + 1, none⟩ c).cell? ⟨b, o, none⟩ = some v := by
  rw [← h]
  simp only [World.cell?]
  rw [(put2_only w E k a c).block b (World.block_lt_of_cell? w _ h) hb]
theorem SArg.reads {w : World} {ao : Option Addr} {l c : Nat} {f : Nat → Value} (h : SArg w ao l c f) {i : Nat} (hi : i < l) : ∃ b o, ao = some ⟨b, o, none⟩ ∧ b < w.heap.size ∧ ∀ wr, Below w.heap.size w wr → wr.cell? ⟨b, o + i, none⟩ = some (f i) := by
  obtain ⟨b, o, e, hc⟩ := h.at_ (by omega)
  have h0 := World.block_lt_of_cell? w _ (hc i hi)
  exact ⟨b, o, e, h0, fun wr hb => by rw [hb.cell h0]; exact hc i hi⟩
theorem alloc_cell {w : World} {b o : Nat} {v : Value} (ob : Obj) (h : w.cell? ⟨b, o, none⟩ = some v) : (w.alloc ob).cell? ⟨b, o, none⟩ = some v := by
  rw [← h]
  simp only [World.cell?]
  rw [Below.heap_alloc _ _ _ (World.block_lt_of_cell? w _ h)]
/-- The edges once more: backwards, each dependency to itself, and as they are. -/
def dep2 (m : Nat) (fa : Nat → ByteArray) : Nat → ByteArray := fun k => if k < m then fa (m - 1 - k) else if k < 2 * m then fa (k - m) else fa (k - 2 * m)
def dpt2 (m : Nat) (fa fb : Nat → ByteArray) : Nat → ByteArray := fun k => if k < m then fb (m - 1 - k) else if k < 2 * m then fa (k - m) else fb (k - 2 * m)
theorem dep2_a (m : Nat) (fa : Nat → ByteArray) {t : Nat} (h : t < m) : dep2 m fa t = fa (m - 1 - t) := by simp [dep2, h]
theorem dpt2_a (m : Nat) (fa fb : Nat → ByteArray) {t : Nat} (h : t < m) : dpt2 m fa fb t = fb (m - 1 - t) := by simp [dpt2, h]
theorem dep2_b (m : Nat) (fa : Nat → ByteArray) {k : Nat} (h : k < m) : dep2 m fa (m + k) = fa k := by
  rw [dep2, if_neg (by omega), if_pos (by omega), Nat.add_sub_cancel_left]
theorem dpt2_b (m : Nat) (fa fb : Nat → ByteArray) {k : Nat} (h : k < m) : dpt2 m fa fb (m + k) = fa k := by
  rw [dpt2, if_neg (by omega), if_pos (by omega), Nat.add_sub_cancel_left]
theorem dep2_c (m : Nat) (fa : Nat → ByteArray) (k : Nat) : dep2 m fa (2 * m + k) = fa k := by
  rw [dep2, if_neg (by omega), if_neg (by omega), Nat.add_sub_cancel_left]
theorem dpt2_c (m : Nat) (fa fb : Nat → ByteArray) (k : Nat) : dpt2 m fa fb (2 * m + k) = fb k := by
  rw [dpt2, if_neg (by omega), if_neg (by omega), Nat.add_sub_cancel_left]
theorem ev_next {w : World} {B C t : Nat} {d p : Nat → ByteArray} {a c : ByteArray} {o : Obj} (h : Arr w B 31 (C * 2) (ev (upto t d) (upto t p))) (h1 : d t = a) (h2 : p t = c) : Arr (((w.alloc o).setCell ⟨B, t * 2, none⟩ (.string a)).setCell ⟨B, t * 2 + 1, none⟩ (.string c)).drew B 31 (C * 2) (ev (upto (t + 1) d) (upto (t + 1) p)) := by
  rw [← ev_put, h1, h2]
  exact (((h.alloc o).set (t * 2) (.string a)).set (t * 2 + 1) (.string c)).drew
theorem below_next (w : World) (B t : Nat) (a c : Value) (o : Obj) (hB : B ≤ w.heap.size) : Below B w (((w.alloc o).setCell ⟨B, t * 2, none⟩ a).setCell ⟨B, t * 2 + 1, none⟩ c).drew :=
  (((Only.alloc w o (fun y => y = B)).trans (put2_only (w.alloc o) B t a c)).trans (Only.drewN _ 1 _)).below hB (fun y hy => by omega)
theorem Try.size4 : (Try.prog.info? 4).map (·.size) = some 1 := by kernel_rfl
theorem again1 {m : Nat} {fa fb : Nat → ByteArray} (k : Nat) (h : k < m) : ∃ k', k' < 3 * m ∧ dep2 m fa k' = fa k ∧ dpt2 m fa fb k' = fb k := ⟨2 * m + k, by omega, dep2_c _ _ _, dpt2_c _ _ _ _⟩
theorem again2 {m : Nat} {fa fb : Nat → ByteArray} (k' : Nat) (h : k' < 3 * m) : (∃ k, k < m ∧ fa k = dep2 m fa k' ∧ fb k = dpt2 m fa fb k') ∨ (dep2 m fa k' = dpt2 m fa fb k' ∧ ∃ k, k < m ∧ fa k = dep2 m fa k') := by
  by_cases h1 : k' < m
  · exact Or.inl ⟨m - 1 - k', by omega, (dep2_a _ _ h1).symm, (dpt2_a _ _ _ h1).symm⟩
  · by_cases h2 : k' < 2 * m
    · obtain ⟨k, rfl⟩ : ∃ k, k' = m + k := ⟨k' - m, by omega⟩
      have hk : k < m := by omega
      rw [dep2_b _ _ hk, dpt2_b _ _ _ hk]
      exact Or.inr ⟨rfl, k, hk, rfl⟩
    · obtain ⟨k, rfl⟩ : ∃ k, k' = 2 * m + k := ⟨k' - 2 * m, by omega⟩
      rw [dep2_c, dpt2_c]
      exact Or.inl ⟨k, by omega, rfl, rfl⟩
theorem again_size {m B : Nat} {fa fb : Nat → ByteArray} (h : ∀ k, k < m → (fa k).size ≤ B ∧ (fb k).size ≤ B) (k' : Nat) (hk : k' < 3 * m) : (dep2 m fa k').size ≤ B ∧ (dpt2 m fa fb k').size ≤ B := by
  rcases again2 (fa := fa) (fb := fb) k' hk with ⟨k, h1, h2, h3⟩ | ⟨h1, k, h2, h3⟩
  · rw [← h2, ← h3]; exact h k h1
  · rw [← h1, ← h3]; exact ⟨(h k h2).1, (h k h2).1⟩
theorem again_cov {m : Nat} {fa fb : Nat → ByteArray} (s : ByteArray) : (∃ k, k < 3 * m ∧ (dep2 m fa k = s ∨ dpt2 m fa fb k = s)) ↔ ∃ k, k < m ∧ (fa k = s ∨ fb k = s) := by
  constructor
  · rintro ⟨k', hk, e⟩
    rcases again2 (fa := fa) (fb := fb) k' hk with ⟨k, h1, h2, h3⟩ | ⟨h1, k, h2, h3⟩
    · exact ⟨k, h1, by rw [h2, h3]; exact e⟩
    · refine ⟨k, h2, Or.inl ?_⟩
      rcases e with e | e
      · rw [h3]; exact e
      · rw [h3, h1]; exact e
  · rintro ⟨k, hk, e⟩
    obtain ⟨k', h1, h2, h3⟩ := again1 (fa := fa) (fb := fb) k hk
    exact ⟨k', h1, by rw [h2, h3]; exact e⟩
theorem Names.made' {m M n : Nat} {fa fb da db f : Nat → ByteArray} (h : Names m m fa fb n f) (hc : ∀ s, (∃ k, k < M ∧ (da k = s ∨ db k = s)) ↔ ∃ k, k < m ∧ (fa k = s ∨ fb k = s)) {n' : Nat} {N' : Nat → ByteArray} {D' : Nat → List Nat} (hm : Made M da db n' N' D') : n' = n ∧ ∀ i, i < n' → N' i = f i := by
  refine Rises.unique hm.1 h.rises (fun i hi => ?_) (fun j hj => ?_)
  · obtain ⟨k, hk, e⟩ := (hc _).1 ((hm.covers (N' i)).1 ⟨i, hi, rfl⟩)
    rcases e with e | e
    · obtain ⟨j, hj, e'⟩ := h.toa k hk
      exact ⟨j, hj, e'.trans e⟩
    · obtain ⟨j, hj, e'⟩ := h.tob k hk
      exact ⟨j, hj, e'.trans e⟩
  · refine (hm.covers (f j)).2 ((hc _).2 ?_)
    rcases h.from_ j hj with ⟨k, hk, e⟩ | ⟨k, hk, e⟩
    · exact ⟨k, hk, Or.inl e.symm⟩
    · exact ⟨k, hk, Or.inr e.symm⟩
/-- The two answers: the same groups. -/
theorem two {w : World} {B B' m n n1 n2 G1 G2 : Nat} {fa fb f N1 N2 : Nat → ByteArray} {D1 D2 : Nat → List Nat} {g1 g2 : Nat → Nat} {kp : Nat → Bool} {v1 v2 : Value} (hN : Names m m fa fb n f)
    (a1 : Made m fa fb n1 N1 D1) (a2 : Gr n1 D1 g1 G1) (a3 : ∀ u x, x ∈ D1 u → x < n1) (a5 : Out w B v1 N1 (memb g1 n1) (order D1 g1 kp n1 G1) none)
    (b1 : Made (3 * m) (dep2 m fa) (dpt2 m fa fb) n2 N2 D2) (b2 : Gr n2 D2 g2 G2) (b5 : Out w B' v2 N2 (memb g2 n2) (order D2 g2 kp n2 G2) none) :
    ∃ ao1 c1 ao2 c2 ln M, v1 = .slice ao1 ln c1 ∧ v2 = .slice ao2 ln c2 ∧ Gv w ao1 ln M f B ∧ Gv w ao2 ln M f B' ∧ Parts n ln M ∧ (∀ i, (M i).length ≤ n) ∧ ln ≤ n ∧ ((∀ v, v < n → kp v = true) → ∀ x, x < n → ∃ i, i < ln ∧ x ∈ M i) := by
  obtain ⟨en, eN, eG, eg, eo⟩ := glue (kp := kp) a1 b1 a2 b2 (fun k hk => again1 k hk) (fun k hk => again2 k hk)
  obtain ⟨e1, f1⟩ := hN.made' (fun s => Iff.rfl) a1
  obtain ⟨ao1, c1, h1, V1⟩ := a5.view (f := f) (fun i hi x hx => f1 x (mem_memb.1 hx).1)
  rw [← eo, ← eg, ← en] at b5
  obtain ⟨ao2, c2, h2, V2⟩ := b5.view (f := f) (fun i hi x hx => by
    have hx' := (mem_memb.1 hx).1
    rw [← eN x hx', f1 x hx'])
  subst e1
  exact ⟨ao1, c1, ao2, c2, _, _, h1, h2, V1, V2, Parts.of a2 a3, fun i => memb_atmost _ _ _, order_len a2, fun hk x hx => Parts.all a2 a3 hk x hx⟩
theorem find_hit (w : World) (g n c : Nat) (f : Nat → ByteArray) (x : Nat) (hx : x < n) (hn : n ≤ 1000000) (hf : ∀ i, i < n → w.cell? ⟨g, i, none⟩ = some (.string (f i))) (hr : Rises n f) :
    Calls Try.prog 9 #[.slice (some ⟨g, 0, none⟩) n c, .string (f x)] w fun e w' => e = .returned (.int .i64 (x : Nat)) ∧ w' = w := by
  refine (find_row w g n c f (f x) hn hf hr).mono ?_
  rintro e w' ⟨rfl, ⟨i, hi, e1, e2⟩ | ⟨h, _⟩⟩
  · rw [hr.inj hi hx e1] at e2
    exact ⟨e2, rfl⟩
  · exact absurd rfl (h x hx)

/-! ### The arguments -/
section
open Go.ChangeShapes Go.WideShapes Go.ChangeAt
theorem Try.cells9 : Try.prog.cellsOf 9 = 1 := by kernel_rfl
theorem Try.cells4 : Try.prog.cellsOf 4 = 1 := by kernel_rfl
theorem sarg_strings {H : Type} {enc : TypeId × Value → H} {W : World} {ao : Option Addr} {l c : Nat} {d : DataW H} {ps : List MemPlace} (h : DataW.Trod enc Try.prog W 0 (fun _ => true) true 22 (.slice ao l c) d ps) :
    ∃ f : Nat → ByteArray, SArg W ao l c (sv f) ∧ ∀ k, k < l → (f k).size ≤ maxLen := by
  obtain ⟨fuel, hd⟩ := h
  rcases open_strings Try.underlying22 Try.underlying9 Try.cells9 (cs := [.slice ao l c]) (by simpa [Value.cells] using hd) with ⟨e, _⟩ | ⟨a, len, cap, ss, e, _, hl, _, hlen, _, hcell, hsz⟩
  · simp only [List.cons.injEq, Value.slice.injEq, and_true] at e
    obtain ⟨rfl, rfl, rfl⟩ := e
    exact ⟨fun _ => ByteArray.empty, ⟨fun _ => ⟨rfl, rfl⟩, fun ad h => by cases h⟩, fun k hk => by omega⟩
  · simp only [List.cons.injEq, Value.slice.injEq, and_true] at e
    obtain ⟨rfl, rfl, rfl⟩ := e
    simp only [if_true] at hlen
    refine ⟨fun i => ss.getD i ByteArray.empty, ⟨(fun h => by cases h), fun ad h i hi => ?_⟩, fun k hk => hsz _ ?_⟩
    · cases h
      exact hcell i (by omega)
    · show ss.getD k ByteArray.empty ∈ ss
      rw [List.getD_eq_getElem?_getD, List.getElem?_eq_getElem (by omega), Option.getD_some]
      exact List.getElem_mem _
theorem sarg_bools {H : Type} {enc : TypeId × Value → H} {W : World} {ao : Option Addr} {l c : Nat} {d : DataW H} {ps : List MemPlace} (h : DataW.Trod enc Try.prog W 0 (fun _ => true) true 23 (.slice ao l c) d ps) :
    ∃ f : Nat → Bool, SArg W ao l c (bv f) := by
  obtain ⟨fuel, hd⟩ := h
  rcases Go.Deep.open_bools Try.underlying23 Try.underlying4 Try.cells4 (cs := [.slice ao l c]) (by simpa [Value.cells] using hd) with ⟨e, _⟩ | ⟨a, len, cap, B, e, _, hl, _, _, hcell⟩
  · simp only [List.cons.injEq, Value.slice.injEq, and_true] at e
    obtain ⟨rfl, rfl, rfl⟩ := e
    exact ⟨fun _ => false, ⟨fun _ => ⟨rfl, rfl⟩, fun ad h => by cases h⟩⟩
  · simp only [List.cons.injEq, Value.slice.injEq, and_true] at e
    obtain ⟨rfl, rfl, rfl⟩ := e
    refine ⟨B, ⟨(fun h => by cases h), fun ad h i hi => ?_⟩⟩
    cases h
    exact hcell i (by omega)
end
end Go.Proofs.Qxb6616383a
