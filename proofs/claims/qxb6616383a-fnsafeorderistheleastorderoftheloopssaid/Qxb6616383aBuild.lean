/-
  The walk of build: the tables of a graph from its edges.
-/
import Derived.Test.Qxb6616383aNumber
import Derived.Test.Qxb6616383aCmp
import Derived.Deep.OwnRows
import Derived.Deep.RegionHeld3
import Derived.Test.Qxb6616383aTables
namespace Go.Proofs.Qxb6616383a
open Go.RowKit
open Plain
def ev (dep dpt : Nat → ByteArray) : Nat → Value := fun i => .string (if i % 2 = 0 then dep (i / 2) else dpt (i / 2))
theorem ev_even (dep dpt : Nat → ByteArray) (k : Nat) : ev dep dpt (k * 2) = .string (dep k) := by simp [ev]
theorem ev_odd (dep dpt : Nat → ByteArray) (k : Nat) : ev dep dpt (k * 2 + 1) = .string (dpt k) := by
  have h1 : (k * 2 + 1) / 2 = k := by omega
  have h2 : (k * 2 + 1) % 2 = 1 := by omega
  simp [ev, h1, h2]
theorem run_mk_map (m : Nat) (w : World) : (Instr.makeMap 53 (some (.int .i64 (m : Nat)))).run Try.prog w = .ok (.map (some w.heap.size)) (w.alloc (.map #[] 0)) := by
  simp [Instr.makeMap, asInt, asIntOf, run_underlying Try.underlying53, Result.andThen]
theorem Try.info82 : (Try.prog.info? 82).map (fun i => (i.zero, i.size, i.bytes)) = some (some (.agg #[.int .i64 0, .int .i64 0]), 2, 16) := by kernel_rfl
theorem made_pairs (w : World) (n : Nat) : Arr (w.alloc (.cells (madeCells #[.int .i64 0, .int .i64 0] (n * 2)) 82)) w.heap.size 82 (n * 2) (pv (fun _ _ => 0)) := by
  unfold Arr
  rw [heap_alloc_last]
  congr 2
  apply Array.ext'
  simp only [madeCells, Array.toList_map, Array.toList_range]
  apply List.map_congr_left
  intro i _
  rcases Nat.mod_two_eq_zero_or_one i with h | h <;> simp [pv, h]
theorem run_make_pairs (n : Nat) (hn : n ≤ 100000) (w : World) : (Instr.makeSlice 81 (.int .i64 (n : Int)) (.int .i64 (n : Int))).run Try.prog w = .ok (.slice (some ⟨w.heap.size, 0, none⟩) n n) (w.alloc (.cells (madeCells #[.int .i64 0, .int .i64 0] (n * 2)) 82)) := by
  obtain ⟨i, hi, hz, hs, hb⟩ := info_parts Try.info82
  have hb' : (i.bytes : Int) * (n : Int) ≤ 281474976710656 := by rw [hb]; omega
  have hr := run_make (P := Try.prog) w 81 82 i _ Try.underlying81 hi hz .i64 .i64 n n (by omega) (Int.le_refl _) hb' (by omega)
  simp only [Int.toNat_natCast, hs] at hr
  exact hr
theorem NumAt.only {S : Nat → Prop} {w w' : World} {b G1 mb N1 : Nat} {F : Nat → Value} {v : Value} {m : Nat} {f : Nat → ByteArray} (h : NumAt w b G1 mb N1 F v m f) (ho : Only S w w') (h1 : ¬ S G1) (h2 : ¬ S b) (h3 : ¬ S N1) (h4 : ¬ S mb) (h5 : ∀ k, v.ownBlock = some k → ¬ S k) : NumAt w' b G1 mb N1 F v m f :=
  ⟨h.box1.only ho h1, h.gr.only ho h2, h.ix, h.box2.only ho h3, h.own.only ho h5, h.tab.only ho h4, h.keys, h.lt1, h.lt2, h.lt3⟩
theorem pv_put (P : Nat → Nat → Nat) (k a c : Nat) : upd (upd (pv P) (k * 2) (.int .i64 (a : Nat))) (k * 2 + 1) (.int .i64 (c : Nat)) = pv (upd2 P k a c) := by
  funext i
  simp only [upd, pv, upd2]
  by_cases h1 : i = k * 2 + 1
  · rw [if_pos h1, if_pos (by omega), if_neg (by omega)]
  · rw [if_neg h1]
    by_cases h2 : i = k * 2
    · rw [if_pos h2, if_pos (by omega), if_pos (by omega)]
    · rw [if_neg h2, if_neg (by omega)]
theorem Only.put1' (S : Nat → Prop) (w : World) (b o : Nat) (v : Value) (h : S b) : Only S w (w.setCell ⟨b, o, none⟩ v) := (Only.setCell w ⟨b, o, none⟩ v).weak (fun i e => by
  have e' : i = b := e
  rw [e']; exact h)
theorem made_at' (w : World) (t n : Nat) (z : Value) : Arr (w.alloc (.cells (madeCells #[z] n) t)) w.heap.size t n (fun _ => z) := by
  unfold Arr
  rw [heap_alloc_last]
  congr 2
  apply Array.ext'
  simp only [madeCells, Array.toList_map, Array.toList_range]
  apply List.ext_getElem
  · simp
  · intro i h1 h2
    simp [Nat.mod_one]
theorem toCome_nil (n : Nat) : n = toCome n #[] := by
  unfold toCome
  rw [List.filter_eq_self.2 (fun a _ => by simp)]
  simp
theorem Tab.empty (w : World) (f : Nat → ByteArray) (v : Nat → Nat) : Tab (w.alloc (.map #[] 0)) w.heap.size 0 f v := heap_alloc_last w _
set_option maxRecDepth 100000 in
set_option maxHeartbeats 4000000 in
theorem build_any (w : World) (b EB m : Nat) (F : Nat → Value) (dep dpt : Nat → ByteArray) (hb : Arr w b 56 14 F) (h0 : F 0 = .slice (some ⟨EB, 0, none⟩) m m) (hE : Arr w EB 31 (m * 2) (ev dep dpt)) (hm : m ≤ 20000) (hs : ∀ k, k < m → (dep k).size ≤ maxLen ∧ (dpt k).size ≤ maxLen) (hEb : EB ≠ b)
    (h33 : ∀ (w : World) (b NB n LD AD : Nat) (F : Nat → Value) (D : Nat → List Nat), Arr w b 56 14 F → F 4 = .slice (some ⟨NB, 0, none⟩) n n → F 6 = .slice (some ⟨LD, 0, none⟩) n n → Lists w LD AD n D → (∀ u x, x ∈ D u → x < n) → (∀ u, (D u).length ≤ 100000) → n ≤ 100000 → b < LD → b < AD → Calls Try.prog 33 #[.pointer (some ⟨b, 0, none⟩)] w fun e w' => e = .returned (.tuple #[]) ∧ ∃ grp G GA LM AM, Arr w' b 56 14 (upd (upd F 8 (.slice (some ⟨GA, 0, none⟩) n n)) 9 (.slice (some ⟨LM, 0, none⟩) G G)) ∧ Arr w' GA 3 n (nv grp) ∧ Lists w' LM AM G (memb grp n) ∧ Gr n D grp G ∧ Only (fun k => k = b) w w' ∧ w.heap.size ≤ GA ∧ w.heap.size ≤ LM ∧ w.heap.size ≤ AM) :
    Calls Try.prog 23 #[.pointer (some ⟨b, 0, none⟩)] w fun e w' => e = .returned (.tuple #[]) ∧ ∃ F' n G N D grp NB LD AD GB LM AM, Tables w' w'.heap.size b F' n G N D grp NB LD AD GB LM AM ∧ (∀ i, i < 4 → F' i = F i) ∧ Gr n D grp G ∧ Rises n N ∧ (∀ i, i < n → ∃ k, k < m ∧ (N i = dep k ∨ N i = dpt k)) ∧ (∃ x y : Nat → Nat, (∀ k, k < m → x k < n ∧ N (x k) = dep k ∧ y k < n ∧ N (y k) = dpt k) ∧ D = nbr n x y m) ∧ n ≤ 100000 ∧ Only (fun k => k = b) w w' := by
  have HB : Hid (Arr w b 56 14 F) := hb
  have HE : Hid (Arr w EB 31 (m * 2) (ev dep dpt)) := hE
  have HS : Hid (∀ k, k < m → (dep k).size ≤ maxLen ∧ (dpt k).size ≤ maxLen) := hs
  clear hb hE hs
  go_enter Try.func23, Try.ntmps23
  go_upto_region 1 with fail
  obtain ⟨w1, hw1⟩ : ∃ w1 : World, w1 = w.alloc (.cells #[.pointer (some ⟨b, 0, none⟩)] 40) := ⟨_, rfl⟩
  rw [← hw1]
  obtain ⟨G1, hG1⟩ : ∃ G1, G1 = w.heap.size := ⟨_, rfl⟩
  rw [← hG1]
  have B1 : Hid (Arr w1 G1 40 1 (fun _ => .pointer (some ⟨b, 0, none⟩))) := by rw [hw1, hG1]; exact Arr.one _ _ _
  have A1 : Hid (Arr w1 b 56 14 F) := by rw [hw1]; exact HB.out.alloc _
  have E1 : Hid (Arr w1 EB 31 (m * 2) (ev dep dpt)) := by rw [hw1]; exact HE.out.alloc _
  have O1 : Hid (Only (fun k => k = b) w w1) := by rw [hw1]; exact Only.alloc _ _ _
  have hbG : b < G1 := by rw [hG1]; exact HB.out.lt
  have hEG : EB < G1 := by rw [hG1]; exact HE.out.lt
  have HG1 : Hid (G1 = w.heap.size) := hG1
  clear hw1 hG1
  have c1 := B1.out.cell (i := 0) (by omega)
  have c0 := A1.out.cell (i := 0) (by omega)
  rw [h0] at c0
  have c5 := A1.out.cell (i := 5) (by omega)
  have f5 := A1.out.free 5
  go_upto_region 2 with fail
  have c5a := (A1.out.alloc (.map #[] 0)).cell (i := 5) (by omega)
  have f5a := (A1.out.alloc (.map #[] 0)).free 5
  have c1a := (B1.out.alloc (.map #[] 0)).cell (i := 0) (by omega)
  have hmm := run_mk_map m
  go_region
  generalize hw2 : World.drew _ = w2
  obtain ⟨mb, hmb⟩ : ∃ mb, mb = w1.heap.size := ⟨_, rfl⟩
  rw [← hmb] at hw2 ⊢
  have A2 : Hid (Arr w2 b 56 14 (upd F 5 (.map (some mb)))) := by rw [← hw2]; exact ((A1.out.alloc _).set 5 _).drew
  have B2 : Hid (Arr w2 G1 40 1 (fun _ => .pointer (some ⟨b, 0, none⟩))) := by rw [← hw2]; exact ((B1.out.alloc _).other (a := ⟨b, 5, none⟩) (by simp only; omega) _).drew
  have E2 : Hid (Arr w2 EB 31 (m * 2) (ev dep dpt)) := by rw [← hw2]; exact ((E1.out.alloc _).other (a := ⟨b, 5, none⟩) hEb _).drew
  have hGm : G1 < mb := by rw [hmb]; exact B1.out.lt
  have T2 : Hid (Tab w2 mb 0 (fun _ => ⟨#[]⟩) (fun i => i)) := by
    have h1 : Tab (w1.alloc (.map #[] 0)) mb 0 (fun _ => ⟨#[]⟩) (fun i => i) := by rw [hmb]; exact Tab.empty _ _ _
    have h2 : Tab ((w1.alloc (.map #[] 0)).setCell ⟨b, 5, none⟩ (.map (some mb))) mb 0 (fun _ => ⟨#[]⟩) (fun i => i) := h1.only (Only.setCell _ _ _) (by simp only; omega)
    rw [← hw2]; exact h2
  have O2 : Hid (Only (fun k => k = b) w w2) := by
    rw [← hw2]
    exact ((O1.out.trans (Only.alloc w1 _ _)).trans ((Only.setCell _ _ _).weak (fun i h => h))).trans (Only.drewN _ 1 _)
  clear hw2 hmb c1 c0 c5 f5 c5a f5a c1a hmm A1 B1 E1 O1
  go_wp2_with fail
  go_upto_region 4 with fail
  obtain ⟨w3, hw3⟩ : ∃ w3 : World, w3 = w2.alloc (.cells #[.slice none 0 0] 22) := ⟨_, rfl⟩
  rw [← hw3]
  obtain ⟨N1, hN1⟩ : ∃ N1, N1 = w2.heap.size := ⟨_, rfl⟩
  rw [← hN1]
  have NA3 : Hid (NumAt w3 b G1 mb N1 (upd F 5 (.map (some mb))) (.slice none 0 0) 0 (fun _ => ⟨#[]⟩)) := by
    rw [hw3, hN1]
    exact ⟨B2.out.alloc _, A2.out.alloc _, upd_same _ _ _, Arr.one _ _ _, Own.nil _ _ _ _, T2.out.only (Only.alloc _ _ (fun _ => False)) id, ⟨fun i j hi => by omega, fun i hi => by omega⟩, hbG, hGm, T2.out.lt⟩
  have E3 : Hid (Arr w3 EB 31 (m * 2) (ev dep dpt)) := by rw [hw3]; exact E2.out.alloc _
  have O3 : Hid (Only (fun k => k = b) w w3) := by rw [hw3]; exact O2.out.trans (Only.alloc _ _ _)
  have hmN : mb < N1 := by rw [hN1]; exact T2.out.lt
  clear hw3 hN1 A2 B2 E2 T2 O2
  have hmf : ∀ (fn : Fn) (first cap : Array Value) (w : World), (Instr.makeFunc fn first cap).run Try.prog w = .ok (.func fn first cap) w := fun _ _ _ _ => rfl
  have hmp := run_make_pairs m (by omega) w3
  go_upto_region 6 with fail
  rw [hmp]
  go_upto_region 6 with fail
  obtain ⟨w4, hw4⟩ : ∃ w4 : World, w4 = w3.alloc (.cells (madeCells #[.int .i64 0, .int .i64 0] (m * 2)) 82) := ⟨_, rfl⟩
  rw [← hw4]
  obtain ⟨E, hEE⟩ : ∃ E, E = w3.heap.size := ⟨_, rfl⟩
  rw [← hEE]
  have P4 : Hid (Arr w4 E 82 (m * 2) (pv (fun _ _ => 0))) := by rw [hw4, hEE]; exact made_pairs _ _
  have NA4 : Hid (NumAt w4 b G1 mb N1 (upd F 5 (.map (some mb))) (.slice none 0 0) 0 (fun _ => ⟨#[]⟩)) := by
    have h := NA3.out
    rw [hw4]
    exact ⟨h.box1.alloc _, h.gr.alloc _, h.ix, h.box2.alloc _, h.own.alloc _, h.tab.only (Only.alloc _ _ (fun _ => False)) id, h.keys, h.lt1, h.lt2, h.lt3⟩
  have E4 : Hid (Arr w4 EB 31 (m * 2) (ev dep dpt)) := by rw [hw4]; exact E3.out.alloc _
  have O4 : Hid (Only (fun k => k = b) w w4) := by rw [hw4]; exact O3.out.trans (Only.alloc _ _ _)
  have hNE : N1 < E := by rw [hEE]; exact NA3.out.box2.lt
  clear hw4 hEE NA3 E3 O3 hmp
  go_wp2_with fail
  go_loopg [33] m (fun z c33 wr => ∃ (k m' : Nat) (f : Nat → ByteArray) (v : Value) (P : Nat → Nat → Nat), z = m - k ∧ k ≤ m ∧ c33 = .int .i64 k ∧ m' ≤ 2 * k ∧ Hid (NumAt wr b G1 mb N1 (upd F 5 (.map (some mb))) v m' f) ∧ Hid (Arr wr E 82 (m * 2) (pv P)) ∧ Hid (∀ j, j < k → P j 0 < m' ∧ f (P j 0) = dep j ∧ P j 1 < m' ∧ f (P j 1) = dpt j) ∧ Hid (∀ i, i < m' → ∃ j, j < k ∧ (f i = dep j ∨ f i = dpt j)) ∧ Hid (∀ x, v.ownBlock = some x → x ≠ E) ∧ Hid (Only (fun k => k = b) w wr))
  case atStart => exact ⟨0, 0, _, _, _, by omega, by omega, rfl, by omega, NA4, P4, fun j hj => by omega, fun i hi => by omega, fun x hx => (by cases hx), O4⟩
  case round =>
    obtain ⟨k, m', f, v, P, rfl, hk, rfl, hm', hN, hP, hEnd, hNam, hAp, hO⟩ := hrel
    by_cases hkm : k < m
    · have HEr : Hid (Arr wr EB 31 (m * 2) (ev dep dpt)) := HE.out.only hO.out hEb
      have e0 := HEr.out.cell (i := k * 2) (by omega)
      have e1 := HEr.out.cell (i := k * 2 + 1) (by omega)
      rw [ev_even] at e0
      rw [ev_odd] at e1
      go_upto_region 9 with fail
      obtain ⟨w5, hw5⟩ : ∃ w5 : World, w5 = wr.alloc (.cells #[.string (dep k), .string (dpt k)] 31) := ⟨_, rfl⟩
      rw [← hw5]
      obtain ⟨X, hX⟩ : ∃ X, X = wr.heap.size := ⟨_, rfl⟩
      rw [← hX]
      have x0 : w5.drew.cell? ⟨X, 0, none⟩ = some (.string (dep k)) := by rw [hw5, hX]; exact (Arr.two _ _ _ _).1
      have x1 : w5.drew.cell? ⟨X, 1, none⟩ = some (.string (dpt k)) := by rw [hw5, hX]; exact (Arr.two _ _ _ _).2
      have O5 : Hid (Only (fun _ => False) wr w5.drew) := by rw [hw5]; exact (Only.alloc wr _ _).trans (Only.drewN _ 1 _)
      have hvl : ∀ y, v.ownBlock = some y → N1 < y ∧ y < X := fun y hy => by have := hN.out.own.lt y hy; omega
      have HVL : Hid (∀ y, v.ownBlock = some y → N1 < y ∧ y < X) := hvl
      have N5 : Hid (NumAt w5.drew b G1 mb N1 (upd F 5 (.map (some mb))) v m' f) := hN.out.only O5.out id id id id (fun _ _ => id)
      have P5 : Hid (Arr w5.drew E 82 (m * 2) (pv P)) := hP.out.only O5.out id
      have hXb : N1 < X ∧ E < X := ⟨by rw [hX]; exact hN.out.box2.lt, by rw [hX]; exact hP.out.lt⟩
      have hs5 : X < w5.heap.size := by rw [hw5, hX]; simp
      clear hw5 hX hvl
      have hsk := HS.out k hkm
      go_region_held3 (fun w' => w'.cell? ⟨X, 0, none⟩ = some (.string (dep k)) ∧ w'.cell? ⟨X, 1, none⟩ = some (.string (dpt k))) (first
        | exact ⟨x0, x1⟩
        | exact ⟨y0, y1⟩
        | exact ⟨z0, z1⟩
        | exact ⟨q0, q1⟩) (first
        | (
          go_at_call 28
          refine (number_any w6 b G1 mb N1 m1 _ v1 f1 (dpt k) hsk.2 (by omega) A1.out).mono ?_
          rintro e w7 ⟨i2, m2, f2, v2, rfl, b1, b2, b3, b4, b5, b6, b7, b8, b9⟩
          have B1 : Hid (NumAt w7 b G1 mb N1 (upd F 5 (.map (some mb))) v2 m2 f2) := b1
          have B2 : Hid (i2 < m2 ∧ f2 i2 = dpt k ∧ m1 ≤ m2 ∧ m2 ≤ m1 + 1 ∧ (∀ j, j < m1 → f2 j = f1 j) ∧ (∀ j, j < m2 → j < m1 ∨ f2 j = dpt k)) := ⟨b2, b3, b4, b5, b6, b7⟩
          have B8 : Hid (Only (fun y => y = N1 ∨ y = mb ∨ v1.ownBlock = some y) w6 w7) := b8
          have B9 : Hid (Moved w6 v1 v2) := b9
          have P7 : Hid (Arr w7 E 82 (m * 2) (pv P)) := P6.out.only b8 (by
            rintro (h | h | h)
            · omega
            · omega
            · exact HE1.out _ h rfl)
          have z0 : w7.cell? ⟨X, 0, none⟩ = some (.string (dep k)) := by
            rw [← y0]
            simp only [World.cell?]
            rw [b8.block X hs6.out (by
              rintro (h | h | h)
              · omega
              · omega
              · exact HX1.out _ h rfl)]
          have z1 : w7.cell? ⟨X, 1, none⟩ = some (.string (dpt k)) := by
            rw [← y1]
            simp only [World.cell?]
            rw [b8.block X hs6.out (by
              rintro (h | h | h)
              · omega
              · omega
              · exact HX1.out _ h rfl)]
          have OQ : Hid (Only (fun y => y = E) w7 ((w7.setCell ⟨E, k * 2, none⟩ (.int .i64 (i1 : Nat))).setCell ⟨E, k * 2 + 1, none⟩ (.int .i64 (i2 : Nat)))) := (Only.put1' (fun y => y = E) w7 E (k * 2) _ rfl).trans (Only.put1' _ _ E (k * 2 + 1) _ rfl)
          have q0 : ((w7.setCell ⟨E, k * 2, none⟩ (.int .i64 (i1 : Nat))).setCell ⟨E, k * 2 + 1, none⟩ (.int .i64 (i2 : Nat))).cell? ⟨X, 0, none⟩ = some (.string (dep k)) := by
            rw [← z0]
            simp only [World.cell?]
            rw [OQ.out.block X (Nat.lt_of_lt_of_le hs6.out b8.size) (by omega)]
          have q1 : ((w7.setCell ⟨E, k * 2, none⟩ (.int .i64 (i1 : Nat))).setCell ⟨E, k * 2 + 1, none⟩ (.int .i64 (i2 : Nat))).cell? ⟨X, 1, none⟩ = some (.string (dpt k)) := by
            rw [← z1]
            simp only [World.cell?]
            rw [OQ.out.block X (Nat.lt_of_lt_of_le hs6.out b8.size) (by omega)]
          have g0 := P7.out.cell (i := k * 2) (by omega)
          have g1 := P7.out.cell (i := k * 2 + 1) (by omega)
          have fg := fun i => P7.out.free i
          clear b1 b2 b3 b4 b5 b6 b7 b8 b9)
        | (
          go_at_call 28
          refine (number_any w5.drew b G1 mb N1 m' _ v f (dep k) hsk.1 (by omega) N5.out).mono ?_
          rintro e w6 ⟨i1, m1, f1, v1, rfl, a1, a2, a3, a4, a5, a6, a7, a8, a9⟩
          have A1 : Hid (NumAt w6 b G1 mb N1 (upd F 5 (.map (some mb))) v1 m1 f1) := a1
          have A2 : Hid (i1 < m1 ∧ f1 i1 = dep k ∧ m' ≤ m1 ∧ m1 ≤ m' + 1 ∧ (∀ j, j < m' → f1 j = f j) ∧ (∀ j, j < m1 → j < m' ∨ f1 j = dep k)) := ⟨a2, a3, a4, a5, a6, a7⟩
          have hm1 : m1 ≤ m' + 1 := a5
          have A8 : Hid (Only (fun y => y = N1 ∨ y = mb ∨ v.ownBlock = some y) w5.drew w6) := a8
          have A9 : Hid (Moved w5.drew v v1) := a9
          have P6 : Hid (Arr w6 E 82 (m * 2) (pv P)) := P5.out.only a8 (by
            rintro (h | h | h)
            · omega
            · omega
            · exact hAp.out _ h rfl)
          have hs6 : Hid (X < w6.heap.size) := Nat.lt_of_lt_of_le hs5 a8.size
          have HX1 : Hid (∀ y, v1.ownBlock = some y → y ≠ X) := fun y hy e => by
            rcases a9 with h | h
            · have := HVL.out y (by rw [← h]; exact hy); omega
            · have := h y hy
              have h5 : w5.drew.heap.size = w5.heap.size := rfl
              omega
          have HE1 : Hid (∀ y, v1.ownBlock = some y → y ≠ E) := fun y hy e => by
            rcases a9 with h | h
            · exact hAp.out y (by rw [← h]; exact hy) e
            · have := h y hy
              have h5 : w5.drew.heap.size = w5.heap.size := rfl
              omega
          have y0 : w6.cell? ⟨X, 0, none⟩ = some (.string (dep k)) := by
            rw [← x0]
            simp only [World.cell?]
            rw [a8.block X hs5 (by
              rintro (h | h | h)
              · omega
              · omega
              · have := HVL.out _ h; omega)]
          have y1 : w6.cell? ⟨X, 1, none⟩ = some (.string (dpt k)) := by
            rw [← x1]
            simp only [World.cell?]
            rw [a8.block X hs5 (by
              rintro (h | h | h)
              · omega
              · omega
              · have := HVL.out _ h; omega)]
          clear a1 a2 a3 a4 a5 a6 a7 a8 a9))
      generalize hw8 : World.setCell _ _ _ = w8
      have P8 : Hid (Arr w8 E 82 (m * 2) (pv (upd2 P k i1 i2))) := by
        have := (P7.out.set (k * 2) (.int .i64 (i1 : Nat))).set (k * 2 + 1) (.int .i64 (i2 : Nat))
        rw [pv_put] at this
        rw [← hw8]; exact this
      have O8 : Hid (Only (fun y => y = E) w7 w8) := by rw [← hw8]; exact OQ.out
      clear hw8 x0 x1 y0 y1 z0 z1 q0 q1 g0 g1 fg OQ
      go_wp2_with fail
      go_roundg (m - (k + 1))
      case measure => omega
      case rel =>
        have HA2 := A2.out
        have HB2 := B2.out
        have hve : ∀ y, v2.ownBlock = some y → y ≠ E := fun y hy e => by
          rcases B9.out with h | h
          · exact HE1.out y (by rw [← h]; exact hy) e
          · have h6 := h y hy
            have := P6.out.lt
            omega
        refine ⟨k + 1, m2, f2, v2, upd2 P k i1 i2, rfl, by omega, by go_num, by omega, B1.out.only O8.out (by omega) (by omega) (by omega) (by omega) hve, P8, ?_, ?_, hve, ?_⟩
        · intro j hj
          simp only [upd2]
          by_cases e : j = k
          · rw [if_pos e, if_pos e, if_pos trivial, if_neg (by omega), e]
            refine ⟨by omega, ?_, HB2.1, HB2.2.1⟩
            rw [HB2.2.2.2.2.1 i1 HA2.1]; exact HA2.2.1
          · rw [if_neg e, if_neg e]
            obtain ⟨p1, p2, p3, p4⟩ := hEnd.out j (by omega)
            have hl : ∀ i, i < m' → f2 i = f i := fun i hi => by rw [HB2.2.2.2.2.1 i (by omega), HA2.2.2.2.2.1 i hi]
            refine ⟨by omega, by rw [hl _ p1]; exact p2, by omega, by rw [hl _ p3]; exact p4⟩
        · intro i hi
          rcases HB2.2.2.2.2.2 i hi with h | h
          · rcases HA2.2.2.2.2.2 i h with h3 | h3
            · obtain ⟨j, hj, h4⟩ := hNam.out i h3
              refine ⟨j, by omega, ?_⟩
              rw [HB2.2.2.2.2.1 i h, HA2.2.2.2.2.1 i h3]; exact h4
            · exact ⟨k, by omega, Or.inl (by rw [HB2.2.2.2.2.1 i h]; exact h3)⟩
          · exact ⟨k, by omega, Or.inr h⟩
        · have h6 := hO.out.size
          have h7 := HG1.out
          refine (((hO.out.trans (O5.out.weak (fun _ h => h.elim))).trans' A8.out (fun i hi h => ?_)).trans' B8.out (fun i hi h => ?_)).trans' O8.out (fun i hi h => ?_)
          · rcases h with h | h | h
            · omega
            · omega
            · have := HVL.out i h; omega
          · rcases h with h | h | h
            · omega
            · omega
            · have := (A1.out.own.lt i h).1; omega
          · omega
    · obtain rfl : m = k := by omega
      obtain ⟨vo, vc, rfl⟩ := hN.out.own.shape
      obtain ⟨n, hne⟩ : ∃ n, n = m' := ⟨_, rfl⟩
      rw [← hne] at hm' hN hEnd hNam hAp
      clear hne
      have cv := hN.out.box2.cell (i := 0) (by omega)
      have hmk := run_make_row' (P := Try.prog) 26 3 (.int .i64 0) 8 Try.underlying26 Try.info3 rfl .i64 .i64 n (by omega) (by omega)
      go_upto_region 12 with fail
      obtain ⟨w9, hw9⟩ : ∃ w9 : World, w9 = wr.alloc (.cells (madeCells #[.int .i64 0] n) 3) := ⟨_, rfl⟩
      rw [← hw9]
      obtain ⟨BY, hBY⟩ : ∃ BY, BY = wr.heap.size := ⟨_, rfl⟩
      rw [← hBY]
      have Y9 : Hid (Arr w9 BY 3 n (nv (fun _ => 0))) := by rw [hw9, hBY]; exact made_at' _ _ _ _
      have O9 : Hid (Only (fun _ => False) wr w9) := by rw [hw9]; exact Only.alloc _ _ _
      have N9 : Hid (NumAt w9 b G1 mb N1 (upd F 5 (.map (some mb))) (.slice vo n vc) n f) := hN.out.only O9.out id id id id (fun _ _ => id)
      have P9 : Hid (Arr w9 E 82 (m * 2) (pv P)) := hP.out.only O9.out id
      have HOv : Hid (∀ x, (Value.slice vo n vc).ownBlock = some x → N1 < x ∧ x < BY ∧ x ≠ E) := fun x hx => by have h1 := hN.out.own.lt x hx; have h2 := hAp.out x hx; exact ⟨by omega, by omega, h2⟩
      have HBY : Hid (E < BY) := by show _ < _; rw [hBY]; exact hP.out.lt
      have O9w : Hid (Only (fun k => k = b) w w9) := hO.out.trans (O9.out.weak (fun _ h => h.elim))
      clear hw9 hBY hmk hN hP hO cv O9
      go_wp2_with fail
      go_loopg [56] n (fun z c56 wr => ∃ (i : Nat) (g : Nat → Nat), z = n - i ∧ i ≤ n ∧ c56 = .int .i64 i ∧ Hid (Arr wr BY 3 n (nv g)) ∧ Hid (∀ j, j < i → g j = j) ∧ Hid (Only (fun k => k = BY) w9 wr))
      case atStart => exact ⟨0, _, by omega, by omega, rfl, Y9, fun j hj => by omega, Only.refl _ _⟩
      case round =>
        obtain ⟨i, g, rfl, hi, rfl, hY, hg, hO2⟩ := hrel
        by_cases hin : i < n
        · have cY := hY.out.cell hin
          have fY := hY.out.free i
          go_wp2_with fail
          go_roundg (n - (i + 1))
          case measure => omega
          case rel =>
            refine ⟨i + 1, upd g i i, rfl, by omega, by go_num, ?_, ?_, hO2.out.trans (Only.put1' (fun k => k = BY) wr BY i _ rfl)⟩
            · have := hY.out.set i (.int .i64 (i : Nat))
              rw [upd_nv] at this
              exact this
            · intro j hj
              simp only [upd]
              by_cases e : j = i
              · rw [if_pos e, e]
              · rw [if_neg e]; exact hg.out j (by omega)
        · obtain rfl : n = i := by omega
          have Y10 : Hid (Arr wr BY 3 n (nv (fun i => i))) := hY.out.congr (fun i hi => by simp only [nv, hg.out i hi])
          have hby := HBY.out
          have N10 : Hid (NumAt wr b G1 mb N1 (upd F 5 (.map (some mb))) (.slice vo n vc) n f) := N9.out.only hO2.out (by omega) (by omega) (by omega) (by omega) (fun k hk h => by have := HOv.out k hk; omega)
          have P10 : Hid (Arr wr E 82 (m * 2) (pv P)) := P9.out.only hO2.out (by omega)
          have O10 : Hid (Only (fun k => k = b) w wr) := O9w.out.trans' hO2.out (fun i hi h => by have := HG1.out; omega)
          clear hY hg hO2 Y9 N9 P9 O9w hby
          have hsf : Calls Try.prog 29 #[.slice (some ⟨BY, 0, none⟩) n n, .func (.func 30) #[] #[.pointer (some ⟨N1, 0, none⟩)]] wr fun e w' => e = .returned (.tuple #[]) ∧ ∃ s : Nat → Nat, Arr w' BY 3 n (nv s) ∧ (∀ i, i < n → s i < n) ∧ (∀ i j, i < n → j < n → s i = s j → i = j) ∧ (∀ i, i < n → ∃ j, j < n ∧ s j = i) ∧ (∀ i j, i < j → j < n → leS (f (s i)) (f (s j))) ∧ Only (fun k => k = BY) wr w' := by
            by_cases h0 : n = 0
            · subst h0
              refine (Try.slices_SortFunc_none (α := Nat) _ _ _ wr).mono ?_
              rintro e w' ⟨rfl, rfl⟩
              exact ⟨rfl, fun i => i, Y10.out, fun i hi => by omega, fun i j hi => by omega, fun i hi => by omega, fun i j h1 h2 => by omega, Only.refl _ _⟩
            · rcases N10.out.own.cases with ⟨_, h⟩ | ⟨g, c', h, _, hR⟩
              · omega
              · have hb2 := N10.out.box2
                rw [h] at hb2
                have hgb := HOv.out g (by rw [h]; rfl)
                have := HBY.out
                exact sortf_any wr BY N1 g c' n f (by omega) (by omega) Y10.out hb2 hR (by omega) (by omega)
          have HSF : Hid (Calls Try.prog 29 #[.slice (some ⟨BY, 0, none⟩) n n, .func (.func 30) #[] #[.pointer (some ⟨N1, 0, none⟩)]] wr fun e w' => e = .returned (.tuple #[]) ∧ ∃ s : Nat → Nat, Arr w' BY 3 n (nv s) ∧ (∀ i, i < n → s i < n) ∧ (∀ i j, i < n → j < n → s i = s j → i = j) ∧ (∀ i, i < n → ∃ j, j < n ∧ s j = i) ∧ (∀ i j, i < j → j < n → leS (f (s i)) (f (s j))) ∧ Only (fun k => k = BY) wr w') := hsf
          clear hsf
          go_upto_region 18 with (
            go_at_call 29
            refine HSF.out.mono ?_
            rintro e w11 ⟨rfl, s, a1, a2, a3, a6, a4, a5⟩
            have S1 : Hid (Arr w11 BY 3 n (nv s)) := a1
            have S2 : Hid (∀ i, i < n → s i < n) := a2
            have S3 : Hid (∀ i j, i < n → j < n → s i = s j → i = j) := a3
            have S4 : Hid (∀ i j, i < j → j < n → leS (f (s i)) (f (s j))) := a4
            have S6 : Hid (∀ i, i < n → ∃ j, j < n ∧ s j = i) := a6
            have S5 : Hid (Only (fun k => k = BY) wr w11) := a5
            clear a1 a2 a3 a4 a5 a6)
          have hby := HBY.out
          have N11 : Hid (NumAt w11 b G1 mb N1 (upd F 5 (.map (some mb))) (.slice vo n vc) n f) := N10.out.only S5.out (by omega) (by omega) (by omega) (by omega) (fun k hk h => by have := HOv.out k hk; omega)
          have P11 : Hid (Arr w11 E 82 (m * 2) (pv P)) := P10.out.only S5.out (by omega)
          have O11 : Hid (Only (fun k => k = b) w w11) := O10.out.trans' S5.out (fun i hi h => by have := HG1.out; omega)
          clear Y10 N10 P10 O10 S5 HSF hby
          have cv := N11.out.box2.cell (i := 0) (by omega)
          have hmk := run_make_row' (P := Try.prog) 26 3 (.int .i64 0) 8 Try.underlying26 Try.info3 rfl .i64 .i64 n (by omega) (by omega)
          go_upto_region 19 with fail
          obtain ⟨w12, hw12⟩ : ∃ w12 : World, w12 = w11.alloc (.cells (madeCells #[.int .i64 0] n) 3) := ⟨_, rfl⟩
          rw [← hw12]
          obtain ⟨RK, hRK⟩ : ∃ RK, RK = w11.heap.size := ⟨_, rfl⟩
          rw [← hRK]
          have K12 : Hid (Arr w12 RK 3 n (nv (fun _ => 0))) := by rw [hw12, hRK]; exact made_at' _ _ _ _
          have Q12 : Hid (Only (fun _ => False) w11 w12) := by rw [hw12]; exact Only.alloc _ _ _
          have HRK : Hid (BY < RK ∧ E < BY) := ⟨by show _ < _; rw [hRK]; exact S1.out.lt, HBY.out⟩
          have N12 : Hid (NumAt w12 b G1 mb N1 (upd F 5 (.map (some mb))) (.slice vo n vc) n f) := N11.out.only Q12.out id id id id (fun _ _ => id)
          have P12 : Hid (Arr w12 E 82 (m * 2) (pv P)) := P11.out.only Q12.out id
          have S12 : Hid (Arr w12 BY 3 n (nv s)) := S1.out.only Q12.out id
          have O12 : Hid (Only (fun k => k = b) w w12) := O11.out.trans (Q12.out.weak (fun _ h => h.elim))
          clear hw12 hRK hmk cv N11 P11 S1 O11 Q12
          have hmk := run_make_row' (P := Try.prog) 22 9 (.string ⟨#[]⟩) 16 Try.underlying22 Try.info9 rfl .i64 .i64 n (by omega) (by omega)
          have c1 := N12.out.box1.cell (i := 0) (by omega)
          have c3 := N12.out.box2.cell (i := 0) (by omega)
          have c4 := N12.out.gr.cell (i := 4) (by omega)
          have f4 := N12.out.gr.free 4
          have c1a := (N12.out.box1.alloc (.cells (madeCells #[.string ⟨#[]⟩] n) 9)).cell (i := 0) (by omega)
          have c3a := (N12.out.box2.alloc (.cells (madeCells #[.string ⟨#[]⟩] n) 9)).cell (i := 0) (by omega)
          have c4a := (N12.out.gr.alloc (.cells (madeCells #[.string ⟨#[]⟩] n) 9)).cell (i := 4) (by omega)
          have f4a := (N12.out.gr.alloc (.cells (madeCells #[.string ⟨#[]⟩] n) 9)).free 4
          go_region
          generalize hw13 : World.drew _ = w13
          obtain ⟨NB, hNB⟩ : ∃ NB, NB = w12.heap.size := ⟨_, rfl⟩
          rw [← hNB] at hw13
          have HNB : Hid (RK < NB) := by show _ < _; rw [hNB]; exact K12.out.lt
          have rk := HRK.out
          have hnb := HNB.out
          have M13 : Hid (Arr w13 NB 9 n (sv (fun _ => ⟨#[]⟩))) := by
            rw [← hw13]
            have h1 : Arr (w12.alloc (.cells (madeCells #[.string ⟨#[]⟩] n) 9)) NB 9 n (sv (fun _ => ⟨#[]⟩)) := by rw [hNB]; exact made_at' _ _ _ _
            exact (h1.other (a := ⟨b, 4, none⟩) (by simp only; omega) _).drew
          have Q13 : Hid (Only (fun k => k = b) w12 w13) := by rw [← hw13]; exact ((Only.alloc w12 _ _).trans (Only.put1' (fun k => k = b) _ b 4 _ rfl)).trans (Only.drewN _ 1 _)
          have F13 : Hid (Arr w13 b 56 14 (upd (upd F 5 (.map (some mb))) 4 (.slice (some ⟨NB, 0, none⟩) n n))) := by rw [← hw13]; exact ((N12.out.gr.alloc _).set 4 _).drew
          clear hw13 hNB hmk c1 c3 c4 f4 c1a c3a c4a f4a
          have B13 : Hid (Arr w13 G1 40 1 (fun _ => .pointer (some ⟨b, 0, none⟩))) := N12.out.box1.only Q13.out (by omega)
          have X13 : Hid (Arr w13 N1 22 1 (fun _ => .slice vo n vc)) := N12.out.box2.only Q13.out (by omega)
          have W13 : Hid (Own w13 (N1 + 1) 9 (.slice vo n vc) n (sv f)) := N12.out.own.only Q13.out (fun k hk h => by have := HOv.out k hk; omega)
          have T13 : Hid (Tab w13 mb n f (fun i => i)) := N12.out.tab.only Q13.out (by omega)
          have HKY : Hid (Keys n f) := N12.out.keys
          have P13 : Hid (Arr w13 E 82 (m * 2) (pv P)) := P12.out.only Q13.out (by omega)
          have S13 : Hid (Arr w13 BY 3 n (nv s)) := S12.out.only Q13.out (by omega)
          have K13 : Hid (Arr w13 RK 3 n (nv (fun _ => 0))) := K12.out.only Q13.out (by omega)
          have O13 : Hid (Only (fun k => k = b) w w13) := O12.out.trans Q13.out
          clear N12 P12 S12 K12 O12 Q13 rk hnb
          go_wp2_with fail
          go_loopg [78] n (fun z c78 wr => ∃ (r : Nat) (rk : Nat → Nat) (nm : Nat → ByteArray), z = n - r ∧ r ≤ n ∧ c78 = .int .i64 r ∧ Hid (Arr wr RK 3 n (nv rk)) ∧ Hid (Arr wr NB 9 n (sv nm)) ∧ Hid (∀ j, j < r → rk (s j) = j ∧ nm j = f (s j)) ∧ Hid (Only (fun k => k = RK ∨ k = NB) w13 wr))
          case atStart => exact ⟨0, _, _, by omega, by omega, rfl, K13, M13, fun j hj => by omega, Only.refl _ _⟩
          case round =>
            obtain ⟨r, rk, nm, rfl, hr, rfl, hK, hNm, hRel, hO3⟩ := hrel
            have hrk := HRK.out
            have hnb := HNB.out
            have S14 : Hid (Arr wr BY 3 n (nv s)) := S13.out.only hO3.out (by omega)
            by_cases hrn : r < n
            · have cS := S14.out.cell hrn
              rw [show nv s r = .int .i64 ((s r : Nat) : Int) from rfl] at cS
              have hsr := S2.out r hrn
              obtain ⟨y, hy⟩ : ∃ y, y = s r := ⟨_, rfl⟩
              rw [← hy] at cS hsr
              have HY : Hid (y = s r) := hy
              clear hy
              have cK := hK.out.cell hsr
              have fK := hK.out.free y
              have hne : RK ≠ NB := by omega
              have HO4 : Hid (∀ u, Only (fun k => k = RK) wr (wr.setCell ⟨RK, y, none⟩ u)) := fun u => Only.put1' (fun k => k = RK) wr RK y u rfl
              obtain ⟨gv, rfl⟩ : ∃ gv, vo = some ⟨gv, 0, none⟩ := by
                rcases W13.out.cases with ⟨_, h⟩ | ⟨gv, c', h, _⟩
                · omega
                · simp only [Value.slice.injEq] at h
                  exact ⟨gv, h.1⟩
              have hgv := HOv.out gv rfl
              go_upto_region 24 with fail
              generalize hw15 : World.setCell _ _ _ = w15
              have K15 : Hid (Arr w15 RK 3 n (nv (upd rk y r))) := by
                rw [← hw15]
                have := hK.out.set y (.int .i64 (r : Nat))
                rw [upd_nv] at this
                exact this
              have O15 : Hid (Only (fun k => k = RK ∨ k = NB) w13 w15) := by rw [← hw15]; exact hO3.out.trans ((HO4.out _).weak (fun _ h => Or.inl h))
              have M15 : Hid (Arr w15 NB 9 n (sv nm)) := by rw [← hw15]; exact hNm.out.only (HO4.out _) (by omega)
              clear hw15
              have d1 := (B13.out.only O15.out (by omega)).cell (i := 0) (by omega)
              have d4 := (F13.out.only O15.out (by omega)).cell (i := 4) (by omega)
              rw [upd_same] at d4
              have d3 := (X13.out.only O15.out (by omega)).cell (i := 0) (by omega)
              have dW := (W13.out.only O15.out (fun k hk h => by have := HOv.out k hk; omega)).row.cell hsr
              rw [show sv f y = .string (f y) from rfl] at dW
              have dN := M15.out.cell hrn
              have fN := M15.out.free r
              clear hrk hnb hgv hne
              go_region
              generalize hw16 : World.drew _ = w16
              have Q16 : Hid (Only (fun k => k = NB) w15 w16) := by rw [← hw16]; exact (Only.put1' (fun k => k = NB) w15 NB r _ rfl).trans (Only.drewN _ 1 _)
              have M16 : Hid (Arr w16 NB 9 n (sv (upd nm r (f y)))) := by
                rw [← hw16]
                have := M15.out.set r (.string (f y))
                rw [upd_sv] at this
                exact this.drew
              clear hw16 d1 d4 d3 dW dN fN
              go_wp2_with fail
              go_roundg (n - (r + 1))
              case measure => omega
              case rel =>
                have hnb := HNB.out
                refine ⟨r + 1, upd rk y r, upd nm r (f y), rfl, by omega, by go_num, K15.out.only Q16.out (by omega), M16, ?_, O15.out.trans (Q16.out.weak (fun _ h => Or.inr h))⟩
                intro j hj
                simp only [upd]
                by_cases e : j = r
                · rw [e, ← HY.out, if_pos rfl, if_pos rfl]; exact ⟨rfl, rfl⟩
                · have h3 : s j ≠ y := fun h => e (S3.out j r (by omega) hrn (by rw [h, HY.out]))
                  rw [if_neg h3, if_neg e]; exact hRel.out j (by omega)
            · obtain rfl : n = r := by omega
              have HRKI : Hid (∀ i, i < n → rk i < n ∧ nm (rk i) = f i) := fun i hi => by
                obtain ⟨j, hj, e⟩ := S6.out i hi
                have h5 := hRel.out j hj
                rw [e] at h5
                exact ⟨by omega, by rw [h5.1]; exact h5.2⟩
              have HRISE : Hid (Rises n nm) := by
                intro i j hij hj
                have h5 := (hRel.out i (by omega)).2
                have h6 := (hRel.out j hj).2
                rw [h5, h6]
                exact lt_of_leS_ne (S4.out i j hij hj) (fun e => by
                  have h7 := HKY.out.inj (s i) (s j) (S2.out i (by omega)) (S2.out j hj) e
                  have h8 := S3.out i j (by omega) hj h7
                  omega)
              have HNMS : Hid (∀ j, j < n → ∃ i, i < n ∧ nm j = f i) := fun j hj => ⟨s j, S2.out j hj, (hRel.out j hj).2⟩
              have F17 : Hid (Arr wr b 56 14 (upd (upd F 5 (.map (some mb))) 4 (.slice (some ⟨NB, 0, none⟩) n n))) := F13.out.only hO3.out (by omega)
              have B17 : Hid (Arr wr G1 40 1 (fun _ => .pointer (some ⟨b, 0, none⟩))) := B13.out.only hO3.out (by omega)
              have T17 : Hid (Tab wr mb n f (fun i => i)) := T13.out.only hO3.out (by omega)
              have P17 : Hid (Arr wr E 82 (m * 2) (pv P)) := P13.out.only hO3.out (by omega)
              have O17 : Hid (Only (fun k => k = b) w wr) := O13.out.trans' hO3.out (fun i hi h => by have := HG1.out; omega)
              clear S13 F13 B13 T13 P13 O13 X13 W13 K13 M13 hO3 hRel S14 hrk hnb
              have d1 := B17.out.cell (i := 0) (by omega)
              have d5 := F17.out.cell (i := 5) (by omega)
              rw [upd_other _ _ _ _ (by omega), upd_same] at d5
              obtain ⟨w18, hrg, hI18, hN18⟩ := T17.out.range
              have I18 : Hid (Iter w18 mb wr.heap.size n #[]) := hI18
              have Q18 : Hid (New wr w18) := hN18
              clear hI18 hN18
              go_wp2_with fail
              obtain ⟨IT, hIT⟩ : ∃ IT, IT = wr.heap.size := ⟨_, rfl⟩
              rw [← hIT] at I18 ⊢
              have hrkL := hK.out.lt
              have hnbL := hNm.out.lt
              have hmI : mb < IT ∧ RK < IT ∧ NB < IT ∧ E < IT ∧ b < IT ∧ G1 < IT := by
                have h1 := T17.out.lt
                have h2 := P17.out.lt
                have h3 := B17.out.lt
                rw [hIT]
                exact ⟨h1, hrkL, hnbL, h2, by omega, h3⟩
              have HIT : Hid (w.heap.size ≤ IT) := by have := O17.out.size; show _ ≤ _; omega
              clear hIT d1 d5 hrg hrkL hnbL
              have T18 : Hid (Tab w18 mb n f (fun i => i)) := T17.out.only (Only.new Q18.out (fun _ => False)) id
              have F18 : Hid (Arr w18 b 56 14 (upd (upd F 5 (.map (some mb))) 4 (.slice (some ⟨NB, 0, none⟩) n n))) := F17.out.new Q18.out
              have B18 : Hid (Arr w18 G1 40 1 (fun _ => .pointer (some ⟨b, 0, none⟩))) := B17.out.new Q18.out
              have P18 : Hid (Arr w18 E 82 (m * 2) (pv P)) := P17.out.new Q18.out
              have K18 : Hid (Arr w18 RK 3 n (nv rk)) := hK.out.new Q18.out
              have M18 : Hid (Arr w18 NB 9 n (sv nm)) := hNm.out.new Q18.out
              have O18 : Hid (Only (fun k => k = b) w w18) := O17.out.trans (Only.new Q18.out _)
              have hrkm : RK ≠ mb ∧ b ≠ mb ∧ G1 ≠ mb ∧ NB ≠ mb ∧ E ≠ mb := by
                have h1 := HRK.out
                have h2 := HNB.out
                exact ⟨by omega, by omega, by omega, by omega, by omega⟩
              clear T17 F17 B17 P17 hK hNm O17 Q18
              go_loopg [13] n (fun z _ wr => ∃ (seen : Array Nat) (vv : Nat → Nat), z = toCome n seen ∧ Hid (Tab wr mb n f vv) ∧ Hid (Iter wr mb IT n seen) ∧ Hid (∀ i, i < n → vv i < n) ∧ Hid (Only (fun k => k = mb ∨ k = IT) w18 wr))
              case atStart => exact ⟨#[], fun i => i, toCome_nil n, T18, I18, fun i hi => hi, Only.refl _ _⟩
              case round =>
                obtain ⟨seen, vv, rfl, hT, hI, hV, hO5⟩ := hrel
                rcases hT.out.next hI.out (by omega) 0 with ⟨hz, hnx⟩ | ⟨i, w19, hi, hnx, t1, t2, t3, t4, t5, hen⟩
                · have P21 : Hid (Arr wr E 82 (m * 2) (pv P)) := P18.out.only hO5.out (by omega)
                  have K21 : Hid (Arr wr RK 3 n (nv rk)) := K18.out.only hO5.out (by omega)
                  have M21 : Hid (Arr wr NB 9 n (sv nm)) := M18.out.only hO5.out (by omega)
                  have F21 : Hid (Arr wr b 56 14 (upd (upd F 5 (.map (some mb))) 4 (.slice (some ⟨NB, 0, none⟩) n n))) := F18.out.only hO5.out (by omega)
                  have B21 : Hid (Arr wr G1 40 1 (fun _ => .pointer (some ⟨b, 0, none⟩))) := B18.out.only hO5.out (by omega)
                  have O21 : Hid (Only (fun k => k = b) w wr) := O18.out.trans' hO5.out (fun i hi h => by have := HG1.out; have := HIT.out; omega)
                  obtain ⟨w21, hw21⟩ : ∃ w21 : World, w21 = wr := ⟨_, rfl⟩
                  have O22 : Hid (Only (fun k => k = E) w21 wr) := by rw [hw21]; exact Only.refl _ _
                  rw [← hw21] at K21 M21 F21 B21 O21
                  clear hw21 hT hI hV hO5 P18 K18 M18 F18 B18 O18 T18 I18
                  go_wp2_with fail
                  go_loopg [119] m (fun z c119 wr => ∃ (k : Nat) (R : Nat → Nat → Nat), z = m - k ∧ k ≤ m ∧ c119 = .int .i64 k ∧ Hid (Arr wr E 82 (m * 2) (pv R)) ∧ Hid (∀ j e, j < k → e ≤ 1 → R j e = rk (P j e)) ∧ Hid (∀ j e, k ≤ j → R j e = P j e) ∧ Hid (Only (fun k => k = E) w21 wr))
                  case atStart => exact ⟨0, P, by omega, by omega, rfl, P21, fun j e hj => by omega, fun _ _ _ => rfl, O22⟩
                  case round =>
                    obtain ⟨k, R, rfl, hk, rfl, hR, hR1, hR2, hO6⟩ := hrel
                    have hne := HRK.out
                    by_cases hkm : k < m
                    · have e0 := hR.out.cell (i := k * 2) (by omega)
                      have e1 := hR.out.cell (i := k * 2 + 1) (by omega)
                      rw [pv_even, hR2.out k 0 (Nat.le_refl _)] at e0
                      rw [pv_odd, hR2.out k 1 (Nat.le_refl _)] at e1
                      obtain ⟨q1, _, q2, _⟩ := hEnd.out k hkm
                      obtain ⟨a0, ha0⟩ : ∃ a0, a0 = P k 0 := ⟨_, rfl⟩
                      obtain ⟨a1, ha1⟩ : ∃ a1, a1 = P k 1 := ⟨_, rfl⟩
                      rw [← ha0] at e0 q1
                      rw [← ha1] at e1 q2
                      have HA0 : Hid (a0 = P k 0) := ha0
                      have HA1 : Hid (a1 = P k 1) := ha1
                      clear ha0 ha1
                      go_upto_region 33 with fail
                      obtain ⟨w22, hw22⟩ : ∃ w22 : World, w22 = wr.alloc (.cells #[.int .i64 (a0 : Nat), .int .i64 (a1 : Nat)] 82) := ⟨_, rfl⟩
                      rw [← hw22]
                      obtain ⟨X, hX⟩ : ∃ X, X = wr.heap.size := ⟨_, rfl⟩
                      rw [← hX]
                      have x0 : w22.cell? ⟨X, 0, none⟩ = some (.int .i64 (a0 : Nat)) := by rw [hw22, hX]; exact (Arr.two _ _ _ _).1
                      have x1 : w22.cell? ⟨X, 1, none⟩ = some (.int .i64 (a1 : Nat)) := by rw [hw22, hX]; exact (Arr.two _ _ _ _).2
                      have Q22 : Hid (Only (fun _ => False) wr w22) := by rw [hw22]; exact Only.alloc _ _ _
                      have R22 : Hid (Arr w22 E 82 (m * 2) (pv R)) := hR.out.only Q22.out id
                      have K22 : Hid (Arr w22 RK 3 n (nv rk)) := (K21.out.only hO6.out (by omega)).only Q22.out id
                      have r0 := K22.out.cell q1
                      have r1 := K22.out.cell q2
                      rw [show nv rk a0 = .int .i64 ((rk a0 : Nat) : Int) from rfl] at r0
                      rw [show nv rk a1 = .int .i64 ((rk a1 : Nat) : Int) from rfl] at r1
                      have g0 := R22.out.cell (i := k * 2) (by omega)
                      have g1 := R22.out.cell (i := k * 2 + 1) (by omega)
                      have fg := fun i => R22.out.free i
                      clear hw22 hX hne e0 e1
                      go_region
                      generalize hw23 : World.drew _ = w23
                      have R23 : Hid (Arr w23 E 82 (m * 2) (pv (upd2 R k (rk a0) (rk a1)))) := by
                        have := (R22.out.set (k * 2) (.int .i64 (rk a0 : Nat))).set (k * 2 + 1) (.int .i64 (rk a1 : Nat))
                        rw [pv_put] at this
                        rw [← hw23]; exact this.drew
                      have Q23 : Hid (Only (fun y => y = E) wr w23) := by
                        rw [← hw23]
                        exact (((Q22.out.weak (fun _ h => h.elim)).trans (Only.put1' (fun y => y = E) w22 E (k * 2) _ rfl)).trans (Only.put1' _ _ E (k * 2 + 1) _ rfl)).trans (Only.drewN _ 1 _)
                      clear hw23 x0 x1 r0 r1 g0 g1 fg
                      go_wp2_with fail
                      go_roundg (m - (k + 1))
                      case measure => omega
                      case rel =>
                        refine ⟨k + 1, _, rfl, by omega, by go_num, R23, ?_, ?_, hO6.out.trans Q23.out⟩
                        · intro j e hj he
                          simp only [upd2]
                          by_cases ej : j = k
                          · rw [if_pos ej, ej]
                            by_cases e0 : e = 0
                            · rw [if_pos e0, e0, HA0.out]
                            · have e1 : e = 1 := by omega
                              rw [if_neg e0, e1, HA1.out]
                          · rw [if_neg ej]; exact hR1.out j e (by omega) he
                        · intro j e hj
                          simp only [upd2]
                          rw [if_neg (by omega)]; exact hR2.out j e (by omega)
                    · obtain rfl : m = k := by omega
                      have hits := HIT.out
                      have F24 : Hid (Arr wr b 56 14 (upd (upd F 5 (.map (some mb))) 4 (.slice (some ⟨NB, 0, none⟩) n n))) := F21.out.only hO6.out (by omega)
                      have B24 : Hid (Arr wr G1 40 1 (fun _ => .pointer (some ⟨b, 0, none⟩))) := B21.out.only hO6.out (by omega)
                      have M24 : Hid (Arr wr NB 9 n (sv nm)) := M21.out.only hO6.out (by have := HNB.out; omega)
                      have O24 : Hid (Only (fun k => k = b) w wr) := O21.out.trans' hO6.out (fun i hi h => by have := HG1.out; omega)
                      have HRB : Hid (∀ k j, k < m → j ≤ 1 → R k j < n) := fun k j hk hj => by
                        obtain ⟨q1, _, q2, _⟩ := hEnd.out k hk
                        rw [hR1.out k j hk hj]
                        by_cases e0 : j = 0
                        · rw [e0]; exact (HRKI.out _ q1).1
                        · rw [show j = 1 by omega]; exact (HRKI.out _ q2).1
                      have R24 : Hid (Arr wr.drew E 82 (2 * m) (pv R)) := by
                        have := hR.out
                        rw [Nat.mul_comm] at this
                        exact this
                      have s1 := B24.out.cell (i := 0) (by omega)
                      have s4 := F24.out.cell (i := 4) (by omega)
                      rw [upd_same] at s4
                      have hGs : b < wr.heap.size ∧ G1 < wr.heap.size ∧ E < wr.heap.size := ⟨F24.out.lt, B24.out.lt, hR.out.lt⟩
                      clear hne hits
                      go_upto_region 35 with fail
                      go_region_held3 (fun w' => w'.cell? ⟨G1, 0, none⟩ = some (.pointer (some ⟨b, 0, none⟩)) ∧ w'.cell? ⟨b, 4, none⟩ = some (.slice (some ⟨NB, 0, none⟩) n n)) (first
                        | exact ⟨s1, s4⟩
                        | exact ⟨y1, y4⟩
                        | exact ⟨z1, z4⟩
                        | exact ⟨p1, p4⟩
                        | exact ⟨q1, q4⟩) (first
                        | (
                          go_at_call 32
                          refine (adj1_any w25 E m n R R25.out (by omega) (by omega) HRB.out).mono ?_
                          rintro e w26 ⟨L1, A1, rfl, b1, b2, b3, b4⟩
                          have D1 : Hid (Lists w26 L1 A1 n (nbr n (fun k => R k 1) (fun k => R k 0) m)) := b3
                          have D2 : Hid (Below w25.heap.size w25 w26) := b4
                          have D3 : Hid (w25.heap.size ≤ A1 ∧ A1 < L1) := ⟨b1, b2⟩
                          have F26 : Hid (Arr w26 b 56 14 (upd (upd F 5 (.map (some mb))) 4 (.slice (some ⟨NB, 0, none⟩) n n))) := F25.out.below b4 F25.out.lt
                          have B26 : Hid (Arr w26 G1 40 1 (fun _ => .pointer (some ⟨b, 0, none⟩))) := B25.out.below b4 B25.out.lt
                          have z1 := B26.out.cell (i := 0) (by omega)
                          have z4 := F26.out.cell (i := 4) (by omega)
                          rw [upd_same] at z4
                          have c6 := F26.out.cell (i := 6) (by omega)
                          have c7 := F26.out.cell (i := 7) (by omega)
                          have ff := fun i => F26.out.free i
                          have FP : Hid (Arr (w26.setCell ⟨b, 6, none⟩ (.slice (some ⟨L0, 0, none⟩) n n)) b 56 14 (upd (upd (upd F 5 (.map (some mb))) 4 (.slice (some ⟨NB, 0, none⟩) n n)) 6 (.slice (some ⟨L0, 0, none⟩) n n))) := F26.out.set 6 _
                          have BP : Hid (Arr (w26.setCell ⟨b, 6, none⟩ (.slice (some ⟨L0, 0, none⟩) n n)) G1 40 1 (fun _ => .pointer (some ⟨b, 0, none⟩))) := B26.out.other (by simp only; omega) _
                          have p1 := BP.out.cell (i := 0) (by omega)
                          have p4 := FP.out.cell (i := 4) (by omega)
                          rw [upd_other _ _ _ _ (by omega), upd_same] at p4
                          have p7 := FP.out.cell (i := 7) (by omega)
                          have fp := fun i => FP.out.free i
                          have FQ : Hid (Arr ((w26.setCell ⟨b, 6, none⟩ (.slice (some ⟨L0, 0, none⟩) n n)).setCell ⟨b, 7, none⟩ (.slice (some ⟨L1, 0, none⟩) n n)) b 56 14 (upd (upd (upd (upd F 5 (.map (some mb))) 4 (.slice (some ⟨NB, 0, none⟩) n n)) 6 (.slice (some ⟨L0, 0, none⟩) n n)) 7 (.slice (some ⟨L1, 0, none⟩) n n))) := FP.out.set 7 _
                          have BQ : Hid (Arr ((w26.setCell ⟨b, 6, none⟩ (.slice (some ⟨L0, 0, none⟩) n n)).setCell ⟨b, 7, none⟩ (.slice (some ⟨L1, 0, none⟩) n n)) G1 40 1 (fun _ => .pointer (some ⟨b, 0, none⟩))) := BP.out.other (by simp only; omega) _
                          have q1 := BQ.out.cell (i := 0) (by omega)
                          have q4 := FQ.out.cell (i := 4) (by omega)
                          rw [upd_other _ _ _ _ (by omega), upd_other _ _ _ _ (by omega), upd_same] at q4
                          clear b1 b2 b3 b4)
                        | (
                          go_at_call 32
                          refine (adj0_any wr.drew E m n R R24.out (by omega) (by omega) HRB.out).mono ?_
                          rintro e w25 ⟨L0, A0, rfl, a1, a2, a3, a4⟩
                          have C1 : Hid (Lists w25 L0 A0 n (nbr n (fun k => R k 0) (fun k => R k 1) m)) := a3
                          have C2 : Hid (Below wr.heap.size wr.drew w25) := a4
                          have C3 : Hid (wr.heap.size ≤ A0 ∧ A0 < L0) := ⟨a1, a2⟩
                          have F25 : Hid (Arr w25 b 56 14 (upd (upd F 5 (.map (some mb))) 4 (.slice (some ⟨NB, 0, none⟩) n n))) := Arr.below (show Arr wr.drew _ _ _ _ from F24.out) a4 F24.out.lt
                          have B25 : Hid (Arr w25 G1 40 1 (fun _ => .pointer (some ⟨b, 0, none⟩))) := Arr.below (show Arr wr.drew _ _ _ _ from B24.out) a4 B24.out.lt
                          have R25 : Hid (Arr w25 E 82 (2 * m) (pv R)) := R24.out.below a4 R24.out.lt
                          have y1 := B25.out.cell (i := 0) (by omega)
                          have y4 := F25.out.cell (i := 4) (by omega)
                          rw [upd_same] at y4
                          clear a1 a2 a3 a4))
                      generalize hw27 : World.setCell _ _ _ = w27
                      have F27 : Hid (Arr w27 b 56 14 (upd (upd (upd (upd F 5 (.map (some mb))) 4 (.slice (some ⟨NB, 0, none⟩) n n)) 6 (.slice (some ⟨L0, 0, none⟩) n n)) 7 (.slice (some ⟨L1, 0, none⟩) n n))) := by rw [← hw27]; exact FQ.out
                      have B27 : Hid (Arr w27 G1 40 1 (fun _ => .pointer (some ⟨b, 0, none⟩))) := by rw [← hw27]; exact BQ.out
                      have Q27 : Hid (Only (fun k => k = b) w26 w27) := by rw [← hw27]; exact (Only.put1' (fun k => k = b) w26 b 6 _ rfl).trans (Only.put1' _ _ b 7 _ rfl)
                      clear hw27 FP BP FQ BQ p1 p4 p7 fp q1 q4 z1 z4 c6 c7 ff y1 y4 s1 s4
                      have c3 := C3.out
                      have d3 := D3.out
                      have O25 : Hid (Only (fun k => k = b) wr w25) := ⟨C2.out.os, C2.out.tape, C2.out.output, C2.out.size, fun k hk _ => C2.out.block k hk⟩
                      have O26 : Hid (Only (fun k => k = b) w25 w26) := Only.belowAll D2.out _
                      have L27 : Hid (Lists w27 L0 A0 n (nbr n (fun k => R k 0) (fun k => R k 1) m)) := (C1.out.only O26.out (by omega) (by omega)).only Q27.out (by omega) (by omega)
                      have M27 : Hid (Arr w27 NB 9 n (sv nm)) := (((M24.out.only O25.out (by have := HNB.out; have := HRK.out; omega)).only O26.out (by have := HNB.out; have := HRK.out; omega))).only Q27.out (by have := HNB.out; have := HRK.out; omega)
                      have O27 : Hid (Only (fun k => k = b) w w27) := ((O24.out.trans O25.out).trans O26.out).trans Q27.out
                      have g1 := B27.out.cell (i := 0) (by omega)
                      have hbA : b < L0 ∧ b < A0 := ⟨by omega, by omega⟩
                      have HNX : Hid (∀ u x, x ∈ nbr n (fun k => R k 0) (fun k => R k 1) m u → x < n) := fun u x hx => (mem_sel.1 hx).1
                      have HNL : Hid (∀ u, (nbr n (fun k => R k 0) (fun k => R k 1) m u).length ≤ 100000) := fun u => by
                        have h1 : (nbr n (fun k => R k 0) (fun k => R k 1) m u).length ≤ n := by
                          unfold nbr sel
                          refine Nat.le_trans (List.length_filter_le _ _) ?_
                          simp
                        omega
                      clear c3 d3
                      go_wp2_with (
                        go_at_call 33
                        refine (h33 w27 b NB n L0 A0 _ _ F27.out (by rw [upd_other _ _ _ _ (by omega), upd_other _ _ _ _ (by omega), upd_same]) (by rw [upd_other _ _ _ _ (by omega), upd_same]) L27.out HNX.out HNL.out (by omega) hbA.1 hbA.2).mono ?_
                        rintro e w28 ⟨rfl, grp, G, GA, LM, AM, j1, j2, j3, j4, j5, j6, j7, j8⟩
                        have J : Hid (Arr w28 b 56 14 _ ∧ Arr w28 GA 3 n (nv grp) ∧ Lists w28 LM AM G (memb grp n) ∧ Gr n (nbr n (fun k => R k 0) (fun k => R k 1) m) grp G ∧ Only (fun k => k = b) w27 w28 ∧ w27.heap.size ≤ GA ∧ w27.heap.size ≤ LM ∧ w27.heap.size ≤ AM) := ⟨j1, j2, j3, j4, j5, j6, j7, j8⟩
                        clear j1 j2 j3 j4 j5 j6 j7 j8)
                      go_end0
                      obtain ⟨j1, j2, j3, j4, j5, j6, j7, j8⟩ := J.out
                      have c3 := C3.out
                      have hnb := HNB.out
                      have hrk := HRK.out
                      have M28 := M27.out.only j5 (by omega)
                      have L28 := L27.out.only j5 (by omega) (by omega)
                      have k1 := j1.lt
                      have k2 := j2.lt
                      have k3 := M28.lt
                      obtain ⟨k4, k5⟩ : L0 < w28.heap.size ∧ A0 < w28.heap.size := by
                        obtain ⟨val, FF, mm, h1, h2, _⟩ := L28
                        exact ⟨h1.lt, h2.lt⟩
                      obtain ⟨k6, k7⟩ : LM < w28.heap.size ∧ AM < w28.heap.size := by
                        obtain ⟨val, FF, mm, h1, h2, _⟩ := j3
                        exact ⟨h1.lt, h2.lt⟩
                      have hends : ∀ k, k < m → R k 0 < n ∧ nm (R k 0) = dep k ∧ R k 1 < n ∧ nm (R k 1) = dpt k := fun k hk => by
                        obtain ⟨q1, q2, q3, q4⟩ := hEnd.out k hk
                        obtain ⟨t1, t2⟩ := HRKI.out _ q1
                        obtain ⟨t3, t4⟩ := HRKI.out _ q3
                        rw [hR1.out k 0 hk (by omega), hR1.out k 1 hk (by omega)]
                        exact ⟨t1, by rw [t2, q2], t3, by rw [t4, q4]⟩
                      refine ⟨rfl, _, n, G, nm, _, grp, NB, L0, A0, GA, LM, AM, ⟨j1, ?_, ?_, ?_, ?_, M28, L28, j2, j3, ⟨k1, k3, k4, k5, k2, k6, k7⟩⟩, ?_, j4, HRISE.out, ?_, ⟨fun k => R k 0, fun k => R k 1, hends, rfl⟩, by omega, O27.out.trans j5⟩
                      · rw [upd_other _ _ _ _ (by omega), upd_other _ _ _ _ (by omega), upd_other _ _ _ _ (by omega), upd_other _ _ _ _ (by omega), upd_same]
                      · rw [upd_other _ _ _ _ (by omega), upd_other _ _ _ _ (by omega), upd_other _ _ _ _ (by omega), upd_same]
                      · rw [upd_other _ _ _ _ (by omega), upd_same]
                      · rw [upd_same]
                      · intro i hi
                        rw [upd_other _ _ _ _ (by omega), upd_other _ _ _ _ (by omega), upd_other _ _ _ _ (by omega), upd_other _ _ _ _ (by omega), upd_other _ _ _ _ (by omega), upd_other _ _ _ _ (by omega)]
                      · intro i hi
                        obtain ⟨i2, hi2, e2⟩ := HNMS.out i hi
                        obtain ⟨k, hk, e3⟩ := hNam.out i2 hi2
                        exact ⟨k, hk, by rw [e2]; exact e3⟩
                · have T19 : Hid (Tab w19 mb n f vv) := t1
                  have I19 : Hid (Iter w19 mb IT n (seen.push i)) := t2
                  have H3 : Hid (toCome n (seen.push i) < toCome n seen) := t3
                  have Q19 : Hid (Only (fun k => k = mb ∨ k = IT) w18 w19) := hO5.out.trans (t4.weak (fun _ h => Or.inr h))
                  clear t1 t2 t3 t4 t5
                  have hvi := hV.out i hi
                  obtain ⟨x, hx⟩ : ∃ x, x = vv i := ⟨_, rfl⟩
                  rw [← hx] at hvi hnx hen
                  have d1 := (B18.out.only Q19.out (by omega)).cell (i := 0) (by omega)
                  have d5 := (F18.out.only Q19.out (by omega)).cell (i := 5) (by omega)
                  rw [upd_other _ _ _ _ (by omega), upd_same] at d5
                  have dR := (K18.out.only Q19.out (by omega)).cell hvi
                  rw [show nv rk x = .int .i64 ((rk x : Nat) : Int) from rfl] at dR
                  have hrx := (HRKI.out x hvi).1
                  obtain ⟨w20, hup, u1, u2, u3⟩ := Tab.store (w := w19.drew) (x := rk x) (T19.out.only (Only.drewN _ 1 (fun _ => False)) id) HKY.out hi
                  have U1 : Hid (Tab w20 mb n f (upd vv i (rk x))) := u1
                  have U2 : Hid (Only (fun k => k = mb) w19.drew w20) := u2
                  clear u1 u2 u3 hx
                  go_upto_region 29 with fail
                  go_region
                  go_wp2_with fail
                  go_roundg (toCome n (seen.push i))
                  case measure => exact H3.out
                  case rel =>
                    refine ⟨seen.push i, upd vv i (rk x), rfl, U1, (I19.out.only (Only.drewN _ 1 (fun _ => False)) id).only U2.out (by omega), ?_, (Q19.out.trans (Only.drewN _ 1 _)).trans (U2.out.weak (fun _ h => Or.inl h))⟩
                    intro j hj
                    simp only [upd]
                    split
                    · exact hrx
                    · exact hV.out j hj
end Go.Proofs.Qxb6616383a
