/-
  oneLine, by its parts; lawTabsLines.
-/
import Derived.Test.Qxb6616464aBytes
import Derived.Test.Qxb6616464aOnce
namespace Go.Proofs.Qxb6616464a
open Go.RowKit
open Esc

/-- The replacer's five cells. -/
def replCells (st : Int) (v : Value) : Array Value := #[.int .u32 0, .int .i32 st, .int .u32 0, .nilIface, v]

set_option maxRecDepth 100000 in
theorem once26 (R g cap : Nat) (w : World) (hR : w.heap[R]? = some (.cells (replCells 1 (.slice (some ⟨g, 0, none⟩) 4 cap)) 51 (0, 0)))
    (hS : ∀ j u, S4[j]? = some u → w.cell? ⟨g, j, none⟩ = some u) (hg : g < w.heap.size) :
    Calls Try.prog 26 #[.pointer (some ⟨R, 0, none⟩)] w fun e w' => e = .returned (.tuple #[]) ∧ ∃ w1, Tab w w.heap.size 2 w1 ∧ w' = (w1.setCell ⟨R, 3, none⟩ (.iface 71 (.pointer (some ⟨w.heap.size + 1, 0, none⟩)))).setCell ⟨R, 4, none⟩ (.slice none 0 0) := by
  have hRlt : R < w.heap.size := (Array.getElem?_eq_some_iff.1 hR).1
  have c4 : w.cell? ⟨R, 4, none⟩ = some (.slice (some ⟨g, 0, none⟩) 4 cap) := by simp [World.cell?, hR, replCells]
  have HB : Hid (Calls Try.prog 29 #[.pointer (some ⟨R, 0, none⟩)] w fun e w' => e = .returned (.iface 71 (.pointer (some ⟨w.heap.size + 1, 0, none⟩))) ∧ Tab w w.heap.size 2 w') :=
    build29 R g cap w c4 (hS 0 _ rfl) (hS 1 _ rfl) (hS 2 _ rfl) (hS 3 _ rfl) hg
  have HR : Hid (w.heap[R]? = some (.cells (replCells 1 (.slice (some ⟨g, 0, none⟩) 4 cap)) 51 (0, 0))) := hR
  clear hR hS c4
  go_enter Try.func26, Try.ntmps26
  go_wp2_with fail
  refine HB.out.mono ?_
  rintro e w1 ⟨rfl, ht⟩
  have hb : w1.heap[R]? = some (.cells (replCells 1 (.slice (some ⟨g, 0, none⟩) 4 cap)) 51 (0, 0)) := (ht.bel.block R hRlt).trans HR.out
  have q3 : w1.cell? ⟨R, 3, none⟩ = some .nilIface := by simp [World.cell?, hb, replCells]
  have q4 : w1.cell? ⟨R, 4, none⟩ = some (.slice (some ⟨g, 0, none⟩) 4 cap) := by simp [World.cell?, hb, replCells]
  have f3 : w1.frozen? ⟨R, 3, none⟩ = false := by simp [World.frozen?, hb]
  have f4 : w1.frozen? ⟨R, 4, none⟩ = false := by simp [World.frozen?, hb]
  have HT : Hid (Tab w w.heap.size 2 w1) := ht
  clear ht hb
  go_wp2
  go_end0
  exact ⟨rfl, w1, HT.out, rfl⟩

theorem ready_of_tab {w w1 W : World} {B : Nat} (h : Tab w B 2 w1) (hb : ∀ j, B ≤ j → j < w1.heap.size → W.heap[j]? = w1.heap[j]?) (hs : w1.heap.size ≤ W.heap.size) :
    ∃ g9 c9 g10 c10, Ready B g9 c9 g10 c10 W := by
  have hz := h.size
  obtain ⟨A, hA, _, h256, hrest, _, _, h10, h9⟩ := h.tab
  obtain ⟨v10, a10, g10, c10, rfl, l10, m10, b10⟩ := h10 (by omega)
  obtain ⟨v9, a9, g9, c9, rfl, l9, m9, b9⟩ := h9 (by omega)
  have hA' : W.heap[B + 1]? = some (.cells A 70 (0, 0)) := (hb (B + 1) (by omega) (by omega)).trans hA
  have hrow := h.row
  rcases hrow.2 with ⟨hn, _⟩ | ⟨g, cap, cur, hv, _, hh, _, _, hcs, htk⟩
  · cases hn
  simp only [Value.slice.injEq, Option.some.injEq, Addr.mk.injEq] at hv
  obtain ⟨⟨rfl, _⟩, _, rfl⟩ := hv
  have hr' : W.heap[B]? = some (.cells cur 9 (0, 0)) := (hb B (Nat.le_refl _) (by omega)).trans hh
  rw [List.take_of_length_le (by simp [hcs])] at htk
  refine ⟨g9, c9, g10, c10, ?_, ?_, ?_, ?_, ?_, ?_, ?_, ?_, by omega, by omega, by omega⟩
  · simp [World.cell?, hA', h256]
  · have : cur[0]? = some (.string ⟨#[10]⟩) := by rw [← Array.getElem?_toList, htk]; rfl
    simp [World.cell?, hr', this]
  · have : cur[1]? = some (.string ⟨#[9]⟩) := by rw [← Array.getElem?_toList, htk]; rfl
    simp [World.cell?, hr', this]
  · have e : U9.size = 6 := rfl
    rw [e] at a9
    simp [World.cell?, hA', a9]
  · have e : U10.size = 6 := rfl
    rw [e] at a10
    simp [World.cell?, hA', a10]
  · intro j h1 h2 h3
    simp [World.cell?, hA', hrest j h1 h2 h3]
  · intro j hj
    rw [World.cell?_of_block (hb g9 (by omega) m9)]
    exact b9 j hj
  · intro j hj
    rw [World.cell?_of_block (hb g10 (by omega) m10)]
    exact b10 j hj

theorem method_replace (a : Addr) (w : World) : (method 245 71 (.pointer (some a)) "Replace").run Try.prog w = .ok (91, .pointer (some a)) w := by kernel_rfl
/-- What Do leaves of a replacer. -/
def OnceQ (R : Nat) (W w' : World) : Prop := ∃ w1, Tab W W.heap.size 2 w1 ∧ w' = (w1.setCell ⟨R, 3, none⟩ (.iface 71 (.pointer (some ⟨W.heap.size + 1, 0, none⟩)))).setCell ⟨R, 4, none⟩ (.slice none 0 0)

theorem onceQ_block {R : Nat} {W w1 : World} {v : Value} (hR : W.heap[R]? = some (.cells (replCells 1 v) 51 (0, 0))) (ht : Tab W W.heap.size 2 w1) :
    ((w1.setCell ⟨R, 3, none⟩ (.iface 71 (.pointer (some ⟨W.heap.size + 1, 0, none⟩)))).setCell ⟨R, 4, none⟩ (.slice none 0 0)).heap[R]? =
      some (.cells #[.int .u32 0, .int .i32 1, .int .u32 0, .iface 71 (.pointer (some ⟨W.heap.size + 1, 0, none⟩)), .slice none 0 0] 51 (0, 0)) := by
  have hlt : R < W.heap.size := (Array.getElem?_eq_some_iff.1 hR).1
  have h1 : w1.heap[R]? = some (.cells (replCells 1 v) 51 (0, 0)) := (ht.bel.block R hlt).trans hR
  have h2 := heap_setCell_at w1 R 3 (.iface 71 (.pointer (some ⟨W.heap.size + 1, 0, none⟩))) _ 51 (0, 0) h1
  exact heap_setCell_at _ R 4 (.slice none 0 0) _ 51 (0, 0) h2

set_option maxRecDepth 100000 in
set_option maxHeartbeats 1000000 in
theorem replace24 (R g cap B0 : Nat) (s : ByteArray) (w : World) (hs : s.size ≤ 8388608) (hR : w.heap[R]? = some (.cells (replCells 0 (.slice (some ⟨g, 0, none⟩) 4 cap)) 51 (0, 0)))
    (hS : ∀ j u, S4[j]? = some u → w.cell? ⟨g, j, none⟩ = some u) (hg : g < w.heap.size) (hne : g ≠ R) (h0 : B0 ≤ R) :
    Calls Try.prog 24 #[.pointer (some ⟨R, 0, none⟩), .string s] w fun e w' => e = .returned (.string ⟨(esc s.data.toList).toArray⟩) ∧ Below B0 w w' := by
  have hRlt : R < w.heap.size := (Array.getElem?_eq_some_iff.1 hR).1
  obtain ⟨W, hW⟩ : ∃ W, W = w.setCell ⟨R, 1, none⟩ (.int .i32 1) := ⟨_, rfl⟩
  have hWs : W.heap.size = w.heap.size := by rw [hW]; exact size_setCell _ _ _
  have hWR : W.heap[R]? = some (.cells (replCells 1 (.slice (some ⟨g, 0, none⟩) 4 cap)) 51 (0, 0)) := by
    rw [hW]; exact heap_setCell_at w R 1 _ _ 51 (0, 0) hR
  have hWS : ∀ j u, S4[j]? = some u → W.cell? ⟨g, j, none⟩ = some u := by
    intro j u hj
    rw [hW, World.cell?_setCell_other _ _ _ _ (fun e => hne (by have := congrArg Addr.block e; simpa using this.symm))]
    exact hS j u hj
  have HC : Hid (Calls Try.prog 26 #[.pointer (some ⟨R, 0, none⟩)] (w.setCell ⟨R, 1, none⟩ (.int .i32 1)) fun e w' => e = .returned (.tuple #[]) ∧ OnceQ R W w') := by
    rw [← hW]; exact once26 R g cap W hWR hWS (by omega)
  have HQ : Hid (∀ w', OnceQ R W w' → w'.cell? ⟨R, 0, none⟩ = some (.int .u32 0) ∧ w'.cell? ⟨R, 1, none⟩ = some (.int .i32 1) ∧ w'.frozen? ⟨R, 0, none⟩ = false ∧ w'.frozen? ⟨R, 1, none⟩ = false) := by
    rintro w' ⟨w1, ht, rfl⟩
    have hb := onceQ_block hWR ht
    refine ⟨?_, ?_, ?_, ?_⟩
    · simp [World.cell?, hb]
    · simp [World.cell?, hb]
    · simp [World.frozen?, hb]
    · simp [World.frozen?, hb]
  have HD := do_first R w (OnceQ R W) (by simp [World.cell?, hR, replCells]) (by simp [World.cell?, hR, replCells]) (by simp [World.frozen?, hR]) HC HQ
  have HHD : Hid (Calls Try.prog 25 #[.pointer (some ⟨R, 0, none⟩), .func (.func 26) #[.pointer (some ⟨R, 0, none⟩)] #[]] w fun e w' => e = .returned (.tuple #[]) ∧
      ∃ w1, OnceQ R W w1 ∧ w' = (w1.drew.setCell ⟨R, 0, none⟩ (.int .u32 1)).setCell ⟨R, 1, none⟩ (.int .i32 0)) := HD
  have HF : Hid (∀ w1, OnceQ R W w1 → ((w1.drew.setCell ⟨R, 0, none⟩ (.int .u32 1)).setCell ⟨R, 1, none⟩ (.int .i32 0)).cell? ⟨R, 3, none⟩ = some (.iface 71 (.pointer (some ⟨w.heap.size + 1, 0, none⟩))) ∧
      Below B0 w ((w1.drew.setCell ⟨R, 0, none⟩ (.int .u32 1)).setCell ⟨R, 1, none⟩ (.int .i32 0)) ∧ ∃ g9 c9 g10 c10, Ready w.heap.size g9 c9 g10 c10 ((w1.drew.setCell ⟨R, 0, none⟩ (.int .u32 1)).setCell ⟨R, 1, none⟩ (.int .i32 0))) := by
    rintro w1 ⟨wt, ht, rfl⟩
    have hb := onceQ_block hWR ht
    rw [hWs] at ht hb
    have hts := ht.size
    refine ⟨?_, ?_, ?_⟩
    · rw [World.cell?_setCell_other _ _ _ _ (by simp), World.cell?_setCell_other _ _ _ _ (by simp), World.cell?_drew, hWs]
      simp [World.cell?, hb]
    · refine Below.setCell (Below.setCell (Below.drew (Below.setCell (Below.setCell ?_ h0 _) h0 _)) h0 _) h0 _
      have h1 : Below B0 w W := by rw [hW]; exact (Below.refl _ _).setCell h0 _
      exact h1.trans (ht.bel.mono (by omega))
    · refine ready_of_tab ht (fun j h1 h2 => ?_) ?_
      · rw [Below.heap_setCell _ _ _ _ (by simp; omega), Below.heap_setCell _ _ _ _ (by simp; omega)]
        show ((wt.setCell _ _).setCell _ _).heap[j]? = _
        rw [Below.heap_setCell _ _ _ _ (by simp; omega), Below.heap_setCell _ _ _ _ (by simp; omega)]
      · rw [size_setCell, size_setCell]
        show wt.heap.size ≤ ((wt.setCell _ _).setCell _ _).heap.size
        rw [size_setCell, size_setCell]; exact Nat.le_refl _
  have hmf : ∀ (fn : Fn) (first cap : Array Value) (w : World), (Instr.makeFunc fn first cap).run Try.prog w = .ok (.func fn first cap) w := fun _ _ _ _ => rfl
  clear hW hWs hWR hWS HC HQ HD hR hS
  go_enter Try.func24, Try.ntmps24
  go_wp2_with fail
  refine HHD.out.mono ?_
  rintro e w2 ⟨rfl, w1, hq, rfl⟩
  obtain ⟨f1, f2, g9, c9, g10, c10, f3⟩ := HF.out w1 hq
  generalize ((w1.drew.setCell ⟨R, 0, none⟩ (.int .u32 1)).setCell ⟨R, 1, none⟩ (.int .i32 0)) = W2 at *
  have HR3 : Hid (Ready w.heap.size g9 c9 g10 c10 W2) := f3
  have HB2 : Hid (Below B0 w W2) := f2
  clear f2 f3 hq
  have hm := method_replace
  go_wp2_with (go_at_call 91; refine (replace91 w.heap.size g9 c9 g10 c10 s _ hs HR3.out).mono ?_; rintro e w3 ⟨rfl, hb3⟩)
  go_ret
  exact ⟨rfl, HB2.out.trans (hb3.mono (by have := HB2.out.size; omega))⟩

set_option maxRecDepth 100000 in
set_option maxHeartbeats 1000000 in
/-- oneLine(s): each tab and each newline escaped. -/
theorem oneLine21 (s : ByteArray) (w : World) (hs : s.size ≤ 8388608) :
    Calls Try.prog 21 #[.string s] w fun e w' => e = .returned (.string ⟨(esc s.data.toList).toArray⟩) ∧ Below w.heap.size w w' := by
  have hcells : Hid (∀ j u, S4[j]? = some u → (w.alloc (.cells #[.string ⟨#[9]⟩, .string ⟨#[92, 117, 48, 48, 48, 57]⟩, .string ⟨#[10]⟩, .string ⟨#[92, 117, 48, 48, 48, 97]⟩] 9)).cell? ((⟨w.heap.size, 0, none⟩ : Addr).add j) = some u) := by
    intro j u hj
    have ea : (⟨w.heap.size, 0, none⟩ : Addr).add j = ⟨w.heap.size, j, none⟩ := by unfold Addr.add; split <;> simp_all
    rw [ea, World.cell?_alloc_new, ← hj]
    simp [S4]
  go_enter Try.func21, Try.ntmps21
  go_wp2_with (go_at_call 23; refine (newReplacer w.heap.size _ hcells).mono ?_; rintro e w' ⟨v, w1, rfl, hown, hgrow, rfl⟩)
  obtain ⟨g, cap, rfl⟩ := own_shape hown (by decide)
  have hlt := (hown.lt g rfl).2
  have hcs : ∀ j u, S4[j]? = some u → w1.cell? ⟨g, j, none⟩ = some u := by
    intro j u hj
    have := hown.cells (g := g) rfl j u hj
    have ea : (⟨g, 0, none⟩ : Addr).add j = ⟨g, j, none⟩ := by unfold Addr.add; split <;> simp_all
    rwa [ea] at this
  have hbel : Below w.heap.size w (w1.alloc (.cells #[.int .u32 0, .int .i32 0, .int .u32 0, .nilIface, .slice (some ⟨g, 0, none⟩) 4 cap] 51)) := by
    have h1 : Below w.heap.size w w1 := (((Below.refl _ _).alloc (Nat.le_refl _) _)).grown hgrow (by simp) (fun k hk => by cases hk)
    exact h1.alloc h1.size _
  have hsz : w.heap.size ≤ w1.heap.size := by have := hgrow.size; simp at this; omega
  have H24 := replace24 w1.heap.size g cap w.heap.size s (w1.alloc (.cells #[.int .u32 0, .int .i32 0, .int .u32 0, .nilIface, .slice (some ⟨g, 0, none⟩) 4 cap] 51)) hs (heap_alloc_last _ _)
    (fun j u hj => by rw [World.cell?_alloc_past _ _ _ hlt]; exact hcs j u hj) (by simp; omega) (by omega) hsz
  have HB : Hid (Below w.heap.size w (w1.alloc (.cells #[.int .u32 0, .int .i32 0, .int .u32 0, .nilIface, .slice (some ⟨g, 0, none⟩) 4 cap] 51))) := hbel
  clear hown hgrow hcs hbel
  refine H24.mono ?_
  rintro e w3 ⟨rfl, hb3⟩
  clear H24
  go_wp2_with fail
  go_ret
  exact ⟨rfl, HB.out.trans hb3⟩

theorem oneLine16 (s : ByteArray) (w : World) (hs : s.size ≤ 8388608) :
    Calls Try.prog 16 #[.string s] w fun e w' => e = .returned (.string ⟨(esc s.data.toList).toArray⟩) ∧ Below w.heap.size w w' := by
  go_enter Try.func16, Try.ntmps16
  go_wp2_with (go_at_call 21; refine (oneLine21 _ _ hs).mono ?_; rintro e w' ⟨rfl, hb⟩)
  go_ret
  exact ⟨rfl, hb⟩

/-! ### The law's own small functions -/
theorem ret_two' {k : IntKind} {a b a' b' : Int} (h : a = a') (h' : b = b') : Ending.returned (.tuple #[.int k a, .int k b]) = .returned (.tuple #[.int k a', .int k b']) := by rw [h, h']
/-- How many bytes c. -/
def cntB (c : UInt8) (l : List UInt8) : Nat := l.count c
theorem count_take (l : List UInt8) (k : Nat) (c : UInt8) (h : k < l.length) : cntB c (l.take (k + 1)) = cntB c (l.take k) + if l[k] = c then 1 else 0 := by
  unfold cntB
  rw [take_succ l k h, List.count_append]
  by_cases e : l[k] = c
  · simp [e]
  · simp [e]
set_option maxRecDepth 100000 in
set_option maxHeartbeats 400000 in
theorem tabsLines17 (s : ByteArray) (w : World) (hs : s.size ≤ 8388608) :
    Calls Try.prog 17 #[.string s] w fun e w' => e = .returned (.tuple #[.int .i64 (cntB 9 s.data.toList), .int .i64 (cntB 10 s.data.toList)]) ∧ w' = w := by
  have HL : Hid (s.data.toList.length = s.size) := by show _ = _; simp
  go_enter Try.func17, Try.ntmps17
  go_wp2
  go_loop [4, 5, 6] (fun a b i => ∃ k : Nat, k ≤ s.size ∧ i = .int .i64 k ∧ a = .int .i64 (cntB 9 (s.data.toList.take k)) ∧ b = .int .i64 (cntB 10 (s.data.toList.take k))) (fun _ _ i => s.size - (intOf i).toNat)
  case atStart => exact ⟨0, by omega, rfl, rfl, rfl⟩
  case round =>
    obtain ⟨k, hk, rfl, rfl, rfl⟩ := hrel
    have c9 : cntB 9 (s.data.toList.take k) ≤ k := Nat.le_trans List.count_le_length (List.length_take_le _ _)
    have c10 : cntB 10 (s.data.toList.take k) ≤ k := Nat.le_trans List.count_le_length (List.length_take_le _ _)
    by_cases hlt : k < s.size
    · have hkl : k < s.data.toList.length := by rw [HL.out]; exact hlt
      have H9 := count_take s.data.toList k 9 hkl
      have H10 := count_take s.data.toList k 10 hkl
      rw [show s.data.toList[k] = s[k] from rfl] at H9 H10
      have K9 : Hid (cntB 9 (s.data.toList.take (k + 1)) = cntB 9 (s.data.toList.take k) + if s[k] = 9 then 1 else 0) := H9
      have K10 : Hid (cntB 10 (s.data.toList.take (k + 1)) = cntB 10 (s.data.toList.take k) + if s[k] = 10 then 1 else 0) := H10
      clear H9 H10
      rcases byte_cases s[k] with h9 | h10 | ⟨h9, h10⟩
      · have q1 : ((s[k].toNat : Int) == 9) = true := by rw [h9]; rfl
        have q2 : ((s[k].toNat : Int) == 10) = false := by rw [h9]; rfl
        have HC : Hid (s[k] = 9) := h9
        clear h9
        go_wp2
        go_round
        case rel => exact ⟨k + 1, by omega, by go_num, by rw [K9.out, HC.out]; go_num, by rw [K10.out, HC.out]; simp⟩
        case measure => simp [intOf]; omega
      · have q1 : ((s[k].toNat : Int) == 9) = false := by rw [h10]; rfl
        have q2 : ((s[k].toNat : Int) == 10) = true := by rw [h10]; rfl
        have HC : Hid (s[k] = 10) := h10
        clear h10
        go_wp2
        go_round
        case rel => exact ⟨k + 1, by omega, by go_num, by rw [K9.out, HC.out]; simp, by rw [K10.out, HC.out]; go_num⟩
        case measure => simp [intOf]; omega
      · have q1 : ((s[k].toNat : Int) == 9) = false := by rw [beq_eq_false_iff_ne]; intro h; exact h9 (UInt8.toNat_inj.1 (by simpa using (by omega : s[k].toNat = 9)))
        have q2 : ((s[k].toNat : Int) == 10) = false := by rw [beq_eq_false_iff_ne]; intro h; exact h10 (UInt8.toNat_inj.1 (by simpa using (by omega : s[k].toNat = 10)))
        have HC : Hid (¬ s[k] = 9 ∧ ¬ s[k] = 10) := ⟨h9, h10⟩
        clear h9 h10
        go_wp2
        go_round
        case rel => exact ⟨k + 1, by omega, by go_num, by rw [K9.out, if_neg HC.out.1]; rfl, by rw [K10.out, if_neg HC.out.2]; rfl⟩
        case measure => simp [intOf]; omega
    · have HK : Hid (s.data.toList.take k = s.data.toList) := List.take_of_length_le (by rw [HL.out]; omega)
      go_wp2
      go_ret2
      exact ⟨ret_two' (a := (cntB 9 (s.data.toList.take k) : Nat)) (b := (cntB 10 (s.data.toList.take k) : Nat)) (by rw [HK.out]) (by rw [HK.out]), rfl⟩
end Go.Proofs.Qxb6616464a
