/-
  (*strings.byteStringReplacer).Replace at the table of oneLine.
-/
import Derived.Test.Qxb6616464aBuild
import Derived.Test.Qxb6616464aEsc
import Derived.Deep.QuietTactic
import Derived.BigQuiet
import Derived.Deep.DeepCutAuto
import Derived.Laws.CopyOwn
namespace Go.Proofs.Qxb6616464a
open Go.RowKit
open Esc

theorem count93 (s : ByteArray) (c : UInt8) (w : World) :
    Calls Try.prog 93 #[.string s, .string ⟨#[c]⟩] w fun e w' => e = .returned (.int .i64 (s.data.toList.count c)) ∧ w' = w := by
  go_enter Try.func93, Try.ntmps93
  go_wp2
  rw [run_callFunc_extern Try.func95 (by kernel_rfl) (by kernel_rfl) (by kernel_rfl) (e := Extern.BytealgCount.count) (by kernel_rfl), Lib.run_countString]
  simp only [Result.andThen]
  rw [Oper.upon_value]
  go_wp2
  go_ret
  exact ⟨rfl, rfl⟩

theorem byte_cases (c : UInt8) : c = 9 ∨ c = 10 ∨ (¬ c = 9 ∧ ¬ c = 10) := by
  by_cases h : c = 9
  · exact Or.inl h
  · by_cases h' : c = 10
    · exact Or.inr (Or.inl h')
    · exact Or.inr (Or.inr ⟨h, h'⟩)
/-- The table is ready: what the walk asks of it. -/
structure Ready (B g9 c9 g10 c10 : Nat) (w : World) : Prop where
  r256 : w.cell? ⟨B + 1, 256, none⟩ = some (.slice (some ⟨B, 0, none⟩) 2 2)
  t0 : w.cell? ⟨B, 0, none⟩ = some (.string ⟨#[10]⟩)
  t1 : w.cell? ⟨B, 1, none⟩ = some (.string ⟨#[9]⟩)
  r9 : w.cell? ⟨B + 1, 9, none⟩ = some (.slice (some ⟨g9, 0, none⟩) 6 c9)
  r10 : w.cell? ⟨B + 1, 10, none⟩ = some (.slice (some ⟨g10, 0, none⟩) 6 c10)
  rest : ∀ j, j < 256 → j ≠ 9 → j ≠ 10 → w.cell? ⟨B + 1, j, none⟩ = some (.slice none 0 0)
  b9 : ∀ j, j < 6 → w.cell? ⟨g9, j, none⟩ = some (.int .u8 (e9.getD j 0).toNat)
  b10 : ∀ j, j < 6 → w.cell? ⟨g10, j, none⟩ = some (.int .u8 (e10.getD j 0).toNat)
  lt9 : g9 < w.heap.size
  lt10 : g10 < w.heap.size
  ltB : B + 1 < w.heap.size

def valsOf (l : List UInt8) : List Value := l.map fun c => Value.int .u8 (c.toNat : Int)
/-- The buffer after k bytes. -/
def buf (l : List UInt8) (k : Nat) : List Value := valsOf (esc (l.take k)) ++ List.replicate ((esc l).length - (esc (l.take k)).length) (.int .u8 0)
theorem vals_length (l : List UInt8) : (valsOf l).length = l.length := by simp [valsOf]
theorem esc_take_bound (l : List UInt8) (k : Nat) : (esc (l.take k)).length ≤ (esc l).length := by
  have e : esc l = esc (l.take k) ++ esc (l.drop k) := by rw [← esc_append, List.take_append_drop]
  rw [e]; simp
theorem buf_length (l : List UInt8) (k : Nat) : (buf l k).length = (esc l).length := by
  have := esc_take_bound l k
  simp [buf, vals_length]; omega
theorem buf_splice (l : List UInt8) (k : Nat) (h : k < l.length) : splice (buf l k) (esc (l.take k)).length (valsOf (escC l[k])) = buf l (k + 1) := by
  have h1 := esc_take_le l k h
  unfold splice buf
  rw [List.take_left' (vals_length _), vals_length, esc_take l k h]
  rw [show valsOf (esc (l.take k) ++ escC l[k]) = valsOf (esc (l.take k)) ++ valsOf (escC l[k]) from by simp [valsOf]]
  rw [List.append_assoc]
  congr 2
  rw [List.drop_append, vals_length, List.drop_of_length_le (by rw [vals_length]; omega), List.nil_append, List.drop_replicate]
  congr 1
  simp; omega
theorem buf_set (l : List UInt8) (k : Nat) (h : k < l.length) (c : UInt8) (hc : escC l[k] = [c]) : (buf l k).toArray.setIfInBounds (esc (l.take k)).length (.int .u8 (c.toNat : Int)) = (buf l (k + 1)).toArray := by
  rw [← buf_splice l k h, hc]
  have h1 := esc_take_le l k h
  rw [hc] at h1
  simp only [List.length_cons, List.length_nil] at h1
  apply Array.ext'
  have hb := buf_length l k
  simp only [Array.toList_setIfInBounds, splice, valsOf, List.map_cons, List.map_nil]
  rw [List.set_eq_take_append_cons_drop, if_pos (by omega)]
  rfl
theorem buf_end (l : List UInt8) : buf l l.length = valsOf (esc l) := by simp [buf]
theorem buf_zero (l : List UInt8) : buf l 0 = List.replicate (esc l).length (.int .u8 0) := by simp [buf, esc, valsOf]
theorem buf_cell (l : List UInt8) (k : Nat) (h : (esc (l.take k)).length < (esc l).length) : (buf l k)[(esc (l.take k)).length]? = some (.int .u8 0) := by
  unfold buf
  rw [List.getElem?_append_right (by rw [vals_length]; omega), vals_length, Nat.sub_self, List.getElem?_replicate, if_pos (by omega)]
theorem wrap_six (J n : Nat) (l : List UInt8) (hl : l.length = 6) (h : J + 6 ≤ n) (hn : n ≤ 100000000) : Value.int .i64 (wrap64 ((J : Int) + ((valsOf l).length : Nat))) = .int .i64 ((J + l.length : Nat) : Int) := by
  rw [vals_length, hl]; congr 1; unfold wrap64; omega
theorem made_row {w' : World} {g n base : Nat} (h : w'.ownsRow base 5 1 (.slice (some ⟨g, 0, none⟩) n n) n (madeCells (Value.int .u8 0).cells (n * 1)).toList) :
    w'.heap[g]? = some (.cells (List.replicate n (.int .u8 0)).toArray 5 (0, 0)) := by
  rcases h.2 with ⟨h1, _⟩ | ⟨g', cap, cur, hv, _, hh, _, _, hs, ht⟩
  · cases h1
  · simp only [Value.slice.injEq, Option.some.injEq, Addr.mk.injEq] at hv
    obtain ⟨⟨rfl, _⟩, _, rfl⟩ := hv
    rw [hh]
    congr 2
    apply Array.ext'
    rw [List.take_of_length_le (by simp [hs])] at ht
    rw [ht]
    simp only [madeCells, Nat.mul_one, Array.toList_map, Array.toList_range]
    apply List.ext_getElem
    · simp
    · intro i h1 h2
      simp [Value.cells, Nat.mod_one]
theorem Try.info5 : (Try.prog.info? 5).map (fun i => (i.zero, i.size, i.bytes)) = some (some (.int .u8 0), 1, 1) := by kernel_rfl

set_option maxRecDepth 100000 in
set_option maxHeartbeats 2000000 in
theorem replace91 (B g9 c9 g10 c10 : Nat) (s : ByteArray) (w : World) (hs : s.size ≤ 8388608) (hr : Ready B g9 c9 g10 c10 w) :
    Calls Try.prog 91 #[.pointer (some ⟨B + 1, 0, none⟩), .string s] w fun e w' => e = .returned (.string ⟨(esc s.data.toList).toArray⟩) ∧ Below w.heap.size w w' := by
  have r256 := hr.r256
  have HR : Hid (Ready B g9 c9 g10 c10 w) := hr
  clear hr
  have hbl := brk_le s.data.toList
  have hll : s.data.toList.length = s.size := by simp
  go_enter Try.func91, Try.ntmps91
  go_upto_if 26 with fail
  go_cut [5, 6] (fun n a w' => n = .int .i64 ((s.size : Int) + 5 * (brk s.data.toList : Nat)) ∧ a = .bool (decide (brk s.data.toList ≠ 0)) ∧ ∃ q, w' = w.drewN q)
  case first =>
    have Hll : Hid (s.data.toList.length = s.size) := hll
    clear hll
    by_cases h16 : (16 : Int) ≤ s.size
    · have t0 := HR.out.t0
      have t1 := HR.out.t1
      have r9 := HR.out.r9
      have r10 := HR.out.r10
      have v10 : ((⟨#[10]⟩ : ByteArray)[0]'(by decide)).toNat = 10 := rfl
      have v9 : ((⟨#[9]⟩ : ByteArray)[0]'(by decide)).toNat = 9 := rfl
      obtain ⟨a, ha⟩ : ∃ a, s.data.toList.count 10 = a := ⟨_, rfl⟩
      obtain ⟨b, hb⟩ : ∃ b, s.data.toList.count 9 = b := ⟨_, rfl⟩
      have HA : Hid (s.data.toList.count 10 = a) := ha
      have HB : Hid (s.data.toList.count 9 = b) := hb
      have HS : Hid (brk s.data.toList = b + a) := by show _ = _; unfold brk; rw [ha, hb]
      rw [HS.out] at hbl
      rw [Hll.out] at hbl
      clear ha hb
      by_cases a0 : a = 0
      · by_cases b0 : b = 0
        · subst a0 b0
          go_wp2_with fail
          refine wp_loop_rounds 3 ?_
          rw [rounds_succ]
          go_wp2_with (go_at_call 93; refine (count93 s 10 _).mono ?_; rw [HA.out]; rintro e w' ⟨rfl, rfl⟩)
          rw [rounds_succ]
          go_wp2_with (go_at_call 93; refine (count93 s 9 _).mono ?_; rw [HB.out]; rintro e w' ⟨rfl, rfl⟩)
          rw [rounds_succ]
          go_wp2_with fail
          go_meet
          case rel => exact ⟨by rw [HS.out]; go_num, by rw [HS.out]; rfl, 0, rfl⟩
        · subst a0
          have nb : (((b : Nat) : Int) != 0) = true := by rw [bne_iff_ne]; omega
          have HB0 : Hid (¬ b = 0) := b0
          clear b0
          go_wp2_with fail
          refine wp_loop_rounds 3 ?_
          rw [rounds_succ]
          go_wp2_with (go_at_call 93; refine (count93 s 10 _).mono ?_; rw [HA.out]; rintro e w' ⟨rfl, rfl⟩)
          rw [rounds_succ]
          go_wp2_with (go_at_call 93; refine (count93 s 9 _).mono ?_; rw [HB.out]; rintro e w' ⟨rfl, rfl⟩)
          go_quiet (fail)
          go_wp2_with fail
          rw [rounds_succ]
          go_wp2_with fail
          go_meet
          case rel => exact ⟨by rw [HS.out]; go_num, by rw [HS.out]; have := HB0.out; simp; omega, _, rfl⟩
      · by_cases b0 : b = 0
        · subst b0
          have na : (((a : Nat) : Int) != 0) = true := by rw [bne_iff_ne]; omega
          have HA0 : Hid (¬ a = 0) := a0
          clear a0
          go_wp2_with fail
          refine wp_loop_rounds 3 ?_
          rw [rounds_succ]
          go_wp2_with (go_at_call 93; refine (count93 s 10 _).mono ?_; rw [HA.out]; rintro e w' ⟨rfl, rfl⟩)
          go_quiet (fail)
          go_wp2_with fail
          rw [rounds_succ]
          go_wp2_with (go_at_call 93; refine (count93 s 9 _).mono ?_; rw [HB.out]; rintro e w' ⟨rfl, rfl⟩)
          rw [rounds_succ]
          go_wp2_with fail
          go_meet
          case rel => exact ⟨by rw [HS.out]; go_num, by rw [HS.out]; have := HA0.out; simp; omega, _, rfl⟩
        · have na : (((a : Nat) : Int) != 0) = true := by rw [bne_iff_ne]; omega
          have nb : (((b : Nat) : Int) != 0) = true := by rw [bne_iff_ne]; omega
          have HA0 : Hid (¬ a = 0) := a0
          clear a0 b0
          go_wp2_with fail
          refine wp_loop_rounds 3 ?_
          rw [rounds_succ]
          go_wp2_with (go_at_call 93; refine (count93 s 10 _).mono ?_; rw [HA.out]; rintro e w' ⟨rfl, rfl⟩)
          go_quiet (fail)
          go_wp2_with fail
          rw [rounds_succ]
          go_wp2_with (go_at_call 93; refine (count93 s 9 _).mono ?_; rw [HB.out]; rintro e w' ⟨rfl, rfl⟩)
          go_quiet (fail)
          go_wp2_with fail
          rw [rounds_succ]
          go_wp2_with fail
          go_meet
          case rel => exact ⟨by rw [HS.out]; go_num, by rw [HS.out]; have := HA0.out; simp; omega, _, rfl⟩
    · have r9 := HR.out.r9
      have r10 := HR.out.r10
      have HBL : Hid (brk s.data.toList ≤ s.data.toList.length) := hbl
      clear hbl r256
      go_wp2_with fail
      go_loop [5, 6, 10, 11] (fun n a i b => ∃ k : Nat, k ≤ s.size ∧ i = .int .i64 k ∧ n = .int .i64 ((s.size : Int) + 5 * (brk (s.data.toList.take k) : Nat)) ∧ a = .bool (decide (brk (s.data.toList.take k) ≠ 0))) (fun _ _ i _ => s.size - (intOf i).toNat)
      case atStart => exact ⟨0, by omega, rfl, by simp [brk], by simp [brk]⟩
      case round =>
        obtain ⟨k, hk, rfl, rfl, rfl⟩ := hrel
        have hlt8 := brk_take_le s.data.toList k
        have hle9 := HBL.out
        rw [Hll.out] at hle9
        by_cases hlt : k < s.size
        · have hkl : k < s.data.toList.length := by rw [Hll.out]; exact hlt
          have HT : Hid (brk (s.data.toList.take (k + 1)) = brk (s.data.toList.take k) + if s.data.toList[k] = 9 ∨ s.data.toList[k] = 10 then 1 else 0) := brk_take _ k hkl
          have HE : Hid (s.data.toList[k] = s[k]) := rfl
          have hb256 : s[k].toNat < 256 := s[k].toNat_lt
          rcases byte_cases s[k] with h9 | h10 | ⟨h9, h10⟩
          · have HC : Hid (s[k] = 9) := h9
            have e : s[k].toNat = 9 := by rw [h9]; rfl
            clear h9
            go_wp2_with fail
            go_round
            case rel => exact ⟨k + 1, by omega, by go_num, by rw [HT.out, HE.out, HC.out]; go_num, by rw [HT.out, HE.out, HC.out]; simp⟩
            case measure => simp [intOf]; omega
          · have HC : Hid (s[k] = 10) := h10
            have e : s[k].toNat = 10 := by rw [h10]; rfl
            clear h10
            go_wp2_with fail
            go_round
            case rel => exact ⟨k + 1, by omega, by go_num, by rw [HT.out, HE.out, HC.out]; go_num, by rw [HT.out, HE.out, HC.out]; simp⟩
            case measure => simp [intOf]; omega
          · have rc := HR.out.rest s[k].toNat hb256 (fun h => h9 (UInt8.toNat_inj.1 h)) (fun h => h10 (UInt8.toNat_inj.1 h))
            have HC : Hid (¬ (s[k] = 9 ∨ s[k] = 10)) := fun h => h.elim h9 h10
            clear h9 h10
            go_wp2_with fail
            go_round
            case rel => exact ⟨k + 1, by omega, by go_num, by rw [HT.out, HE.out, if_neg HC.out]; go_num, by rw [HT.out, HE.out, if_neg HC.out]; simp⟩
            case measure => simp [intOf]; omega
        · have hke : k = s.size := by omega
          have HK : Hid (s.data.toList.take k = s.data.toList) := List.take_of_length_le (by rw [Hll.out]; omega)
          clear hke
          go_wp2_with fail
          go_meet
          case rel => exact ⟨by rw [HK.out], by rw [HK.out]; simp, 0, rfl⟩
  case rest =>
    obtain ⟨rfl, rfl, q, rfl⟩ := hcut
    by_cases hz0 : brk s.data.toList = 0
    · have hd : decide (brk s.data.toList ≠ 0) = false := by simpa using hz0
      have HF : Hid (esc s.data.toList = s.data.toList) := esc_same _ hz0
      clear hz0 hbl hll r256
      go_wp2
      go_ret
      exact ⟨by rw [HF.out]; rfl, below_drewN (Below.refl _ _) _⟩
    · have hd : decide (brk s.data.toList ≠ 0) = true := by simpa using hz0
      have hN : (esc s.data.toList).length = s.size + 5 * brk s.data.toList := by rw [esc_length, hll]
      have HN : Hid ((esc s.data.toList).length = s.size + 5 * brk s.data.toList) := hN
      obtain ⟨i0, hi, hz1, hz2, hz3⟩ := info_parts Try.info5
      rw [hll] at hbl
      clear hz0 hN hll r256
      go_wp2_with (refine wpList_make_full _ rfl _ _ 67 rfl w.heap.size 5 i0 (.int .u8 0) 1 Try.underlying67 hi hz1 hz2 .i64 .i64 _ _ (esc s.data.toList).length rfl rfl (by rw [HN.out]; omega) (by rw [HN.out]; omega) (by rw [hz3, HN.out]; omega) (by rw [HN.out]; unfold maxLen; omega) (by simp) ?_; intro w2 hown2 hgrow2)
      have H2 : Hid (w2.heap[w.heap.size]? = some (.cells (buf s.data.toList 0).toArray 5 (0, 0))) := by
        show _ = _
        rw [buf_zero]; exact made_row hown2
      have HB2 : Hid (Below w.heap.size w w2) := (below_drewN (Below.refl _ _) q).grown hgrow2 (by simp) (fun k hk => by cases hk)
      clear hown2 hgrow2
      have HL : Hid (s.data.toList.length = s.size) := by show _ = _; simp
      obtain ⟨N, hNe⟩ : ∃ N, (esc s.data.toList).length = N := ⟨_, rfl⟩
      have HNe : Hid ((esc s.data.toList).length = N) := hNe
      have hNb : N = s.size + 5 * brk s.data.toList := by rw [← hNe]; exact HN.out
      rw [hNe]
      clear hNe HN
      obtain ⟨hN1, hN2⟩ : s.size ≤ N ∧ N ≤ 6 * s.size := by omega
      clear hNb
      go_loopw [13, 14, 15] (fun j i b wr => ∃ k : Nat, k ≤ s.size ∧ i = .int .i64 k ∧ j = .int .i64 (esc (s.data.toList.take k)).length ∧ wr.heap[w.heap.size]? = some (.cells (buf s.data.toList k).toArray 5 (0, 0)) ∧ Below w.heap.size w wr) (fun _ i _ _ => s.size - (intOf i).toNat)
      case atStart => exact ⟨0, by omega, rfl, by simp [esc], H2.out, HB2.out⟩
      case round =>
        obtain ⟨k, hk, rfl, rfl, hbuf, hbel⟩ := hrel
        have HBUF : Hid (wr.heap[w.heap.size]? = some (.cells (buf s.data.toList k).toArray 5 (0, 0))) := hbuf
        have HBEL : Hid (Below w.heap.size w wr) := hbel
        clear hbuf hbel H2 HB2
        by_cases hlt : k < s.size
        · have hkl : k < s.data.toList.length := by rw [HL.out]; exact hlt
          have hJ := esc_take_le s.data.toList k hkl
          rw [HNe.out] at hJ
          have HE : Hid (s.data.toList[k] = s[k]) := rfl
          have hb256 : s[k].toNat < 256 := s[k].toNat_lt
          obtain ⟨J, hJe⟩ : ∃ J, (esc (s.data.toList.take k)).length = J := ⟨_, rfl⟩
          have HJ : Hid ((esc (s.data.toList.take k)).length = J) := hJe
          rw [hJe] at hJ ⊢
          clear hJe
          rcases byte_cases s[k] with h9 | h10 | ⟨h9, h10⟩
          · have r9 := (HBEL.out.cell (p := ⟨B + 1, 9, none⟩) HR.out.ltB).trans HR.out.r9
            have HC : Hid (escC s.data.toList[k] = e9) := by show _ = _; rw [HE.out, h9]; rfl
            rw [HC.out] at hJ
            have e : s[k].toNat = 9 := by rw [h9]; rfl
            have hJ6 : J + 6 ≤ N := hJ
            clear h9 hJ
            have hsrc : Hid (∀ j v, (valsOf e9)[j]? = some v → wr.cell? ((⟨g9, 0, none⟩ : Addr).add j) = some v) := by
              intro j v hv
              have hj : j < 6 := by have := (List.getElem?_eq_some_iff.1 hv).1; simpa [valsOf, e9] using this
              have ea : (⟨g9, 0, none⟩ : Addr).add j = ⟨g9, j, none⟩ := by unfold Addr.add; split <;> simp_all
              rw [ea, HBEL.out.cell (p := ⟨g9, j, none⟩) HR.out.lt9, HR.out.b9 j hj]
              rw [← hv]
              simp [valsOf, e9] at hj ⊢
              match j, hj with
              | 0, _ => rfl
              | 1, _ => rfl
              | 2, _ => rfl
              | 3, _ => rfl
              | 4, _ => rfl
              | 5, _ => rfl
            have hJi : (J : Int) ≤ N := by omega
            have hne : ¬ N = J := by omega
            go_wp2_with fail
            go_region_law (refine step_copy_splice rfl (.tmp 105) (.tmp 111) 67 67 rfl 5 Try.underlying67 (by rw [hi]; simp [hz2]) (some ⟨w.heap.size, J, none⟩) (some ⟨g9, 0, none⟩) (N - J) (N - J) 6 c9 (by simp [Act.eval]) (by simp [Act.eval]) w.heap.size J (buf s.data.toList k) 5 HBUF.out (valsOf e9) (by show 6 = min 6 (N - J); omega) (fun _ => ⟨rfl, _, rfl, hsrc.out⟩) (by rw [buf_length, HNe.out]; exact hJ6) (by decide) w.heap.size w HBEL.out.drew (Nat.le_refl _) ?_; intro w3 hb3 hbel3)
            have HW3 : Hid (w3.heap[w.heap.size]? = some (.cells (buf s.data.toList (k + 1)).toArray 5 (0, 0))) := by
              show _ = _
              rw [hb3.out, ← HJ.out, ← HC.out, buf_splice _ k hkl]
            have HBL3 : Hid (Below w.heap.size w w3) := hbel3
            clear hb3 hbel3
            go_wp2_with fail
            go_roundw
            case rel => exact ⟨k + 1, by omega, by go_num, by rw [esc_take _ k hkl, List.length_append, HJ.out, HC.out]; exact wrap_six J N _ rfl hJ6 (by omega), HW3.out, HBL3.out⟩
            case measure => simp [intOf]; omega
          · have r10 := (HBEL.out.cell (p := ⟨B + 1, 10, none⟩) HR.out.ltB).trans HR.out.r10
            have HC : Hid (escC s.data.toList[k] = e10) := by show _ = _; rw [HE.out, h10]; rfl
            rw [HC.out] at hJ
            have e : s[k].toNat = 10 := by rw [h10]; rfl
            have hJ6 : J + 6 ≤ N := hJ
            clear h10 hJ
            have hsrc : Hid (∀ j v, (valsOf e10)[j]? = some v → wr.cell? ((⟨g10, 0, none⟩ : Addr).add j) = some v) := by
              intro j v hv
              have hj : j < 6 := by have := (List.getElem?_eq_some_iff.1 hv).1; simpa [valsOf, e10] using this
              have ea : (⟨g10, 0, none⟩ : Addr).add j = ⟨g10, j, none⟩ := by unfold Addr.add; split <;> simp_all
              rw [ea, HBEL.out.cell (p := ⟨g10, j, none⟩) HR.out.lt10, HR.out.b10 j hj]
              rw [← hv]
              simp [valsOf, e10] at hj ⊢
              match j, hj with
              | 0, _ => rfl
              | 1, _ => rfl
              | 2, _ => rfl
              | 3, _ => rfl
              | 4, _ => rfl
              | 5, _ => rfl
            have hJi : (J : Int) ≤ N := by omega
            have hne : ¬ N = J := by omega
            go_wp2_with fail
            go_region_law (refine step_copy_splice rfl (.tmp 105) (.tmp 111) 67 67 rfl 5 Try.underlying67 (by rw [hi]; simp [hz2]) (some ⟨w.heap.size, J, none⟩) (some ⟨g10, 0, none⟩) (N - J) (N - J) 6 c10 (by simp [Act.eval]) (by simp [Act.eval]) w.heap.size J (buf s.data.toList k) 5 HBUF.out (valsOf e10) (by show 6 = min 6 (N - J); omega) (fun _ => ⟨rfl, _, rfl, hsrc.out⟩) (by rw [buf_length, HNe.out]; exact hJ6) (by decide) w.heap.size w HBEL.out.drew (Nat.le_refl _) ?_; intro w3 hb3 hbel3)
            have HW3 : Hid (w3.heap[w.heap.size]? = some (.cells (buf s.data.toList (k + 1)).toArray 5 (0, 0))) := by
              show _ = _
              rw [hb3.out, ← HJ.out, ← HC.out, buf_splice _ k hkl]
            have HBL3 : Hid (Below w.heap.size w w3) := hbel3
            clear hb3 hbel3
            go_wp2_with fail
            go_roundw
            case rel => exact ⟨k + 1, by omega, by go_num, by rw [esc_take _ k hkl, List.length_append, HJ.out, HC.out]; exact wrap_six J N _ rfl hJ6 (by omega), HW3.out, HBL3.out⟩
            case measure => simp [intOf]; omega
          · have rc := (HBEL.out.cell (p := ⟨B + 1, s[k].toNat, none⟩) HR.out.ltB).trans (HR.out.rest s[k].toNat hb256 (fun h => h9 (UInt8.toNat_inj.1 h)) (fun h => h10 (UInt8.toNat_inj.1 h)))
            have HC : Hid (escC s.data.toList[k] = [s[k]]) := by show _ = _; rw [HE.out]; simp [escC, h9, h10]
            rw [HC.out] at hJ
            simp only [List.length_cons, List.length_nil] at hJ
            have hJi : (J : Int) < N := by omega
            have qc : wr.cell? ⟨w.heap.size, J, none⟩ = some (.int .u8 0) := by
              have := buf_cell s.data.toList k (by rw [HJ.out, HNe.out]; omega)
              rw [HJ.out] at this
              simp [World.cell?, HBUF.out, this]
            have qf : wr.frozen? ⟨w.heap.size, J, none⟩ = false := by simp [World.frozen?, HBUF.out]
            clear h9 h10
            go_wp2_with fail
            go_roundw
            case rel => exact ⟨k + 1, by omega, by go_num, by rw [esc_take _ k hkl, List.length_append, HJ.out, HC.out]; go_num, by rw [heap_setCell_at _ _ _ _ _ _ _ HBUF.out, ← HJ.out, buf_set _ k hkl s[k] HC.out], HBEL.out.setCell (Nat.le_refl _) _⟩
            case measure => simp [intOf]; omega
        · have hke : k = s.data.toList.length := by rw [HL.out]; omega
          have hcv : (convert 67 9 (.slice (some ⟨w.heap.size, 0, none⟩) N N)).run Try.prog wr = .ok (.string ⟨(esc s.data.toList).toArray⟩) wr := by
            have := run_convert_bytes_back (P := Try.prog) wr 67 9 5 ⟨w.heap.size, 0, none⟩ N (esc s.data.toList) Try.underlying67 Try.underlying5 Try.underlying9 (fun j hj => by
              have ea : (⟨w.heap.size, 0, none⟩ : Addr).add j = ⟨w.heap.size, j, none⟩ := by unfold Addr.add; split <;> simp_all
              have hb := HBUF.out
              rw [hke, buf_end] at hb
              rw [ea]
              simp [World.cell?, hb, valsOf, hj])
            rw [HNe.out] at this
            exact this
          clear hke
          go_wp2_with fail
          go_ret
          exact ⟨rfl, HBEL.out⟩
end Go.Proofs.Qxb6616464a
