/-
  The plain mathematics of characters in a byte string: widths, positions after n characters, counts. No Go in sight.
-/
import Derived.Laws.RangeAny
namespace Go.Proofs.Qxb6616464a.Plain
open Go

/-- The byte at k, as a number (0 behind the end). -/
def bt (s : ByteArray) (k : Nat) : Nat := (s.get! k).toNat

theorem bt_eq (s : ByteArray) (k : Nat) (h : k < s.size) : bt s k = (s[k]'h).toNat := by
  have := get_at s k h
  rw [Nat.add_zero] at this
  rw [bt, this]

theorem bt_lt (s : ByteArray) (k : Nat) : bt s k < 256 := (s.get! k).toNat_lt

/-- The width of the character that begins with b0, n bytes being left. -/
def lw (n b0 b1 b2 b3 : Nat) : Nat :=
  if b0 < 194 then 1
  else if b0 ≤ 223 then (if 2 ≤ n ∧ 128 ≤ b1 ∧ b1 ≤ 191 then 2 else 1)
  else if b0 ≤ 239 then (if 3 ≤ n ∧ 128 ≤ b1 ∧ b1 ≤ 191 ∧ (b0 = 224 → 160 ≤ b1) ∧ (b0 = 237 → b1 ≤ 159) ∧ 128 ≤ b2 ∧ b2 ≤ 191 then 3 else 1)
  else if b0 ≤ 244 then (if 4 ≤ n ∧ 128 ≤ b1 ∧ b1 ≤ 191 ∧ (b0 = 240 → 144 ≤ b1) ∧ (b0 = 244 → b1 ≤ 143) ∧ 128 ≤ b2 ∧ b2 ≤ 191 ∧ 128 ≤ b3 ∧ b3 ≤ 191 then 4 else 1)
  else 1

/-- The width of the character at i. -/
def wd (s : ByteArray) (i : Nat) : Nat := lw (s.size - i) (bt s i) (bt s (i + 1)) (bt s (i + 2)) (bt s (i + 3))

set_option maxRecDepth 20000 in
theorem decode_wd (s : ByteArray) (i : Nat) : (Utf8.decode s i).2 = wd s i := by
  have h0 := bt_lt s i; have h1 := bt_lt s (i + 1); have h2 := bt_lt s (i + 2); have h3 := bt_lt s (i + 3)
  have e : ∀ k, (s.get! (i + k)).toNat = bt s (i + k) := fun _ => rfl
  have e0 : (s.get! i).toNat = bt s i := rfl
  simp only [Utf8.decode, e, e0, Nat.add_zero, wd]
  clear e e0
  generalize bt s (i + 3) = b3 at *
  generalize bt s (i + 2) = b2 at *
  generalize bt s (i + 1) = b1 at *
  generalize bt s i = b0 at *
  unfold lw
  have e1 : (decide (i + 1 < s.size)) = decide (2 ≤ s.size - i) := by rw [Bool.eq_iff_iff]; simp; omega
  have e2 : (decide (i + 2 < s.size)) = decide (3 ≤ s.size - i) := by rw [Bool.eq_iff_iff]; simp; omega
  have e3 : (decide (i + 3 < s.size)) = decide (4 ≤ s.size - i) := by rw [Bool.eq_iff_iff]; simp; omega
  rw [e1, e2, e3]
  generalize s.size - i = n at *
  clear e1 e2 e3
  have hv : ∀ c : Nat, Utf8.valid c = decide (c < 55296 ∨ (57344 ≤ c ∧ c ≤ 1114111)) := by
    intro c; unfold Utf8.valid; rw [Bool.eq_iff_iff]; simp only [Bool.and_eq_true, Bool.or_eq_true, decide_eq_true_eq]; omega
  simp only [hv, Bool.and_eq_true, decide_eq_true_eq, beq_iff_eq]
  clear hv
  by_cases c0 : b0 < 128
  · rw [if_pos c0, if_pos (by omega)]
  rw [if_neg c0]
  repeat' split
  all_goals first | rfl | omega

theorem lw_bounds (n b0 b1 b2 b3 : Nat) (h : 1 ≤ n) : 1 ≤ lw n b0 b1 b2 b3 ∧ lw n b0 b1 b2 b3 ≤ n := by
  unfold lw; repeat' split
  all_goals omega

theorem wd_pos (s : ByteArray) (i : Nat) (h : i < s.size) : 1 ≤ wd s i := (lw_bounds _ _ _ _ _ (by omega)).1
theorem wd_le (s : ByteArray) (i : Nat) (h : i < s.size) : i + wd s i ≤ s.size := by
  have := (lw_bounds (s.size - i) (bt s i) (bt s (i + 1)) (bt s (i + 2)) (bt s (i + 3)) (by omega)).2
  unfold wd; omega

theorem lw_ascii (n b0 b1 b2 b3 : Nat) (h : b0 < 128) : lw n b0 b1 b2 b3 = 1 := by
  unfold lw; rw [if_pos (by omega)]

/-- Two texts that have the same bytes below m: what the shorter one reads is what the longer one reads, or one byte. -/
theorem lw_cut (n m b0 b1 b2 b3 c1 c2 c3 : Nat) (hm : m ≤ n) (h1 : 1 ≤ m) (e1 : 1 < m → c1 = b1) (e2 : 2 < m → c2 = b2) (e3 : 3 < m → c3 = b3) :
    lw m b0 c1 c2 c3 = lw n b0 b1 b2 b3 ∨ (lw m b0 c1 c2 c3 = 1 ∧ m < lw n b0 b1 b2 b3) := by
  unfold lw
  by_cases g1 : 1 < m
  · have := e1 g1; subst this
    by_cases g2 : 2 < m
    · have := e2 g2; subst this
      by_cases g3 : 3 < m
      · have := e3 g3; subst this
        left; repeat' split
        all_goals first | rfl | omega
      · repeat' split
        all_goals omega
    · repeat' split
      all_goals omega
  · repeat' split
    all_goals omega

theorem bt_prefix (s : ByteArray) (m k : Nat) (hm : m ≤ s.size) (hk : k < m) : bt (s.extract 0 m) k = bt s k := by
  have h1 : k < (s.extract 0 m).size := by rw [ByteArray.size_extract]; omega
  rw [bt_eq _ _ h1, bt_eq s k (by omega), ByteArray.getElem_extract]
  simp

theorem size_prefix (s : ByteArray) (m : Nat) (hm : m ≤ s.size) : (s.extract 0 m).size = m := by
  rw [ByteArray.size_extract]; omega

theorem wd_cut (s : ByteArray) (m i : Nat) (hm : m ≤ s.size) (hi : i < m) :
    wd (s.extract 0 m) i = wd s i ∨ (wd (s.extract 0 m) i = 1 ∧ m < i + wd s i) := by
  have h := lw_cut (s.size - i) (m - i) (bt s i) (bt s (i + 1)) (bt s (i + 2)) (bt s (i + 3)) (bt (s.extract 0 m) (i + 1)) (bt (s.extract 0 m) (i + 2)) (bt (s.extract 0 m) (i + 3))
    (by omega) (by omega) (fun h => bt_prefix s m _ hm (by omega)) (fun h => bt_prefix s m _ hm (by omega)) (fun h => bt_prefix s m _ hm (by omega))
  unfold wd
  rw [size_prefix s m hm, bt_prefix s m i hm hi]
  omega

theorem bt_suffix (s : ByteArray) (a k : Nat) (hk : a + k < s.size) : bt (s.extract a s.size) k = bt s (a + k) := by
  have h1 : k < (s.extract a s.size).size := by rw [ByteArray.size_extract]; omega
  rw [bt_eq _ _ h1, bt_eq s (a + k) hk, ByteArray.getElem_extract]

theorem lw_same (n b0 b1 b2 b3 c1 c2 c3 : Nat) (e1 : 1 < n → c1 = b1) (e2 : 2 < n → c2 = b2) (e3 : 3 < n → c3 = b3) :
    lw n b0 c1 c2 c3 = lw n b0 b1 b2 b3 := by
  unfold lw
  repeat' split
  all_goals omega

theorem wd_suffix (s : ByteArray) (a k : Nat) (hk : a + k < s.size) : wd (s.extract a s.size) k = wd s (a + k) := by
  unfold wd
  have hz : (s.extract a s.size).size - k = s.size - (a + k) := by rw [ByteArray.size_extract]; omega
  rw [hz, bt_suffix s a k hk]
  refine lw_same _ _ _ _ _ _ _ _ (fun h => ?_) (fun h => ?_) (fun h => ?_)
  · rw [bt_suffix s a (k + 1) (by omega)]; rfl
  · rw [bt_suffix s a (k + 2) (by omega)]; rfl
  · rw [bt_suffix s a (k + 3) (by omega)]; rfl

/-! ### The place behind n characters; how many characters there are -/
def adv (s : ByteArray) : Nat → Nat → Nat
  | 0, i => i
  | n + 1, i => if i < s.size then adv s n (i + wd s i) else i

def cnt (s : ByteArray) : Nat → Nat → Nat
  | 0, _ => 0
  | f + 1, i => if i < s.size then cnt s f (i + wd s i) + 1 else 0

/-- The number of characters from i on. -/
def chars (s : ByteArray) (i : Nat) : Nat := cnt s s.size i

theorem cnt_fuel (s : ByteArray) : ∀ (f g i : Nat), s.size ≤ f + i → s.size ≤ g + i → cnt s f i = cnt s g i := by
  intro f
  induction f with
  | zero => intro g i hf hg; cases g with
    | zero => rfl
    | succ g => rw [cnt, cnt, if_neg (by omega)]
  | succ f ih => intro g i hf hg; cases g with
    | zero => rw [cnt, cnt, if_neg (by omega)]
    | succ g =>
      rw [cnt, cnt]
      by_cases h : i < s.size
      · have := wd_pos s i h
        rw [if_pos h, if_pos h, ih g _ (by omega) (by omega)]
      · rw [if_neg h, if_neg h]

theorem chars_end (s : ByteArray) (i : Nat) (h : s.size ≤ i) : chars s i = 0 := by
  unfold chars
  rw [cnt_fuel s s.size 0 i (by omega) (by omega)]; rfl

theorem chars_step (s : ByteArray) (i : Nat) (h : i < s.size) : chars s i = chars s (i + wd s i) + 1 := by
  have hp := wd_pos s i h
  unfold chars
  rw [cnt_fuel s s.size (s.size + 1) i (by omega) (by omega)]
  rw [cnt, if_pos h]

theorem chars_le (s : ByteArray) : ∀ (f i : Nat), cnt s f i + i ≤ s.size ∨ cnt s f i = 0 := by
  intro f
  induction f with
  | zero => intro i; right; rfl
  | succ f ih =>
    intro i; rw [cnt]
    by_cases h : i < s.size
    · rw [if_pos h]
      have := wd_pos s i h
      have := wd_le s i h
      have := ih (i + wd s i)
      omega
    · rw [if_neg h]; right; rfl

theorem chars_size (s : ByteArray) (i : Nat) : chars s i ≤ s.size := by
  have := chars_le s s.size i
  unfold chars; omega

theorem adv_ge (s : ByteArray) : ∀ (n i : Nat), i ≤ adv s n i := by
  intro n
  induction n with
  | zero => intro i; exact Nat.le_refl _
  | succ n ih => intro i; rw [adv]; split
                 · exact Nat.le_trans (Nat.le_add_right _ _) (ih _)
                 · exact Nat.le_refl _

theorem adv_le (s : ByteArray) : ∀ (n i : Nat), i ≤ s.size → adv s n i ≤ s.size := by
  intro n
  induction n with
  | zero => intro i h; exact h
  | succ n ih => intro i h; rw [adv]; split
                 · next h' => exact ih _ (wd_le s i h')
                 · exact h

/-- Characters add up. -/
theorem adv_sum (s : ByteArray) : ∀ (n i : Nat), chars s i = min n (chars s i) + chars s (adv s n i) := by
  intro n
  induction n with
  | zero => intro i; rw [adv]; omega
  | succ n ih =>
    intro i; rw [adv]
    by_cases h : i < s.size
    · rw [if_pos h]
      have := ih (i + wd s i)
      have := chars_step s i h
      omega
    · rw [if_neg h, chars_end s i (by omega)]; rfl

/-- A cut at or behind the place leaves the place. -/
theorem adv_cut (s : ByteArray) (m : Nat) (hm : m ≤ s.size) : ∀ (n i : Nat), adv s n i ≤ m → adv (s.extract 0 m) n i = adv s n i := by
  intro n
  induction n with
  | zero => intro i h; rfl
  | succ n ih =>
    intro i h
    have hz := size_prefix s m hm
    rw [adv] at h
    by_cases hi : i < s.size
    · rw [if_pos hi] at h
      have h1 := adv_ge s n (i + wd s i)
      have h2 := wd_pos s i hi
      have h3 := wd_cut s m i hm (by omega)
      have h4 : wd (s.extract 0 m) i = wd s i := by omega
      rw [adv, adv, if_pos hi, if_pos (by omega), h4]
      exact ih _ h
    · rw [if_neg hi] at h
      rw [adv, adv, if_neg hi, if_neg (by omega)]

/-- The prefix up to the place behind n characters has that many. -/
theorem chars_cut (s : ByteArray) (m : Nat) (hm : m ≤ s.size) : ∀ (n i : Nat), adv s n i = m → chars (s.extract 0 m) i = min n (chars s i) := by
  intro n
  induction n with
  | zero => intro i h; rw [adv] at h; rw [chars_end _ _ (by rw [size_prefix s m hm]; omega)]; omega
  | succ n ih =>
    intro i h
    have hz := size_prefix s m hm
    rw [adv] at h
    by_cases hi : i < s.size
    · rw [if_pos hi] at h
      have h1 := adv_ge s n (i + wd s i)
      have h2 := wd_pos s i hi
      have h3 := wd_cut s m i hm (by omega)
      have h4 : wd (s.extract 0 m) i = wd s i := by omega
      rw [chars_step s i hi, chars_step _ i (by omega), h4, ih _ h]
      omega
    · rw [if_neg hi] at h
      rw [chars_end _ _ (by omega), chars_end s i (by omega)]; omega

/-- A prefix's place lies at or ahead of the whole's. -/
theorem adv_prefix_le (s : ByteArray) (m : Nat) (hm : m ≤ s.size) : ∀ (n i : Nat), i ≤ m → adv (s.extract 0 m) n i ≤ adv s n i := by
  intro n
  induction n with
  | zero => intro i h; exact Nat.le_refl _
  | succ n ih =>
    intro i h
    have hz := size_prefix s m hm
    rw [adv, adv]
    by_cases hi : i < m
    · rw [if_pos (by omega), if_pos (by omega)]
      rcases wd_cut s m i hm hi with e | ⟨e, h5⟩
      · rw [e]
        by_cases h6 : i + wd s i ≤ m
        · exact ih _ h6
        · have := wd_le (s.extract 0 m) i (by omega)
          omega
      · have h1 := adv_ge s n (i + wd s i)
        have h2 := adv_le (s.extract 0 m) n (i + wd (s.extract 0 m) i) (wd_le _ i (by omega))
        omega
    · rw [if_neg (by omega)]
      split
      · exact Nat.le_trans (Nat.le_add_right _ _) (adv_ge s n _)
      · exact Nat.le_refl _

theorem chars_suffix (s : ByteArray) (a : Nat) (ha : a ≤ s.size) : ∀ (f k : Nat), s.size ≤ f + (a + k) → chars (s.extract a s.size) k = chars s (a + k) := by
  intro f
  have hz : (s.extract a s.size).size = s.size - a := by rw [ByteArray.size_extract]; omega
  induction f with
  | zero => intro k h; rw [chars_end _ _ (by omega), chars_end _ _ (by omega)]
  | succ f ih =>
    intro k h
    by_cases hk : a + k < s.size
    · have := wd_pos s (a + k) hk
      rw [chars_step _ k (by omega), chars_step s (a + k) hk, wd_suffix s a k hk, ih (k + wd s (a + k)) (by omega)]
      rw [Nat.add_assoc]
    · rw [chars_end _ _ (by omega), chars_end _ _ (by omega)]

/-! ### Well-formed text -/
def validB (s : ByteArray) : Nat → Nat → Bool
  | 0, _ => true
  | f + 1, i => if i < s.size then (if wd s i = 1 ∧ 128 ≤ bt s i then false else validB s f (i + wd s i)) else true

/-- In well-formed text a longer text reads the same characters. -/
theorem adv_valid (s : ByteArray) (m : Nat) (hm : m ≤ s.size) : ∀ (f n i : Nat), i ≤ m → m ≤ f + i → validB (s.extract 0 m) f i = true →
    (n ≤ chars (s.extract 0 m) i → adv s n i = adv (s.extract 0 m) n i) ∧ (chars (s.extract 0 m) i ≤ n → adv s n i = adv s (n - chars (s.extract 0 m) i) m) := by
  intro f
  have hz := size_prefix s m hm
  induction f with
  | zero =>
    intro n i h1 h2 _
    have : i = m := by omega
    subst this
    rw [chars_end _ _ (by omega)]
    refine ⟨fun h => ?_, fun _ => rfl⟩
    obtain rfl : n = 0 := by omega
    rfl
  | succ f ih =>
    intro n i h1 h2 hv
    by_cases hi : i < m
    · have hi' : i < (s.extract 0 m).size := by omega
      rw [validB, if_pos hi'] at hv
      by_cases hb : wd (s.extract 0 m) i = 1 ∧ 128 ≤ bt (s.extract 0 m) i
      · rw [if_pos hb] at hv; cases hv
      rw [if_neg hb] at hv
      have hp := wd_pos _ i hi'
      have hl := wd_le _ i hi'
      have e : wd (s.extract 0 m) i = wd s i := by
        rcases wd_cut s m i hm hi with e | ⟨e, h5⟩
        · exact e
        · have hb' : bt s i < 128 := by rw [bt_prefix s m i hm hi] at hb; omega
          have : wd s i = 1 := lw_ascii _ _ _ _ _ hb'
          omega
      obtain ⟨k1, k2⟩ := ih (n - 1) (i + wd (s.extract 0 m) i) (by omega) (by omega) hv
      rw [chars_step _ i hi']
      cases n with
      | zero => exact ⟨fun _ => rfl, fun h => by omega⟩
      | succ n =>
        rw [adv, adv, if_pos hi', if_pos (by omega), ← e]
        refine ⟨fun h => k1 (by omega), fun h => ?_⟩
        rw [show n + 1 - (chars (s.extract 0 m) (i + wd (s.extract 0 m) i) + 1) = n - chars (s.extract 0 m) (i + wd (s.extract 0 m) i) from by omega]
        exact k2 (by omega)
    · have : i = m := by omega
      subst this
      rw [chars_end _ _ (by omega)]
      refine ⟨fun h => ?_, fun _ => rfl⟩
      obtain rfl : n = 0 := by omega
      rfl

theorem adv_more (s : ByteArray) (n i : Nat) (hn : 1 ≤ n) (hi : i < s.size) : i < adv s n i := by
  cases n with
  | zero => omega
  | succ n => rw [adv, if_pos hi]
              have := wd_pos s i hi
              have := adv_ge s n (i + wd s i)
              omega
end Go.Proofs.Qxb6616464a.Plain
