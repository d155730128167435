/-
  The walk of groupNames.
-/
import Derived.Test.Qxb6616383aTables
import Derived.Test.Qxb6616383aAppend
namespace Go.Proofs.Qxb6616383a
open Go.RowKit
open Plain
theorem memb_le (grp : Nat → Nat) (n c : Nat) : (memb grp n c).length ≤ n := by rw [memb_len]; exact cnt_le _ _ _
theorem memb_get {grp : Nat → Nat} {n c j : Nat} (hj : j < (memb grp n c).length) : (memb grp n c).getD j 0 < n ∧ grp ((memb grp n c).getD j 0) = c := by
  have : (memb grp n c).getD j 0 ∈ memb grp n c := by
    rw [List.getD_eq_getElem?_getD, List.getElem?_eq_getElem hj]
    exact List.getElem_mem hj
  exact mem_memb.1 this
set_option maxRecDepth 100000 in
set_option maxHeartbeats 4000000 in
theorem gnames_any (w : World) (K b : Nat) (F : Nat → Value) (n G : Nat) (N : Nat → ByteArray) (D : Nat → List Nat) (grp : Nat → Nat) (NB LD AD GB LM AM : Nat) (hT : Tables w K b F n G N D grp NB LD AD GB LM AM) (hn : n ≤ 100000) (c : Nat) (hc : c < G) (hK : K ≤ w.heap.size) :
    Calls Try.prog 20 #[.pointer (some ⟨b, 0, none⟩), .int .i64 (c : Nat)] w fun e w' => e = .returned (.slice (some ⟨w.heap.size, 0, none⟩) (memb grp n c).length (memb grp n c).length) ∧ Arr w' w.heap.size 9 (memb grp n c).length (sv (fun i => N ((memb grp n c).getD i 0))) ∧ New w w' := by
  have c9 := hT.g.cell (i := 9) (by omega)
  rw [hT.f9] at c9
  obtain ⟨l, hl⟩ : ∃ l, l = memb grp n c := ⟨_, rfl⟩
  have hlen := memb_le grp n c
  obtain ⟨ao, cc, o, e1, e2, e3⟩ := hT.hM.at_ hc
  have hget : ∀ j, j < (memb grp n c).length → (memb grp n c).getD j 0 < n := fun j hj => (memb_get hj).1
  rw [← hl] at hlen e1 e2 e3 hget ⊢
  have HT : Hid (Tables w K b F n G N D grp NB LD AD GB LM AM) := hT
  have HE3 : Hid (∀ j, j < l.length → w.cell? ⟨AM, o + j, none⟩ = some (.int .i64 ((l.getD j 0 : Nat) : Int))) := e3
  have HGET : Hid (∀ j, j < l.length → l.getD j 0 < n) := hget
  have HE2 : Hid (l.length = 0 ∨ ao = some ⟨AM, o, none⟩) := e2
  clear hT e3 hget e2 hl
  obtain ⟨m, hm⟩ : ∃ m, m = l.length := ⟨_, rfl⟩
  rw [← hm] at e1 hlen ⊢
  have HM : Hid (m = l.length) := hm
  clear hm
  go_enter Try.func20, Try.ntmps20
  go_upto_region 2 with (
    refine make_arr w rfl _ _ 22 rfl 9 (.string ⟨#[]⟩) 16 Try.underlying22 Try.info9 rfl .i64 .i64 _ _ m rfl rfl rfl rfl (by omega) (by unfold maxLen; omega) ?_
    intro w5 hA5 hN5)
  have HT5 : Hid (Tables w5 K b F n G N D grp NB LD AD GB LM AM) := HT.out.below (hN5.out.below.mono (by omega))
  have c95 := HT5.out.g.cell (i := 9) (by omega)
  rw [HT5.out.f9] at c95
  have e15 : w5.cell? ⟨LM, c, none⟩ = some (.slice ao m cc) := by
    rw [hN5.out.below.cell (World.block_lt_of_cell? w _ e1)]; exact e1
  go_wp2_with fail
  go_loopg [25] m (fun z ci wr => ∃ (k : Nat) (g : Nat → ByteArray), z = m - k ∧ k ≤ m ∧ ci = .int .i64 k ∧ Hid (Arr wr w.heap.size 9 m (sv g)) ∧ Hid (∀ i, i < k → g i = N (l.getD i 0)) ∧ Hid (New w wr))
  case atStart => exact ⟨0, fun _ => ⟨#[]⟩, by omega, by omega, rfl, hA5, fun i hi => by omega, hN5⟩
  case round =>
    obtain ⟨k, g, rfl, hk, rfl, hA, hg, hN⟩ := hrel
    by_cases hkm : k < m
    · obtain rfl : ao = some ⟨AM, o, none⟩ := HE2.out.resolve_left (by rw [← HM.out]; omega)
      have hkl : k < l.length := by rw [← HM.out]; exact hkm
      have HTr : Hid (Tables wr K b F n G N D grp NB LD AD GB LM AM) := HT.out.below (hN.out.below.mono (by omega))
      have c4 := HTr.out.g.cell (i := 4) (by omega)
      rw [HTr.out.f4] at c4
      have ca : wr.cell? ⟨AM, o + k, none⟩ = some (.int .i64 ((l.getD k 0 : Nat) : Int)) := by
        have := HE3.out k hkl
        rw [hN.out.below.cell (World.block_lt_of_cell? w _ this)]; exact this
      obtain ⟨x, hx⟩ : ∃ x, x = l.getD k 0 := ⟨_, rfl⟩
      have hxn : x < n := by rw [hx]; exact HGET.out k hkl
      rw [← hx] at ca
      have cN := HTr.out.hN.cell hxn
      rw [show sv N x = .string (N x) from rfl] at cN
      have fA := hA.out.free k
      have cA := hA.out.cell hkm
      have HX : Hid (x = l.getD k 0) := hx
      clear hx
      go_wp2_with fail
      go_roundg (m - (k + 1))
      case measure => omega
      case rel =>
        refine ⟨k + 1, upd g k (N x), rfl, by omega, by go_num, ?_, ?_, ?_⟩
        · have := hA.out.set k (.string (N x))
          rw [upd_sv] at this
          exact this
        · intro i hi
          simp only [upd]
          by_cases e : i = k
          · rw [if_pos e, e, HX.out]
          · rw [if_neg e]; exact hg.out i (by omega)
        · exact ⟨hN.out.below.trans ((Only.setCell _ _ _).below hN.out.below.size (fun kk hkk e => by simp only at e; omega)), by rw [size_setCell]; exact hN.out.lt⟩
    · obtain rfl : m = k := by omega
      go_wp2_with fail
      go_ret
      exact ⟨rfl, hA.out.congr (fun i hi => by simp only [sv]; rw [hg.out i hi]), hN.out⟩
end Go.Proofs.Qxb6616383a
