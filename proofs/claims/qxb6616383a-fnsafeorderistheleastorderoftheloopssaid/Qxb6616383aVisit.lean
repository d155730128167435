/-
  The memory of the search for loops; the walk of its closure visit.
-/
import Derived.Test.Qxb6616383aUp
import Derived.Test.Qxb6616383aNumber
import Derived.Test.Qxb6616383aAdj
namespace Go.Proofs.Qxb6616383a
open Go.RowKit
open Plain
theorem Try.info98 : (Try.prog.info? 98).map (fun i => (i.zero, i.size, i.bytes)) = some (some (.agg #[.int .i64 0, .int .i64 0]), 2, 16) := by kernel_rfl
theorem Arr.set0 {w : World} {b t : Nat} {u : Value} (h : Arr w b t 1 (fun _ => u)) (v : Value) : Arr (w.setCell ⟨b, 0, none⟩ v) b t 1 (fun _ => v) := (h.set 0 v).congr (fun i hi => by simp [upd, show i = 0 by omega])
/-- The blocks of the search. -/
structure TB where
  V : Nat
  BO : Nat
  O : Nat
  BL : Nat
  L : Nat
  BS : Nat
  BP : Nat
  Q : Nat
  K : Nat
structure TB.Ok (t : TB) : Prop where
  nVBO : t.V ≠ t.BO
  nVO : t.V ≠ t.O
  nVBL : t.V ≠ t.BL
  nVL : t.V ≠ t.L
  nVBS : t.V ≠ t.BS
  nVBP : t.V ≠ t.BP
  nVQ : t.V ≠ t.Q
  nBOO : t.BO ≠ t.O
  nBOBL : t.BO ≠ t.BL
  nBOL : t.BO ≠ t.L
  nBOBS : t.BO ≠ t.BS
  nBOBP : t.BO ≠ t.BP
  nBOQ : t.BO ≠ t.Q
  nOBL : t.O ≠ t.BL
  nOL : t.O ≠ t.L
  nOBS : t.O ≠ t.BS
  nOBP : t.O ≠ t.BP
  nOQ : t.O ≠ t.Q
  nBLL : t.BL ≠ t.L
  nBLBS : t.BL ≠ t.BS
  nBLBP : t.BL ≠ t.BP
  nBLQ : t.BL ≠ t.Q
  nLBS : t.L ≠ t.BS
  nLBP : t.L ≠ t.BP
  nLQ : t.L ≠ t.Q
  nBSBP : t.BS ≠ t.BP
  nBSQ : t.BS ≠ t.Q
  nBPQ : t.BP ≠ t.Q
  kV : t.V < t.K
  kBO : t.BO < t.K
  kO : t.O < t.K
  kBL : t.BL < t.K
  kL : t.L < t.K
  kBS : t.BS < t.K
  kBP : t.BP < t.K
  kQ : t.Q < t.K

/-- The blocks that the search turns. -/
def TB.W (t : TB) (k : Nat) : Prop := k = t.V ∨ k = t.O ∨ k = t.L ∨ k = t.BS ∨ k = t.Q
/-- The search's memory. -/
structure TAt (w : World) (t : TB) (n vis : Nat) (ord low : Nat → Nat) (opn : Nat → Bool) (vs : Value) (sl : Nat) (sf : Nat → Nat) : Prop where
  hV : Arr w t.V 3 1 (fun _ => .int .i64 (vis : Nat))
  hBO : Arr w t.BO 26 1 (fun _ => .slice (some ⟨t.O, 0, none⟩) n n)
  hO : Arr w t.O 3 n (nv ord)
  hBL : Arr w t.BL 26 1 (fun _ => .slice (some ⟨t.L, 0, none⟩) n n)
  hL : Arr w t.L 3 n (nv low)
  hBS : Arr w t.BS 26 1 (fun _ => vs)
  hS : Own w t.K 3 vs sl (nv sf)
  hBP : Arr w t.BP 23 1 (fun _ => .slice (some ⟨t.Q, 0, none⟩) n n)
  hQ : Arr w t.Q 4 n (bv opn)
  hK : t.K ≤ w.heap.size
  ok : t.Ok
theorem TAt.only {S : Nat → Prop} {w w' : World} {t : TB} {n vis : Nat} {ord low : Nat → Nat} {opn : Nat → Bool} {vs : Value} {sl : Nat} {sf : Nat → Nat} (h : TAt w t n vis ord low opn vs sl sf) (ho : Only S w w') (h1 : ∀ k, k < t.K → ¬ S k) (h2 : ∀ k, vs.ownBlock = some k → ¬ S k) : TAt w' t n vis ord low opn vs sl sf := by
  exact ⟨h.hV.only ho (h1 _ h.ok.kV), h.hBO.only ho (h1 _ h.ok.kBO), h.hO.only ho (h1 _ h.ok.kO), h.hBL.only ho (h1 _ h.ok.kBL), h.hL.only ho (h1 _ h.ok.kL), h.hBS.only ho (h1 _ h.ok.kBS), h.hS.only ho h2, h.hBP.only ho (h1 _ h.ok.kBP), h.hQ.only ho (h1 _ h.ok.kQ), Nat.le_trans h.hK ho.size, h.ok⟩
section
variable {w : World} {t : TB} {n vis : Nat} {ord low : Nat → Nat} {opn : Nat → Bool} {vs : Value} {sl : Nat} {sf : Nat → Nat}
theorem TAt.apart (h : TAt w t n vis ord low opn vs sl sf) : ∀ k, vs.ownBlock = some k → t.K ≤ k := fun k hk => (h.hS.lt k hk).1
theorem TAt.setV (h : TAt w t n vis ord low opn vs sl sf) (z : Nat) : TAt (w.setCell ⟨t.V, 0, none⟩ (.int .i64 (z : Nat))) t n z ord low opn vs sl sf := by
  have ha := h.apart
  exact ⟨h.hV.set0 _, h.hBO.other h.ok.nVBO.symm _, h.hO.other h.ok.nVO.symm _, h.hBL.other h.ok.nVBL.symm _, h.hL.other h.ok.nVL.symm _, h.hBS.other h.ok.nVBS.symm _, h.hS.setCell (fun e => absurd (ha _ e) (Nat.not_le.2 h.ok.kV)) _, h.hBP.other h.ok.nVBP.symm _, h.hQ.other h.ok.nVQ.symm _, by rw [size_setCell]; exact h.hK, h.ok⟩
theorem TAt.setO (h : TAt w t n vis ord low opn vs sl sf) (i z : Nat) : TAt (w.setCell ⟨t.O, i, none⟩ (.int .i64 (z : Nat))) t n vis (upd ord i z) low opn vs sl sf := by
  have ha := h.apart
  exact ⟨h.hV.other h.ok.nVO _, h.hBO.other h.ok.nBOO _, by have := h.hO.set i (.int .i64 (z : Nat)); rw [upd_nv] at this; exact this, h.hBL.other h.ok.nOBL.symm _, h.hL.other h.ok.nOL.symm _, h.hBS.other h.ok.nOBS.symm _, h.hS.setCell (fun e => absurd (ha _ e) (Nat.not_le.2 h.ok.kO)) _, h.hBP.other h.ok.nOBP.symm _, h.hQ.other h.ok.nOQ.symm _, by rw [size_setCell]; exact h.hK, h.ok⟩
theorem TAt.setL (h : TAt w t n vis ord low opn vs sl sf) (i z : Nat) : TAt (w.setCell ⟨t.L, i, none⟩ (.int .i64 (z : Nat))) t n vis ord (upd low i z) opn vs sl sf := by
  have ha := h.apart
  exact ⟨h.hV.other h.ok.nVL _, h.hBO.other h.ok.nBOL _, h.hO.other h.ok.nOL _, h.hBL.other h.ok.nBLL _, by have := h.hL.set i (.int .i64 (z : Nat)); rw [upd_nv] at this; exact this, h.hBS.other h.ok.nLBS.symm _, h.hS.setCell (fun e => absurd (ha _ e) (Nat.not_le.2 h.ok.kL)) _, h.hBP.other h.ok.nLBP.symm _, h.hQ.other h.ok.nLQ.symm _, by rw [size_setCell]; exact h.hK, h.ok⟩
theorem TAt.setQ (h : TAt w t n vis ord low opn vs sl sf) (i : Nat) (z : Bool) : TAt (w.setCell ⟨t.Q, i, none⟩ (.bool z)) t n vis ord low (upd opn i z) vs sl sf := by
  have ha := h.apart
  exact ⟨h.hV.other h.ok.nVQ _, h.hBO.other h.ok.nBOQ _, h.hO.other h.ok.nOQ _, h.hBL.other h.ok.nBLQ _, h.hL.other h.ok.nLQ _, h.hBS.other h.ok.nBSQ _, h.hS.setCell (fun e => absurd (ha _ e) (Nat.not_le.2 h.ok.kQ)) _, h.hBP.other h.ok.nBPQ _, by have := h.hQ.set i (.bool z); rw [upd_bv] at this; exact this, by rw [size_setCell]; exact h.hK, h.ok⟩
theorem TAt.setS {w3 : World} {v' : Value} {sl' : Nat} {sf' : Nat → Nat} (h : TAt w t n vis ord low opn vs sl sf) (O3 : Only (fun k => vs.ownBlock = some k) w w3) (hO : Own w3 t.K 3 v' sl' (nv sf')) : TAt (w3.setCell ⟨t.BS, 0, none⟩ v') t n vis ord low opn v' sl' sf' := by
  have ha := h.apart
  have hn : ∀ k, k < t.K → ¬ vs.ownBlock = some k := fun k hk e => by have := ha k e; omega
  refine TAt.mk ((h.hV.only O3 (hn _ h.ok.kV)).other h.ok.nVBS _) ((h.hBO.only O3 (hn _ h.ok.kBO)).other h.ok.nBOBS _) ((h.hO.only O3 (hn _ h.ok.kO)).other h.ok.nOBS _) ((h.hBL.only O3 (hn _ h.ok.kBL)).other h.ok.nBLBS _) ((h.hL.only O3 (hn _ h.ok.kL)).other h.ok.nLBS _) ((h.hBS.only O3 (hn _ h.ok.kBS)).set0 _) (hO.setCell (fun e => ?_) _) ((h.hBP.only O3 (hn _ h.ok.kBP)).other h.ok.nBSBP.symm _) ((h.hQ.only O3 (hn _ h.ok.kQ)).other h.ok.nBSQ.symm _) (by rw [size_setCell]; exact Nat.le_trans h.hK O3.size) h.ok
  have h1 := (hO.lt _ e).1
  exact absurd h1 (Nat.not_le.2 h.ok.kBS)
end
set_option maxRecDepth 100000 in
set_option maxHeartbeats 4000000 in
theorem visit_any (w : World) (t : TB) (n vis v sl : Nat) (ord low : Nat → Nat) (opn : Nat → Bool) (vs : Value) (sf : Nat → Nat) (h : TAt w t n vis ord low opn vs sl sf) (hv : v < n) (hvis : vis ≤ 100000) (hsl : sl ≤ 100000) :
    Calls Try.prog 44 #[.int .i64 (v : Nat), .pointer (some ⟨t.V, 0, none⟩), .pointer (some ⟨t.BO, 0, none⟩), .pointer (some ⟨t.BL, 0, none⟩), .pointer (some ⟨t.BS, 0, none⟩), .pointer (some ⟨t.BP, 0, none⟩)] w fun e w' => e = .returned (.tuple #[]) ∧ ∃ vs', TAt w' t n (vis + 1) (upd ord v (vis + 1)) (upd low v (vis + 1)) (upd opn v true) vs' (sl + 1) (upd sf sl v) ∧ Only (fun k => t.W k ∨ vs.ownBlock = some k) w w' ∧ Moved w vs vs' := by
  have H : Hid (TAt w t n vis ord low opn vs sl sf) := h
  have cV := h.hV.cell (i := 0) (by omega)
  have fV := h.hV.free 0
  have ap := h.apart
  have HAP : Hid (∀ k, vs.ownBlock = some k → t.K ≤ k) := ap
  clear h ap
  go_enter Try.func44, Try.ntmps44
  go_upto_region 1 with fail
  obtain ⟨w1, hw1⟩ : ∃ w1 : World, w1 = w.setCell ⟨t.V, 0, none⟩ (.int .i64 ((vis : Int) + 1)) := ⟨_, rfl⟩
  have H1 : Hid (TAt w1 t n (vis + 1) ord low opn vs sl sf) := by rw [hw1]; exact H.out.setV (vis + 1)
  have O1 : Hid (Only (fun k => t.W k ∨ vs.ownBlock = some k) w w1) := by rw [hw1]; exact (Only.setCell _ _ _).weak (fun i e => Or.inl (Or.inl e))
  have S1 : Hid (w1.heap.size = w.heap.size) := by show _ = _; rw [hw1, size_setCell]
  rw [← hw1]
  clear hw1 cV fV
  have cV := H1.out.hV.cell (i := 0) (by omega)
  have cBO := H1.out.hBO.cell (i := 0) (by omega)
  have cBL := H1.out.hBL.cell (i := 0) (by omega)
  have cO := H1.out.hO.cell hv
  have fO := H1.out.hO.free v
  have cL := H1.out.hL.cell hv
  have fL := H1.out.hL.free v
  have cO' := (H1.out.setL v (vis + 1)).hO.cell hv
  have fO' := (H1.out.setL v (vis + 1)).hO.free v
  have cL' := (H1.out.setO v (vis + 1)).hL.cell hv
  have fL' := (H1.out.setO v (vis + 1)).hL.free v
  have e1 : (((vis + 1 : Nat)) : Int) = (vis : Int) + 1 := by omega
  have a1 := (H1.out.setO v (vis + 1)).hBL.cell (i := 0) (by omega)
  have a2 := (H1.out.setO v (vis + 1)).hV.cell (i := 0) (by omega)
  have a3 := (H1.out.setL v (vis + 1)).hBO.cell (i := 0) (by omega)
  have a4 := (H1.out.setL v (vis + 1)).hV.cell (i := 0) (by omega)
  rw [e1] at cV cO' fO' cL' fL' a1 a2 a3 a4
  have E1 : Hid ((((vis + 1 : Nat)) : Int) = (vis : Int) + 1) := e1
  clear e1
  go_cut [16] (fun _ wc => TAt wc t n (vis + 1) (upd ord v (vis + 1)) (upd low v (vis + 1)) opn vs sl sf ∧ Only (fun k => t.W k ∨ vs.ownBlock = some k) w wc ∧ wc.heap.size = w.heap.size)
  case first =>
    go_region
    all_goals (
      go_wp2_with fail
      go_meet
      refine ⟨?_, ?_, ?_⟩
      · have := (H1.out.setO v (vis + 1)).setL v (vis + 1)
        rw [E1.out] at this
        exact this.only ((Calm.drewN _ 1).only (fun _ => False)) (fun _ _ => id) (fun _ _ => id)
      · have o2 := O1.out.trans ((Only.setCell w1 ⟨t.O, v, none⟩ (.int .i64 ((vis : Int) + 1))).weak (fun i e => Or.inl (Or.inr (Or.inl e))))
        have o3 := o2.trans ((Only.setCell _ ⟨t.L, v, none⟩ (.int .i64 ((vis : Int) + 1))).weak (fun i e => Or.inl (Or.inr (Or.inr (Or.inl e)))))
        exact o3.trans ((Calm.drewN _ 1).only _)
      · show (World.setCell _ _ _).heap.size = _
        rw [size_setCell, size_setCell]; exact S1.out
      )
  case rest =>
    obtain ⟨h2, h3, h4⟩ := hcut
    have cBS := h2.hBS.cell (i := 0) (by omega)
    have H2 : Hid (TAt wc t n (vis + 1) (upd ord v (vis + 1)) (upd low v (vis + 1)) opn vs sl sf) := h2
    have O2 : Hid (Only (fun k => t.W k ∨ vs.ownBlock = some k) w wc) := h3
    have S2 : Hid (wc.heap.size = w.heap.size) := h4
    clear h2 h3 h4
    obtain ⟨ao, cc, rfl⟩ := H2.out.hS.shape
    go_wp2_with (
      refine app_one' _ rfl _ _ 26 rfl t.K 3 (.int .i64 0) 8 Try.underlying26 Try.info3 rfl _ sl (nv sf) rfl (H2.out.hS.alloc _) _ 1 (.int .i64 (v : Nat)) rfl (cell_new _ _ _) rfl (by unfold maxLen; omega) (by omega) (by have := H2.out.hK; simp; omega) ?_
      intro v' w3 hO3 hG3 hM3
      obtain ⟨g', c', rfl⟩ := hO3.out.some_
      have O3 : Hid (Only (fun k => (Value.slice ao sl cc).ownBlock = some k) wc w3) := (Only.alloc wc _ _).trans' (Only.grown hG3.out) (fun i _ h => h.symm)
      have hO3' := hO3.out
      rw [upd_nv] at hO3'
      have T3 : Hid (TAt (w3.setCell ⟨t.BS, 0, none⟩ (.slice (some ⟨g', 0, none⟩) (sl + 1) c')) t n (vis + 1) (upd ord v (vis + 1)) (upd low v (vis + 1)) opn (.slice (some ⟨g', 0, none⟩) (sl + 1) c') (sl + 1) (upd sf sl v)) := H2.out.setS O3.out hO3'
      clear hO3'
      have HB3 : Hid (Arr w3 t.BS 26 1 (fun _ => Value.slice ao sl cc)) := H2.out.hBS.only O3.out (fun e => by have := HAP.out _ e; have := H.out.ok.kBS; omega)
      have b1 := HB3.out.cell (i := 0) (by omega)
      have b2 := HB3.out.free 0
      have b3 := T3.out.hBP.cell (i := 0) (by omega)
      have b4 := T3.out.hQ.cell hv
      have b5 := T3.out.hQ.free v)
    go_end0
    refine ⟨rfl, _, T3.out.setQ v true, ?_, ?_⟩
    · have o3 := O2.out.trans (O3.out.weak (fun i e => Or.inr e))
      have o4 := o3.trans ((Only.setCell w3 ⟨t.BS, 0, none⟩ (.slice (some ⟨g', 0, none⟩) (sl + 1) c')).weak (fun i e => Or.inl (Or.inr (Or.inr (Or.inr (Or.inl e))))))
      exact o4.trans ((Only.setCell _ ⟨t.Q, v, none⟩ (.bool true)).weak (fun i e => Or.inl (Or.inr (Or.inr (Or.inr (Or.inr e))))))
    · rcases hM3.out with e | e
      · exact Or.inl e
      · exact Or.inr (fun k hk => by have := e k hk; have := S2.out; simp at *; omega)
end Go.Proofs.Qxb6616383a
