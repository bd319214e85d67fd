import Derived.Test.Qxb6627207aConv
import Derived.Test.Qxb6627207aKept
import Derived.Test.Qxb6627207aStab
import Derived.Test.Qxb6627207aCopy
import Derived.BigRegion
namespace Go.Proofs.Qxb6627207a
open Go.RowKit

theorem end_le {h : Nat → Pd} {q : Nat} (hsw : (h q).b ≤ (h (q + 1)).b) : ∀ r, q + 1 = r + 1 → Pd.b (h r) ≤ Pd.b (h (q + 1)) := by
  intro r hr
  have e : r = q := by omega
  subst e
  omega
def zeros256 : Array Value := Array.replicate 256 (.int .i64 0)
theorem zero39 (w : World) : Sem.run Try.prog (zeroValue 39) w = .ok (.agg zeros256) w := by kernel_rfl

theorem row_zero {f : Nat → Pd} {L : Int} (w : World) : (w.alloc (.cells zeros256 39)).rowIs w.heap.size 39 256 (fun x => .int .i64 (cAt Pd.b L f 0 x)) :=
  ⟨_, Deep.blk_alloc_new _ _, by simp [zeros256], fun i hi => by simp [zeros256, cAt_nil, hi]⟩

theorem row_count {f : Nat → Pd} {L : Int} {w : World} {C K : Nat} (h : w.rowIs C 39 256 (fun x => .int .i64 (cAt Pd.b L f K x))) :
    (w.setCell ⟨C, ((f K).b - L).toNat, none⟩ (.int .i64 ((cAt Pd.b L f K ((f K).b - L).toNat : Int) + 1))).rowIs C 39 256 (fun x => .int .i64 (cAt Pd.b L f (K + 1) x)) := by
  refine (h.set _ _).congr fun x _ => ?_
  rw [cAt_succ]
  have e : off Pd.b L f K = ((f K).b - L).toNat := rfl
  by_cases hx : x = ((f K).b - L).toNat
  · subst hx; simp [e]
  · have : ¬ off Pd.b L f K = x := fun h => hx (h.symm.trans e)
    simp [hx, this]
theorem row_start {f : Nat → Pd} {L : Int} {w : World} {C K : Nat} (h : w.rowIs C 39 256 (fun x => .int .i64 (cAt Pd.b L f K x))) :
    w.rowIs C 39 256 (fun x => .int .i64 ((if x < 0 then cLt Pd.b L f K x else cAt Pd.b L f K x : Nat) : Int)) := h.congr fun x _ => by simp

theorem row_place {f : Nat → Pd} {L : Int} {w : World} {C K b : Nat} (h : w.rowIs C 39 256 (fun x => .int .i64 ((if x < b then cLt Pd.b L f K x else cAt Pd.b L f K x : Nat) : Int))) :
    (w.setCell ⟨C, b, none⟩ (.int .i64 (cLt Pd.b L f K b : Int))).rowIs C 39 256 (fun x => .int .i64 ((if x < b + 1 then cLt Pd.b L f K x else cAt Pd.b L f K x : Nat) : Int)) := by
  refine (h.set _ _).congr fun x _ => ?_
  by_cases hx : x = b
  · subst hx; simp
  · have e : (x < b + 1) = (x < b) := by rw [eq_iff_iff]; omega
    simp only [hx, e, if_false]
theorem num_sum {a b c : Nat} (h : c = a + b) : Value.int .i64 ((a : Int) + (b : Int)) = .int .i64 (c : Int) := by subst h; rfl
theorem row_begin {f : Nat → Pd} {L : Int} {w : World} {C K b : Nat} (h : w.rowIs C 39 256 (fun x => .int .i64 ((if x < b then cLt Pd.b L f K x else cAt Pd.b L f K x : Nat) : Int))) :
    w.rowIs C 39 256 (fun x => .int .i64 ((if x < b then cLt Pd.b L f K x + cAt Pd.b L f 0 x else cAt Pd.b L f K x : Nat) : Int)) := h.congr fun x _ => by simp [cAt_nil]
theorem below_setAlloc {B g : Nat} {a w : World} (h : Below B a w) (hB : B ≤ a.heap.size) (hg : B ≤ g) (i : Nat) (u : Value) (o : Obj) : Below B a ((w.setCell ⟨g, i, none⟩ u).alloc o) :=
  (h.setCell (by exact hg) _).alloc (Nat.le_trans hB (h.setCell (p := ⟨g, i, none⟩) hg u).size) _

theorem if_other {v : Nat → Pd} {i R : Nat} {p q : Pd} (h : i ≠ R) (e : v i = q) : (if i = R then p else v i) = q := by rw [if_neg h, e]
theorem row_next {f : Nat → Pd} {L : Int} {w : World} {C K J b R : Nat} (hX : ((f J).b - L).toNat < b) (hR : R = cLt Pd.b L f K (off Pd.b L f J) + cAt Pd.b L f J (off Pd.b L f J))
    (h : w.rowIs C 39 256 (fun x => .int .i64 ((if x < b then cLt Pd.b L f K x + cAt Pd.b L f J x else cAt Pd.b L f K x : Nat) : Int))) :
    (w.setCell ⟨C, ((f J).b - L).toNat, none⟩ (.int .i64 ((R : Int) + 1))).rowIs C 39 256 (fun x => .int .i64 ((if x < b then cLt Pd.b L f K x + cAt Pd.b L f (J + 1) x else cAt Pd.b L f K x : Nat) : Int)) := by
  refine (h.set _ _).congr fun x _ => ?_
  rw [cAt_succ]
  have e : off Pd.b L f J = ((f J).b - L).toNat := rfl
  by_cases hx : x = ((f J).b - L).toNat
  · subst hx
    rw [e] at hR
    simp only [if_true, hX, e]
    rw [hR]
    congr 1
  · have : ¬ off Pd.b L f J = x := fun h => hx (h.symm.trans e)
    simp only [hx, this, if_false, Nat.add_zero]

set_option maxHeartbeats 1000000 in
set_option maxRecDepth 20000 in
theorem sort_any (g s n m : Nat) (f u : Nat → Pd) (w : World) (h1n : 1 ≤ n) (hnm : n ≤ m) (hm : m ≤ 4096) (hgs : g ≠ s) (hG : Own w g 35 n f) (hS : Own w s 35 m u) (hbd : ∀ j, j < n → 0 ≤ (f j).b ∧ (f j).b ≤ 255) :
    Calls Try.prog 16 #[.slice (some ⟨g, 0, none⟩) n n, .slice (some ⟨s, 0, none⟩) m m] w fun e w' => e = .returned (.tuple #[]) ∧ ∃ h v, Own w' g 35 n h ∧ Own w' s 35 m v ∧ Stable Pd.b n f h ∧ (∀ i, n ≤ i → i < m → v i = u i) ∧
      ((∀ i, i < n → v i = u i) ∨ (∀ i, i < n → v i = h i)) ∧ Kept2 g s w w' := by
  have h0 := (hG.has 0 (by omega)).2.2
  have hn0 : (0 : Int) < (n : Int) := by omega
  simp only [Nat.zero_mul, Nat.zero_add] at h0
  go_enter Try.func16, Try.ntmps16
  go_wp2
  go_quiet (fail)
  go_wp2
  obtain ⟨b0, b0'⟩ := hbd 0 (by omega)
  go_loopg [4, 5, 7, 28] n (fun gk lo hi _ i wr => ∃ (k : Nat) (L H : Int), k ≤ n ∧ i = .int .i64 k ∧ gk = n - k ∧ lo = .int .u8 L ∧ hi = .int .u8 H ∧ 0 ≤ L ∧ L ≤ (f 0).b ∧ (f 0).b ≤ H ∧ H ≤ 255 ∧ (∀ j, j < k → L ≤ (f j).b ∧ (f j).b ≤ H) ∧ Below w.heap.size w wr)
  case atStart => exact ⟨0, (f 0).b, (f 0).b, Nat.zero_le _, rfl, rfl, rfl, rfl, b0, Int.le_refl _, Int.le_refl _, b0', fun j hj => by omega, below_drewN' (Below.refl _ _) _⟩
  case round =>
    clear h0
    obtain ⟨k, L, H, hk, rfl, hgk, rfl, rfl, hL, hL0, hH0, hH, hall, hbel⟩ := hrel
    have hGr := hG.below hbel hG.lt
    by_cases hlt : k < n
    · have hlt' : (k : Int) < (n : Int) := by omega
      obtain ⟨c0, c1, c2⟩ := hGr.has k hlt
      simp only [Nat.zero_add] at c0 c1 c2
      obtain ⟨x0, x1⟩ := hbd k hlt
      go_wp2
      go_region
      all_goals go_wp2
      all_goals
        go_roundg (n - (k + 1))
        case measure => omega
        case rel => exact ⟨k + 1, _, _, by omega, by go_num, rfl, rfl, rfl, by omega, by omega, by omega, by omega, lo_step hall (by omega) (by omega) (by omega) (by omega), (hbel.alloc hbel.size _).drew⟩
    · have e : k = n := by omega
      subst e
      by_cases hs1 : H = L
      · subst hs1
        go_wp2
        refine bodyPost_ret (results_none (by exact Try.results16) _ _ _) rfl ?_
        exact ⟨rfl, f, u, hGr, hS.below hbel hS.lt, Stable.flat (fun i j hi hj => by have := hall i hi; have := hall j hj; omega), fun _ _ _ => rfl, Or.inl fun _ _ => rfl, Kept2.of_below hbel⟩
      · have hs1b : (H - L + 1 == 1) = false := by simp; omega
        by_cases hs2 : 4 * (k : Int) < H - L + 1
        · clear hbd hall
          go_wp2
          go_loopg [9, 10] (k - 1) (fun gi i _ wi => ∃ I : Nat, 1 ≤ I ∧ I ≤ k ∧ i = .int .i64 I ∧ gi = k - I ∧ ∃ h, Own wi g 35 k h ∧ Ins Pd.b f k I h ∧ Kept2 g g w wi)
          case atStart => exact ⟨1, by omega, by omega, rfl, by omega, f, hGr, ins_one, Kept2.of_below hbel⟩
          case round =>
            clear hGr hbel
            obtain ⟨I, hI1, hI, rfl, hgi, h, hown, hins, hkept⟩ := hrel
            by_cases hlt : I < k
            · have hlt' : (I : Int) < (k : Int) := by omega
              go_wp2
              have hinn := ins_start hlt hins
              clear hins
              go_loopg [10] I (fun gj j wj => ∃ J : Nat, J ≤ I ∧ j = .int .i64 J ∧ gj = J ∧ ∃ h, Own wj g 35 k h ∧ Inn Pd.b f k I J h ∧ Kept2 g g w wj)
              case atStart => exact ⟨I, by omega, rfl, rfl, h, hown, hinn, hkept⟩
              case round =>
                clear hown hinn hkept
                clear h
                obtain ⟨J, hJ, rfl, hgj, h, hown, hinn, hkept⟩ := hrel
                rcases J with _ | q
                · go_wp2
                  go_quiet (fail)
                  go_wp2
                  go_roundg (k - (I + 1))
                  case measure => omega
                  case rel => exact ⟨I + 1, by omega, by omega, by go_num, rfl, h, hown.drewN _, inn_done hlt (by omega) (fun q hq => by omega) hinn, hkept.drewN _⟩
                · obtain ⟨c0, c1, c2⟩ := hown.has q (by omega)
                  obtain ⟨d0, d1, d2⟩ := hown.has (q + 1) (by omega)
                  have fz := hown.frozen
                  simp only [Nat.zero_add] at c0 c1 c2 d0 d1 d2
                  have hq1 : (q : Int) + 1 < (k : Int) := by omega
                  have hq2 : (q : Int) < (k : Int) := by omega
                  by_cases hsw : (h (q + 1)).b < (h q).b
                  · go_wp2
                    go_quiet (fail)
                    go_wp2
                    go_region
                    go_wp2
                    clear c0 c1 c2 d0 d1 d2 fz
                    go_roundg q
                    case measure => omega
                    case rel =>
                      exact ⟨q, by omega, by go_num, rfl, _, ((hown.drewN _).set (q + 1) (h q)).set q (h (q + 1)), inn_step hlt (by omega) hsw hinn, ((hkept.drewN _).set3 (Or.inl rfl) _ _ _ _ _ _).set3 (Or.inl rfl) _ _ _ _ _ _⟩
                  · go_wp2
                    go_quiet (fail)
                    go_wp2
                    go_roundg (k - (I + 1))
                    case measure => omega
                    case rel => exact ⟨I + 1, by omega, by omega, by go_num, rfl, h, hown.drewN _, inn_done hlt (by omega) (end_le hsw) hinn, hkept.drewN _⟩
            · go_wp2
              refine bodyPost_ret (results_none (by exact Try.results16) _ _ _) rfl ?_
              have e : I = k := by omega
              subst e
              exact ⟨rfl, h, u, hown, hkept.own hS (fun e => hgs e.symm) (fun e => hgs e.symm), ins_all hins, fun _ _ _ => rfl, Or.inl fun _ _ => rfl, hkept.more (Or.inl rfl) (Or.inl rfl)⟩
        · have hz := zero39
          rename World => w1
          go_wp2
          clear hz
          have hCw := hbel.size
          go_loopg [13, 98] k (fun gi _ i wx => ∃ K : Nat, K ≤ k ∧ i = .int .i64 K ∧ gi = k - K ∧ wx.rowIs w1.heap.size 39 256 (fun x => .int .i64 (cAt Pd.b L f K x)) ∧ Below w.heap.size w wx ∧ w1.heap.size < wx.heap.size)
          case atStart => exact ⟨0, by omega, rfl, by omega, row_zero _, hbel.alloc hbel.size _, by simp⟩
          case round =>
            clear hbel hGr
            obtain ⟨K, hK, rfl, hgi, hrow, hbel, hsz⟩ := hrel
            by_cases hlt : K < k
            · have hlt' : (K : Int) < (k : Int) := by omega
              obtain ⟨c0, c1, c2⟩ := (hG.below hbel hG.lt).has K hlt
              simp only [Nat.zero_add] at c0 c1 c2
              obtain ⟨hy1, hy2⟩ := hall K hlt
              have e0 := hrow.cell (i := ((f K).b - L).toNat) (by omega)
              have fz := hrow.frozen ((f K).b - L).toNat
              have hcl : cAt Pd.b L f K ((f K).b - L).toNat ≤ K := cAt_le
              go_wp2
              clear c0 c1 c2 e0 fz
              go_roundg (k - (K + 1))
              case measure => omega
              case rel => exact ⟨K + 1, by omega, by go_num, rfl, (row_count hrow).alloc _, below_setAlloc hbel (Nat.le_refl _) hCw _ _ _, by simp; omega⟩
            · have e : K = k := by omega
              subst e
              go_wp2
              have hrow2 := row_start (L := L) hrow
              clear hrow
              go_loopg [14, 15, 112] (H - L + 1).toNat (fun gi pl _ i wx => ∃ b : Nat, (b : Int) ≤ H - L + 1 ∧ i = .int .i64 b ∧ gi = (H - L + 1).toNat - b ∧ pl = .int .i64 (cLt Pd.b L f K b) ∧ wx.rowIs w1.heap.size 39 256 (fun x => .int .i64 ((if x < b then cLt Pd.b L f K x else cAt Pd.b L f K x : Nat) : Int)) ∧ Below w.heap.size w wx ∧ w1.heap.size < wx.heap.size)
              case atStart => exact ⟨0, by omega, rfl, by omega, by rw [cLt_zero]; rfl, hrow2, hbel, hsz⟩
              case round =>
                clear hbel hsz hrow2
                obtain ⟨b, hb, rfl, hgi, rfl, hrow, hbel, hsz⟩ := hrel
                by_cases hlt : (b : Int) < H - L + 1
                · have e0 := hrow.cell (i := b) (by omega)
                  have fz := hrow.frozen b
                  simp only [Nat.lt_irrefl, if_false] at e0
                  have hcl : cAt Pd.b L f K b ≤ K := cAt_le
                  have hcl2 : cLt Pd.b L f K b ≤ K := cLt_le
                  have hb256 : (b : Int) < 256 := by omega
                  go_wp2
                  clear e0 fz
                  go_roundg ((H - L + 1).toNat - (b + 1))
                  case measure => omega
                  case rel => exact ⟨b + 1, by omega, by go_num, rfl, num_sum cLt_succ, row_place hrow, hbel.setCell (by exact hCw) _, by simp; omega⟩
                · have eb : (b : Int) = H - L + 1 := by omega
                  have hrow2 := row_begin hrow
                  clear hrow
                  go_wp2
                  go_loopg [17, 126] K (fun gi _ i wx => ∃ J : Nat, J ≤ K ∧ i = .int .i64 J ∧ gi = K - J ∧ wx.rowIs w1.heap.size 39 256 (fun x => .int .i64 ((if x < b then cLt Pd.b L f K x + cAt Pd.b L f J x else cAt Pd.b L f K x : Nat) : Int)) ∧ (∃ v, Own wx s 35 m v ∧ (∀ j, j < J → v (rank (fun i => (f i).b) K j) = f j) ∧ (∀ i, K ≤ i → i < m → v i = u i)) ∧ Kept2 s s w wx ∧ w1.heap.size < wx.heap.size)
                  case atStart => exact ⟨0, by omega, rfl, by omega, hrow2, ⟨u, hS.below hbel hS.lt, fun j hj => by omega, fun _ _ _ => rfl⟩, Kept2.of_below hbel, hsz⟩
                  case round =>
                    clear hbel hsz hrow2
                    obtain ⟨J, hJ, rfl, hgi, hrow, ⟨v, hv, hv1, hv2⟩, hkept, hsz⟩ := hrel
                    by_cases hlt : J < K
                    · have hlt' : (J : Int) < (K : Int) := by omega
                      obtain ⟨hy1, hy2⟩ := hall J hlt
                      have hrk := rank_count (key := Pd.b) (f := f) (n := K) (fun i hi => (hall i hi).1) hlt
                      have hr := rank_lt (b := fun i => (f i).b) hlt
                      obtain ⟨c0, c1, c2⟩ := (hkept.own hG hgs hgs).has J hlt
                      have e0 := hrow.cell (i := ((f J).b - L).toNat) (by omega)
                      rw [if_pos (by omega)] at e0
                      rw [show cLt Pd.b L f K ((f J).b - L).toNat + cAt Pd.b L f J ((f J).b - L).toNat = rank (fun i => (f i).b) K J from hrk.symm] at e0
                      generalize hR : rank (fun i => (f i).b) K J = R at *
                      have HR : Hid (rank (fun i => (f i).b) K J = R) := hR
                      have HRK : Hid (R = cLt Pd.b L f K (off Pd.b L f J) + cAt Pd.b L f J (off Pd.b L f J)) := hrk
                      clear hR hrk
                      obtain ⟨d0, d1, d2⟩ := hv.has R (by omega)
                      simp only [Nat.zero_add] at c0 c1 c2 d0 d1 d2
                      have fz := hrow.frozen
                      have fs := hv.frozen
                      have hgw : g < wr.heap.size := by have := hkept.size; have := hG.lt; omega
                      have hsw := hv.lt
                      have hsC : s ≠ w1.heap.size := by have := hS.lt; omega
                      have hgC : g ≠ w1.heap.size := by have := hG.lt; omega
                      have hRm : (R : Int) < (m : Int) := by omega
                      have HV : Hid ((∀ j, j < J → v (rank (fun i => (f i).b) K j) = f j) ∧ ∀ i, K ≤ i → i < m → v i = u i) := ⟨hv1, hv2⟩
                      clear hv1 hv2
                      go_wp2
                      go_region
                      go_wp2
                      clear c0 c1 c2 d0 d1 d2 e0 fz fs
                      go_roundg (K - (J + 1))
                      case measure => omega
                      case rel =>
                        refine ⟨J + 1, by omega, by go_num, rfl, ?_, ⟨fun i => if i = R then f J else v i, ?_, rank_step hlt HR.out HV.out.1, ?_⟩, ?_, ?_⟩
                        · exact ((row_next (by omega) HRK.out (((hrow.setOther (by exact hsC.symm) _).setOther (by exact hsC.symm) _).setOther (by exact hsC.symm) _)).alloc _).drew
                        · exact (((hv.set R (f J)).setOther (by exact hsC) _).alloc _).drew
                        · exact fun i h1 h2 => if_other (by omega) (HV.out.2 i h1 h2)
                        · exact (((hkept.set3 (Or.inl rfl) _ _ _ _ _ _).setCell (Or.inr (Or.inr hCw)) _).alloc _).drew
                        · simp; omega
                    · clear hbd hall
                      have e : J = K := by omega
                      subst e
                      have hGr := hkept.own hG hgs hgs
                      have HV : Hid ((∀ j, j < J → v (rank (fun i => (f i).b) J j) = f j) ∧ ∀ i, J ≤ i → i < m → v i = u i) := ⟨hv1, hv2⟩
                      clear hv1 hv2
                      have hcp := run_copy_pend (c := m) hGr hv hnm 3
                      go_wp2
                      go_end0
                      exact ⟨rfl, v, v, own_setRow hGr, own_setRow_other hv (fun e => hgs e.symm), Stable.of_rank HV.out.1, HV.out.2, Or.inr fun _ _ => rfl, hkept.setRow _⟩
end Go.Proofs.Qxb6627207a
