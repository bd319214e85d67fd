import Derived.Test.Qxb6625486aGen
namespace Go.Proofs.Qxb6625486a
open Go.RowKit

set_option maxHeartbeats 400000 in
theorem law4_early (a a' : Option Addr) (n c m c' : Nat) (hn : n ≤ maxLen) (hm : m ≤ maxLen) (h : 65536 < n + m) (w : World) :
    Calls Try.prog 4 #[.slice a n c, .slice a' m c'] w fun e w' => e = .returned (.bool true) ∧ w' = w := by
  have hb := bytes10 a a' n c m c' hn hm w
  unfold maxLen at hn hm
  go_enter Try.func4, Try.ntmps4
  go_wp2_with (go_at_call 10; refine hb.mono ?_; rintro e w' ⟨⟨v, rfl⟩, rfl⟩)
  all_goals
    go_ret
    exact ⟨rfl, rfl⟩

set_option maxHeartbeats 1000000 in
theorem law4_main (a a' : Option Addr) (na nb c c' : Nat) (f g : Nat → En) (w : World) (hn : na + nb ≤ 65536) (ha : a = none → na = 0) (ha' : a' = none → nb = 0) (hF : Rd w.heap.size w a na f) (hG : Rd w.heap.size w a' nb g) :
    Calls Try.prog 4 #[.slice a na c, .slice a' nb c'] w fun e w' => e = .returned (.bool true) ∧ Below w.heap.size w w' := by
  have k10 := bytes10_true a a' na c nb c' hn w
  have k11 := join_gen a a' na nb c c' f g w hn hF hG
  have hq := eqNil24
  have g1 : decide ((65536 : Int) < (na : Int)) = false := by simp; omega
  have g2 : decide ((65536 : Int) < (nb : Int)) = false := by simp; omega
  go_enter Try.func4, Try.ntmps4
  go_wp2_with (go_at_call 10; refine k10.mono ?_; rintro e w' ⟨rfl, rfl⟩)
  rename World => w
  refine k11.mono ?_
  rintro e w1 ⟨ab, rfl, hab, m1, b1⟩
  clear k10 k11
  have z1 := b1.size
  have F1 := hF.below b1 (Nat.le_refl _)
  have k6 := to_gen a na c f w1 (by omega) ha (F1.more z1)
  go_wp2_with fail
  refine k6.mono ?_
  rintro e w2 ⟨inA, rfl, m2, b2⟩
  clear k6 F1
  have z2 := b2.size
  have m1 := m1.below b2 (Nat.le_refl _)
  have bb := b1.trans (b2.mono z1)
  clear b1 b2
  have G2 := hG.below bb (Nat.le_refl _)
  have k6 := to_gen a' nb c' g w2 (by omega) ha' (G2.more (by omega))
  go_wp2_with fail
  refine k6.mono ?_
  rintro e w3 ⟨inB, rfl, m3, b3⟩
  clear k6 G2
  have z3 := b3.size
  have m1 := m1.below b3 z2
  have m2 := m2.below b3 (Nat.le_refl _)
  have bb := bb.trans (b3.mono (by omega))
  clear b3
  have k6 := to_gen ab (na + nb) (na + nb) (join na f g) w3 hn hab (m1.rd.more (by omega))
  go_wp2_with fail
  refine k6.mono ?_
  rintro e w4 ⟨inAB, rfl, m4, b4⟩
  clear k6
  have z4 := b4.size
  have m1 := m1.below b4 (by omega)
  have m2 := m2.below b4 (by omega)
  have m3 := m3.below b4 (Nat.le_refl _)
  have bb := bb.trans (b4.mono (by omega))
  clear b4
  have k7 := zz_gen inA na na _ _ f w4 (by omega) m2
  go_wp2_with fail
  refine k7.mono ?_
  rintro e w5 ⟨ca, capa, rfl, hca, m5, b5⟩
  clear k7
  have z5 := b5.size
  have m1 := m1.below b5 (by omega)
  have m2 := m2.below b5 (by omega)
  have m3 := m3.below b5 (by omega)
  have m4 := m4.below b5 (Nat.le_refl _)
  have bb := bb.trans (b5.mono (by omega))
  clear b5
  have k7 := zz_gen inB nb nb _ _ g w5 (by omega) m3
  go_wp2_with fail
  refine k7.mono ?_
  rintro e w6 ⟨cb, capb, rfl, hcb, m6, b6⟩
  clear k7
  have z6 := b6.size
  have m1 := m1.below b6 (by omega)
  have m2 := m2.below b6 (by omega)
  have m3 := m3.below b6 (by omega)
  have m4 := m4.below b6 (by omega)
  have m5 := m5.below b6 (Nat.le_refl _)
  have bb := bb.trans (b6.mono (by omega))
  clear b6
  have k7 := zz_gen inAB (na + nb) (na + nb) _ _ (join na f g) w6 hn m4
  go_wp2_with fail
  refine k7.mono ?_
  rintro e w7 ⟨cab, capab, rfl, hcab, m7, b7⟩
  clear k7
  have z7 := b7.size
  have m1 := m1.below b7 (by omega)
  have m2 := m2.below b7 (by omega)
  have m3 := m3.below b7 (by omega)
  have m4 := m4.below b7 (by omega)
  have m5 := m5.below b7 (by omega)
  have m6 := m6.below b7 (Nat.le_refl _)
  have bb := bb.trans (b7.mono (by omega))
  clear b7
  have F7 := hF.below bb (Nat.le_refl _)
  have G7 := hG.below bb (Nat.le_refl _)
  have ka := same_gen ca a capa c na _ _ f w7 (by omega) m5.rd F7
  go_wp2_with fail
  refine ka.mono ?_
  rintro e w8 ⟨rfl, q, rfl⟩
  clear ka
  have kb := same_gen cb a' capb c' nb _ _ g (w7.drewN q) (by omega) (m6.rd.drewN q) (G7.drewN q)
  go_wp2_with fail
  refine kb.mono ?_
  rintro e w8 ⟨rfl, q1, rfl⟩
  clear kb
  rw [World.drewN_drewN]
  generalize q + q1 = q
  have kc := same_gen cab ab capab (na + nb) (na + nb) _ _ (join na f g) (w7.drewN q) hn (m7.rd.drewN q) (m1.rd.drewN q)
  go_wp2_with fail
  refine kc.mono ?_
  rintro e w8 ⟨rfl, q1, rfl⟩
  clear kc
  rw [World.drewN_drewN]
  generalize q + q1 = q
  have hq35 := neq35
  have hg35 := Try.guard35
  go_wp2_with fail
  go_loopg [12] na (fun gk i wr => ∃ k p : Nat, k ≤ na ∧ i = .int .i64 k ∧ gk = na - k ∧ wr = w7.drewN p)
  case atStart => exact ⟨0, q, Nat.zero_le _, rfl, rfl, rfl⟩
  case round =>
    clear q
    obtain ⟨k, p, hk, rfl, hgk, rfl⟩ := hrel
    by_cases hlt : k < na
    · obtain ⟨x, rfl, _, _, ox⟩ := m5 (by omega)
      obtain ⟨y, rfl, _, _, oy⟩ := m7 (by omega)
      obtain ⟨c0, c1⟩ := ox.has k hlt
      obtain ⟨d0, d1⟩ := oy.has k (by omega)
      rw [show join na f g k = f k from by simp [join, hlt]] at d0 d1
      simp only [Nat.zero_add] at c0 c1 d0 d1
      have hlt' : (k : Int) < (na : Int) := by omega
      have hlt2 : (k : Int) < ((na + nb : Nat) : Int) := by omega
      clear m1 m2 m3 m4 m5 m6 m7 ox oy F7 G7 hF hG hca hcb hcab hq
      go_wp2
      go_quiet (fail)
      go_wp2
      go_roundg (na - (k + 1))
      case measure => omega
      case rel => exact ⟨k + 1, _, by omega, by go_num, rfl, rfl⟩
    · go_wp2_with fail
      go_loopg [13] nb (fun gk i wr => ∃ j p : Nat, j ≤ nb ∧ i = .int .i64 j ∧ gk = nb - j ∧ wr = w7.drewN p)
      case atStart => exact ⟨0, p, Nat.zero_le _, rfl, rfl, rfl⟩
      case round =>
        clear hgk hlt hk
        clear p
        obtain ⟨j, p, hj, rfl, hgj, rfl⟩ := hrel
        by_cases hlt : j < nb
        · obtain ⟨x, rfl, _, _, ox⟩ := m6 (by omega)
          obtain ⟨y, rfl, _, _, oy⟩ := m7 (by omega)
          obtain ⟨c0, c1⟩ := ox.has j hlt
          obtain ⟨d0, d1⟩ := oy.has (na + j) (by omega)
          rw [show join na f g (na + j) = g j from by have : ¬ na + j < na := by omega
                                                      simp [join, this]] at d0 d1
          simp only [Nat.zero_add] at c0 c1 d0 d1
          have hlt' : (j : Int) < (nb : Int) := by omega
          have hlt2 : (na : Int) + (j : Int) < ((na + nb : Nat) : Int) := by omega
          clear m1 m2 m3 m4 m5 m6 m7 ox oy F7 G7 hF hG hca hcb hcab hq
          go_wp2
          go_quiet (fail)
          go_wp2
          go_roundg (nb - (j + 1))
          case measure => omega
          case rel => exact ⟨j + 1, _, by omega, by go_num, rfl, rfl⟩
        · have kf := flip_gen cab (na + nb) capab _ _ (join na f g) (w7.drewN p) hn (m7.drewN p)
          go_wp2_with fail
          refine kf.mono ?_
          rintro e w8 ⟨rfl, b8⟩
          clear kf m7 F7 G7
          have m1 := (m1.drewN p).below b8 (by omega)
          have m2 := (m2.drewN p).below b8 (by omega)
          have m3 := (m3.drewN p).below b8 (by omega)
          have m4 := (m4.drewN p).below b8 (by omega)
          have m5 := (m5.drewN p).below b8 (by omega)
          have m6 := (m6.drewN p).below b8 (Nat.le_refl _)
          have bb := (below_drewN' bb p).trans (b8.mono (by omega))
          clear b8
          have F8 := hF.below bb (Nat.le_refl _)
          have G8 := hG.below bb (Nat.le_refl _)
          clear hF hG
          have ka := same_gen inAB ab (na + nb) (na + nb) (na + nb) _ _ (join na f g) w8 hn m4.rd m1.rd
          go_wp2_with fail
          refine ka.mono ?_
          rintro e w9 ⟨rfl, q, rfl⟩
          clear ka
          have ka := same_gen ca a capa c na _ _ f (w8.drewN q) (by omega) (m5.rd.drewN q) (F8.drewN q)
          go_wp2_with fail
          refine ka.mono ?_
          rintro e w9 ⟨rfl, q1, rfl⟩
          rw [World.drewN_drewN]
          clear ka
          generalize q + q1 = q
          have ka := same_gen cb a' capb c' nb _ _ g (w8.drewN q) (by omega) (m6.rd.drewN q) (G8.drewN q)
          go_wp2_with fail
          refine ka.mono ?_
          rintro e w9 ⟨rfl, q1, rfl⟩
          rw [World.drewN_drewN]
          clear ka
          generalize q + q1 = q
          have ka := same_gen inA a na c na _ _ f (w8.drewN q) (by omega) (m2.rd.drewN q) (F8.drewN q)
          go_wp2_with fail
          refine ka.mono ?_
          rintro e w9 ⟨rfl, q1, rfl⟩
          rw [World.drewN_drewN]
          clear ka
          generalize q + q1 = q
          have ka := same_gen inB a' nb c' nb _ _ g (w8.drewN q) (by omega) (m3.rd.drewN q) (G8.drewN q)
          go_wp2_with fail
          refine ka.mono ?_
          rintro e w9 ⟨rfl, q1, rfl⟩
          rw [World.drewN_drewN]
          clear ka
          generalize q + q1 = q
          go_wp2_with fail
          go_ret
          exact ⟨rfl, below_drewN' bb _⟩
end Go.Proofs.Qxb6625486a
