import Derived.Test.Qxb6625486aWalks
namespace Go.Proofs.Qxb6625486a
open Go.RowKit

def rowCells (n : Nat) (f : Nat → En) : List Value := (List.range (n * 2)).map (ev f)
theorem rowCells_length (n : Nat) (f : Nat → En) : (rowCells n f).length = n * 2 := by simp [rowCells]
theorem rowCells_get {n : Nat} {f : Nat → En} {i : Nat} (h : i < n * 2) : (rowCells n f)[i]? = some (ev f i) := by simp [rowCells, h]
theorem rowCells_one (n : Nat) (f : Nat → En) : ∀ u ∈ rowCells n f, u.oneCell' = true := by
  intro u hu
  simp only [rowCells, List.mem_map] at hu
  obtain ⟨i, _, rfl⟩ := hu
  unfold ev
  split <;> rfl
theorem rowCells_at {w : World} {g n : Nat} {t : TypeId} {f : Nat → En} (h : Own w g t n f) : ∀ j u, (rowCells n f)[j]? = some u → w.cell? ((⟨g, 0, none⟩ : Addr).add j) = some u := by
  intro j u hj
  have hlt : j < n * 2 := by
    have := (List.getElem?_eq_some_iff.1 hj).1
    rwa [rowCells_length] at this
  rw [rowCells_get hlt] at hj
  have e : (⟨g, 0, none⟩ : Addr).add j = ⟨g, j, none⟩ := by unfold Addr.add; split <;> simp_all
  rw [e, h.cell hlt]
  exact hj

theorem own_of_row {w : World} {base n : Nat} {v : Value} {f : Nat → En} (hn : 0 < n) (h : w.ownsRow base 35 2 v n (rowCells n f)) :
    ∃ r cap, v = .slice (some ⟨r, 0, none⟩) n cap ∧ base ≤ r ∧ Own w r 35 n f := by
  obtain ⟨_, h0 | ⟨g, cap, cur, hv, hg, hh, _, _, hs, ht⟩⟩ := h
  · omega
  · refine ⟨g, cap, hv, hg, cur, hh, fun k hk => ?_⟩
    rw [← rowCells_get (n := n) hk, ← ht, List.getElem?_take, if_pos hk]
    simp

set_option maxHeartbeats 400000 in
theorem clone_zero (a : Option Addr) (c : Nat) (w : World) :
    Calls Try.prog 12 #[.slice a 0 c] w fun e w' => e = .returned (.slice none 0 0) ∧ w' = w := by
  go_enter Try.func12, Try.ntmps12
  go_wp2
  go_ret
  exact ⟨rfl, rfl⟩

set_option maxHeartbeats 400000 in
theorem clone_pos (g c n : Nat) (f : Nat → En) (w : World) (h0 : 0 < n) (hn : n ≤ 65536) (h1 : Own w g 35 n f) :
    Calls Try.prog 12 #[.slice (some ⟨g, 0, none⟩) n c] w fun e w' => ∃ r cap, e = .returned (.slice (some ⟨r, 0, none⟩) n cap) ∧ w.heap.size ≤ r ∧ Own w' r 35 n f ∧ Below w.heap.size w w' := by
  obtain ⟨i0, hi, hz0, hz1, hz2⟩ := info_parts Try.info35
  have hne : ((n : Int) == 0) = false := by simp; omega
  have hw := rowCells_at h1
  have HW : Hid (∀ j u, (rowCells n f)[j]? = some u → w.cell? ((⟨g, 0, none⟩ : Addr).add j) = some u) := hw
  clear hw h1
  go_enter Try.func12, Try.ntmps12
  go_wp2_with (at_builtin; refine wpList_append_own _ rfl _ _ 24 rfl w.heap.size 35 i0 (.agg #[.int .u32 0, .int .u64 0]) 2 16 Try.underlying24 hi hz0 hz1 hz2 rfl (by decide) _ 0 [] rfl (World.ownsRow_nil _ _ _ _) ⟨g, 0, none⟩ n c (rowCells n f) rfl (rowCells_length _ _) HW.out (rowCells_one _ _) (by unfold maxLen; omega) (by omega) (Nat.le_refl _) ?_)
  intro v' w' hown hgrow _
  obtain ⟨r, cap, rfl, hr, ho⟩ := own_of_row h0 hown
  have hb := (Below.refl w.heap.size w).grown hgrow (Nat.le_refl _) (fun k hk => by simp [Value.ownBlock] at hk)
  clear hown hgrow HW
  go_wp2
  go_ret
  exact ⟨r, cap, rfl, hr, ho, hb⟩

set_option maxHeartbeats 400000 in
theorem zz_zero (a : Option Addr) (c : Nat) (w : World) :
    Calls Try.prog 7 #[.slice a 0 c] w fun e w' => e = .returned (.slice none 0 0) ∧ w' = w := by
  go_enter Try.func7, Try.ntmps7
  go_wp2_with (go_at_call 12; refine (clone_zero _ _ _).mono ?_; rintro e w' ⟨rfl, rfl⟩)
  go_ret
  exact ⟨rfl, rfl⟩

set_option maxHeartbeats 400000 in
theorem zz_pos (g c n : Nat) (f : Nat → En) (w : World) (h0 : 0 < n) (hn : n ≤ 65536) (h1 : Own w g 35 n f) :
    Calls Try.prog 7 #[.slice (some ⟨g, 0, none⟩) n c] w fun e w' => ∃ r cap, e = .returned (.slice (some ⟨r, 0, none⟩) n cap) ∧ w.heap.size ≤ r ∧ Own w' r 35 n f ∧ Below w.heap.size w w' := by
  have k := clone_pos g c n f w h0 hn h1
  clear h1
  go_enter Try.func7, Try.ntmps7
  go_wp2_with (go_at_call 12; refine k.mono ?_; rintro e w' ⟨r, cap, rfl, hr, ho, hb⟩)
  go_ret
  exact ⟨r, cap, rfl, hr, ho, hb⟩
end Go.Proofs.Qxb6625486a
