/-
  THE WALKS, part M: the law's own walk: the ways out ahead of the loops.
-/
import Derived.Test.Qxb6602885aLowK
namespace Go.Proofs.Qxb6602885a.Low
open Go.RowKit Go.Proofs

/-- The guards on lengths let the arguments by. -/
def Small (n0 n1 n2 n3 n4 n5 : Nat) : Prop :=
  n0 + n1 + n2 + n3 + n4 + n5 ≤ 1048576 ∧ n0 ≤ 65536 ∧ n1 ≤ 65536 ∧ n2 ≤ 65536 ∧ n3 ≤ 65536 ∧ n4 ≤ 65536 ∧ n5 ≤ 65536 ∧ 4 * n0 + 32 * n1 + 64 * n2 + 8 * n3 + 4 * n4 + 4 * n5 ≤ 1048576

set_option maxRecDepth 100000 in
set_option maxHeartbeats 1600000 in
theorem law_long (a0 a1 a2 a3 a4 a5 : Option Addr) (n0 n1 n2 n3 n4 n5 c0 c1 c2 c3 c4 c5 : Nat) (lo hi : Int) (w : World) (h : ¬ Small n0 n1 n2 n3 n4 n5) :
    Calls Try.prog 5 #[.slice a0 n0 c0, .slice a1 n1 c1, .slice a2 n2 c2, .slice a3 n3 c3, .slice a4 n4 c4, .slice a5 n5 c5, .int .i64 lo, .int .i64 hi] w fun e w' => e = .returned (.bool true) ∧ Below w.heap.size w w' := by
  by_cases hs : n0 + n1 + n2 + n3 + n4 + n5 ≤ 1048576
  case neg =>
    have HS := aside hs
    clear hs h
    go_enter Try.func5, Try.ntmps5
    go_wp2_with (go_at_call 13; refine (bytes_no a0 a1 a2 a3 a4 a5 n0 n1 n2 n3 n4 n5 c0 c1 c2 c3 c4 c5 lo hi w HS.out).mono ?_; rintro e w' ⟨rfl, rfl⟩)
    go_ret
    exact ⟨rfl, Below.refl _ _⟩
  have H := aside h
  have HS := aside hs
  clear h
  by_cases t0 : 65536 < n0
  · go_enter Try.func5, Try.ntmps5
    go_wp2_with (go_at_call 13; refine (bytes_yes a0 a1 a2 a3 a4 a5 n0 n1 n2 n3 n4 n5 c0 c1 c2 c3 c4 c5 lo hi w HS.out).mono ?_; rintro e w' ⟨rfl, rfl⟩)
    go_ret
    exact ⟨rfl, Below.refl _ _⟩
  by_cases t1 : 65536 < n1
  · go_enter Try.func5, Try.ntmps5
    go_wp2_with (go_at_call 13; refine (bytes_yes a0 a1 a2 a3 a4 a5 n0 n1 n2 n3 n4 n5 c0 c1 c2 c3 c4 c5 lo hi w HS.out).mono ?_; rintro e w' ⟨rfl, rfl⟩)
    go_ret
    exact ⟨rfl, Below.refl _ _⟩
  by_cases t2 : 65536 < n2
  · go_enter Try.func5, Try.ntmps5
    go_wp2_with (go_at_call 13; refine (bytes_yes a0 a1 a2 a3 a4 a5 n0 n1 n2 n3 n4 n5 c0 c1 c2 c3 c4 c5 lo hi w HS.out).mono ?_; rintro e w' ⟨rfl, rfl⟩)
    go_ret
    exact ⟨rfl, Below.refl _ _⟩
  by_cases t3 : 65536 < n3
  · go_enter Try.func5, Try.ntmps5
    go_wp2_with (go_at_call 13; refine (bytes_yes a0 a1 a2 a3 a4 a5 n0 n1 n2 n3 n4 n5 c0 c1 c2 c3 c4 c5 lo hi w HS.out).mono ?_; rintro e w' ⟨rfl, rfl⟩)
    go_ret
    exact ⟨rfl, Below.refl _ _⟩
  by_cases t4 : 65536 < n4
  · go_enter Try.func5, Try.ntmps5
    go_wp2_with (go_at_call 13; refine (bytes_yes a0 a1 a2 a3 a4 a5 n0 n1 n2 n3 n4 n5 c0 c1 c2 c3 c4 c5 lo hi w HS.out).mono ?_; rintro e w' ⟨rfl, rfl⟩)
    go_ret
    exact ⟨rfl, Below.refl _ _⟩
  by_cases t5 : 65536 < n5
  · go_enter Try.func5, Try.ntmps5
    go_wp2_with (go_at_call 13; refine (bytes_yes a0 a1 a2 a3 a4 a5 n0 n1 n2 n3 n4 n5 c0 c1 c2 c3 c4 c5 lo hi w HS.out).mono ?_; rintro e w' ⟨rfl, rfl⟩)
    go_ret
    exact ⟨rfl, Below.refl _ _⟩
  have t6 : ¬ 4 * n0 + 32 * n1 + 64 * n2 + 8 * n3 + 4 * n4 + 4 * n5 ≤ 1048576 := fun e => H.out ⟨hs, by omega, by omega, by omega, by omega, by omega, by omega, e⟩
  go_enter Try.func5, Try.ntmps5
  go_wp2_with (go_at_call 13; refine (bytes_yes a0 a1 a2 a3 a4 a5 n0 n1 n2 n3 n4 n5 c0 c1 c2 c3 c4 c5 lo hi w HS.out).mono ?_; rintro e w' ⟨rfl, rfl⟩)
  go_ret
  exact ⟨rfl, Below.refl _ _⟩

theorem fit_yes (a0 a1 a2 a3 : Option Addr) (n c0 c1 c2 c3 : Nat) (ix : Nat → Int) (hn : n ≤ 1048576) (w : World) (hs : Src w a0 n n .u32 ix) (hx : ∀ j, j < n → ix j < 131072) :
    Calls Try.prog 14 #[.slice a0 n c0, .slice a1 n c1, .slice a2 n c2, .slice a3 n c3] w fun e w' => e = .returned (.bool true) ∧ w' = w := by
  by_cases hp : 0 < n
  · obtain ⟨b, off, rfl, hc⟩ := hs hp
    refine (fits_some b off n c0 c1 c2 c3 a1 a2 a3 ix hn w hc).mono fun e w' ⟨h, hw⟩ => ⟨?_, hw⟩
    rcases h with ⟨h, _⟩ | ⟨_, j, hj, hb⟩
    · exact h
    · have := hx j hj; omega
  · have e : n = 0 := by omega
    subst e
    exact fits_none a0 a1 a2 a3 c0 c1 c2 c3 w

theorem fit_no (a0 a1 a2 a3 : Option Addr) (n0 n1 n2 n3 c0 c1 c2 c3 : Nat) (ix : Nat → Int) (hn : n0 ≤ 1048576) (w : World) (hs : Src w a0 n0 n0 .u32 ix) (h : ¬ (n1 = n0 ∧ n2 = n0 ∧ n3 = n0 ∧ ∀ j, j < n0 → ix j < 131072)) :
    Calls Try.prog 14 #[.slice a0 n0 c0, .slice a1 n1 c1, .slice a2 n2 c2, .slice a3 n3 c3] w fun e w' => e = .returned (.bool false) ∧ w' = w := by
  by_cases he : n1 = n0 ∧ n2 = n0 ∧ n3 = n0
  · obtain ⟨rfl, rfl, rfl⟩ := he
    have hp : 0 < n3 := by
      apply Decidable.byContradiction
      intro hz
      exact h ⟨rfl, rfl, rfl, fun j hj => by omega⟩
    obtain ⟨b, off, rfl, hc⟩ := hs hp
    refine (fits_some b off _ c0 c1 c2 c3 a1 a2 a3 ix hn w hc).mono fun e w' ⟨h', hw⟩ => ⟨?_, hw⟩
    rcases h' with ⟨_, hall⟩ | ⟨h', _⟩
    · exact absurd ⟨rfl, rfl, rfl, hall⟩ h
    · exact h'
  · exact fits_apart a0 a1 a2 a3 n0 n1 n2 n3 c0 c1 c2 c3 w he

set_option maxRecDepth 100000 in
set_option maxHeartbeats 1600000 in
theorem law_misfit (a0 a1 a2 a3 a4 a5 : Option Addr) (n0 n1 n2 n3 n4 n5 c0 c1 c2 c3 c4 c5 : Nat) (lo hi : Int) (w : World) (ix : Nat → Int) (hs : Small n0 n1 n2 n3 n4 n5) (hi0 : Src w a0 n0 n0 .u32 ix) (h : ¬ (n1 = n0 ∧ n2 = n0 ∧ n3 = n0 ∧ ∀ j, j < n0 → ix j < 131072)) :
    Calls Try.prog 5 #[.slice a0 n0 c0, .slice a1 n1 c1, .slice a2 n2 c2, .slice a3 n3 c3, .slice a4 n4 c4, .slice a5 n5 c5, .int .i64 lo, .int .i64 hi] w fun e w' => e = .returned (.bool true) ∧ Below w.heap.size w w' := by
  obtain ⟨hs, t0, t1, t2, t3, t4, t5, t6⟩ := hs
  have HS := aside hs
  have HN := aside (fit_no a0 a1 a2 a3 n0 n1 n2 n3 c0 c1 c2 c3 ix (by omega) w hi0 h)
  clear hs hi0 h
  go_enter Try.func5, Try.ntmps5
  go_wp2_with (first | (go_at_call 13; refine (bytes_yes a0 a1 a2 a3 a4 a5 n0 n1 n2 n3 n4 n5 c0 c1 c2 c3 c4 c5 lo hi w HS.out).mono ?_; rintro e w' ⟨rfl, rfl⟩) | (go_at_call 14; refine HN.out.mono ?_; rintro e w' ⟨rfl, rfl⟩))
  go_ret
  exact ⟨rfl, Below.refl _ _⟩

set_option maxRecDepth 100000 in
set_option maxHeartbeats 1600000 in
theorem law_order (a0 a1 a2 a3 a4 a5 : Option Addr) (n0 n1 n2 n3 n4 n5 c0 c1 c2 c3 c4 c5 : Nat) (lo hi : Int) (w : World) (ix : Nat → Int) (hs : Small n0 n1 n2 n3 n4 n5) (hi0 : Src w a0 n0 n0 .u32 ix) (e1 : n1 = n0) (e2 : n2 = n0) (e3 : n3 = n0) (hx : ∀ j, j < n0 → ix j < 131072) (ho : hi < lo) :
    Calls Try.prog 5 #[.slice a0 n0 c0, .slice a1 n1 c1, .slice a2 n2 c2, .slice a3 n3 c3, .slice a4 n4 c4, .slice a5 n5 c5, .int .i64 lo, .int .i64 hi] w fun e w' => e = .returned (.bool true) ∧ Below w.heap.size w w' := by
  subst e1 e2 e3
  obtain ⟨hs, t0, t1, t2, t3, t4, t5, t6⟩ := hs
  have HS := aside hs
  have HN := aside (fit_yes a0 a1 a2 a3 _ c0 c1 c2 c3 ix (by omega) w hi0 hx)
  clear hs hi0 hx
  go_enter Try.func5, Try.ntmps5
  go_wp2_with (first | (go_at_call 13; refine (bytes_yes a0 a1 a2 a3 a4 a5 _ _ _ _ n4 n5 c0 c1 c2 c3 c4 c5 lo hi w HS.out).mono ?_; rintro e w' ⟨rfl, rfl⟩) | (go_at_call 14; refine HN.out.mono ?_; rintro e w' ⟨rfl, rfl⟩))
  go_ret
  exact ⟨rfl, Below.refl _ _⟩
end Go.Proofs.Qxb6602885a.Low
