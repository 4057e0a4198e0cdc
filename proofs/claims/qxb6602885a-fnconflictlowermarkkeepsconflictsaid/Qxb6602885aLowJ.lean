/-
  THE WALKS, part J: zzBytes and zzSparseFits.
-/
import Derived.Test.Qxb6602885aRows
import Derived.WalkKit
import Derived.WalkSpells
import Derived.WalkLawsBesides
namespace Go.Proofs.Qxb6602885a.Low
open Go.RowKit Go.Proofs

set_option maxHeartbeats 400000 in
theorem bytes_yes (a0 a1 a2 a3 a4 a5 : Option Addr) (n0 n1 n2 n3 n4 n5 c0 c1 c2 c3 c4 c5 : Nat) (lo hi : Int) (w : World) (h : n0 + n1 + n2 + n3 + n4 + n5 ≤ 1048576) :
    Calls Try.prog 13 #[.slice a0 n0 c0, .slice a1 n1 c1, .slice a2 n2 c2, .slice a3 n3 c3, .slice a4 n4 c4, .slice a5 n5 c5, .int .i64 lo, .int .i64 hi] w fun e w' => e = .returned (.bool true) ∧ w' = w := by
  go_enter Try.func13, Try.ntmps13
  go_wp2
  go_ret
  exact ⟨rfl, rfl⟩

set_option maxHeartbeats 800000 in
theorem bytes_no (a0 a1 a2 a3 a4 a5 : Option Addr) (n0 n1 n2 n3 n4 n5 c0 c1 c2 c3 c4 c5 : Nat) (lo hi : Int) (w : World) (h : ¬ n0 + n1 + n2 + n3 + n4 + n5 ≤ 1048576) :
    Calls Try.prog 13 #[.slice a0 n0 c0, .slice a1 n1 c1, .slice a2 n2 c2, .slice a3 n3 c3, .slice a4 n4 c4, .slice a5 n5 c5, .int .i64 lo, .int .i64 hi] w fun e w' => e = .returned (.bool false) ∧ w' = w := by
  go_enter Try.func13, Try.ntmps13
  go_wp2
  all_goals (go_ret; exact ⟨rfl, rfl⟩)

set_option maxHeartbeats 400000 in
theorem fits_apart (a0 a1 a2 a3 : Option Addr) (n0 n1 n2 n3 c0 c1 c2 c3 : Nat) (w : World) (h : ¬ (n1 = n0 ∧ n2 = n0 ∧ n3 = n0)) :
    Calls Try.prog 14 #[.slice a0 n0 c0, .slice a1 n1 c1, .slice a2 n2 c2, .slice a3 n3 c3] w fun e w' => e = .returned (.bool false) ∧ w' = w := by
  by_cases e1 : n1 = n0
  · subst e1
    by_cases e2 : n2 = n1
    · subst e2
      have e3 : ¬ n3 = n2 := fun e => h ⟨rfl, rfl, e⟩
      clear h
      go_enter Try.func14, Try.ntmps14
      go_wp2
      go_ret
      exact ⟨rfl, rfl⟩
    · clear h
      go_enter Try.func14, Try.ntmps14
      go_wp2
      go_ret
      exact ⟨rfl, rfl⟩
  · clear h
    go_enter Try.func14, Try.ntmps14
    go_wp2
    go_ret
    exact ⟨rfl, rfl⟩

set_option maxHeartbeats 400000 in
theorem fits_none (a0 a1 a2 a3 : Option Addr) (c0 c1 c2 c3 : Nat) (w : World) :
    Calls Try.prog 14 #[.slice a0 0 c0, .slice a1 0 c1, .slice a2 0 c2, .slice a3 0 c3] w fun e w' => e = .returned (.bool true) ∧ w' = w := by
  go_enter Try.func14, Try.ntmps14
  go_wp2
  go_loop [10] (fun i => i = .int .i64 0) (fun _ => 0)
  case atStart => exact rfl
  case round =>
    obtain rfl := hrel
    go_wp2
    go_ret
    exact ⟨rfl, rfl⟩

set_option maxHeartbeats 400000 in
theorem fits_some (b off n c0 c1 c2 c3 : Nat) (a1 a2 a3 : Option Addr) (ix : Nat → Int) (hn : n ≤ 1048576) (w : World) (hc : ∀ j, j < n → w.cell? ⟨b, off + j, none⟩ = some (.int .u32 (ix j))) :
    Calls Try.prog 14 #[.slice (some ⟨b, off, none⟩) n c0, .slice a1 n c1, .slice a2 n c2, .slice a3 n c3] w fun e w' =>
      (e = .returned (.bool true) ∧ (∀ j, j < n → ix j < 131072) ∨ e = .returned (.bool false) ∧ ∃ j, j < n ∧ 131072 ≤ ix j) ∧ w' = w := by
  have HC : Hid (∀ j, j < n → w.cell? ⟨b, off + j, none⟩ = some (.int .u32 (ix j))) := hc
  clear hc
  go_enter Try.func14, Try.ntmps14
  go_wp2
  go_loop [10] (fun i => ∃ k : Nat, k ≤ n ∧ i = .int .i64 k ∧ ∀ j, j < k → ix j < 131072) (fun i => n - (intOf i).toNat)
  case atStart => exact ⟨0, by omega, rfl, fun j hj => by omega⟩
  case round =>
    obtain ⟨k, hk, rfl, hall⟩ := hrel
    have HA : Hid (∀ j, j < k → ix j < 131072) := hall
    clear hall
    by_cases hlt : k < n
    · have h1 := HC.out k hlt
      by_cases hx : ix k < 131072
      · go_wp2
        go_round
        case rel => exact ⟨k + 1, by omega, by go_num, fun j hj => by
          rcases Nat.lt_succ_iff_lt_or_eq.1 hj with h | rfl
          · exact HA.out j h
          · exact hx⟩
        case measure => simp [intOf]; omega
      · go_wp2
        go_ret
        exact ⟨.inr ⟨rfl, k, hlt, by omega⟩, rfl⟩
    · go_wp2
      go_ret
      exact ⟨.inl ⟨rfl, fun j hj => HA.out j (by omega)⟩, rfl⟩
end Go.Proofs.Qxb6602885a.Low
