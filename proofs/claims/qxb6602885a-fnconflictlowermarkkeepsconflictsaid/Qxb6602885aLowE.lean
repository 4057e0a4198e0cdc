/-
  THE WALKS, part E: the clones of []uint32 and []uint64.
-/
import Derived.Test.Qxb6602885aRows
import Derived.WalkKit
import Derived.WalkSpells
import Derived.WalkLawsBesides
import Derived.Deep.OwnRows
import Derived.Deep.MidRow
import Derived.Lib.SliceRun
namespace Go.Proofs.Qxb6602885a.Low
open Go.RowKit Go.Proofs

/-- A slice of n elements, m cells in all: where it is not empty its cells hold 'f'. -/
def Src (w : World) (ao : Option Addr) (n m : Nat) (k : IntKind) (f : Nat → Int) : Prop :=
  0 < n → ∃ b off, ao = some ⟨b, off, none⟩ ∧ ∀ j, j < m → w.cell? ⟨b, off + j, none⟩ = some (.int k (f j))
/-- A slice that the call made: where it is not empty it is a row of its own, from block 'lo' on. -/
def Own (w : World) (lo : Nat) (ao : Option Addr) (n m : Nat) (t : TypeId) (k : IntKind) (f : Nat → Int) : Prop :=
  0 < n → ∃ g, ao = some ⟨g, 0, none⟩ ∧ lo ≤ g ∧ w.rowIs g t m (fun j => .int k (f j))

theorem info22 : (Try.prog.info? 22).map (fun i => (i.zero, i.size, i.bytes)) = some (some (.int .u32 0), 1, 4) := by kernel_rfl
theorem info24 : (Try.prog.info? 24).map (fun i => (i.zero, i.size, i.bytes)) = some (some (.int .u64 0), 1, 8) := by kernel_rfl

set_option maxHeartbeats 400000 in
theorem clone15_core (b off n c : Nat) (f : Nat → Int) (hn : n ≤ 1048576) (w : World) (hc : ∀ j, j < n → w.cell? ⟨b, off + j, none⟩ = some (.int .u32 (f j))) :
    Calls Try.prog 15 #[.slice (some ⟨b, off, none⟩) n c] w fun e w' =>
      e = .returned (.slice (some ⟨w.heap.size, 0, none⟩) n n) ∧ w'.rowIs w.heap.size 22 n (fun j => .int .u32 (f j)) ∧ Below w.heap.size w w' := by
  have hmk := run_make_row' (P := Try.prog) 32 22 (.int .u32 0) 4 Try.underlying32 info22 rfl .i64 .i64 n (by omega) (by omega)
  have hnil := fun w => Lib.run_eql_slice_nil (P := Try.prog) w 32 22 (some ⟨b, off, none⟩) n c 0 0 Try.underlying32
  have hb : ∀ j, j < n → b < w.heap.size := fun j hj => World.block_lt_of_cell? w _ (hc j hj)
  go_enter Try.func15, Try.ntmps15
  go_wp2
  clear hmk hnil
  go_loopw [4] (fun i wr => ∃ k : Nat, k ≤ n ∧ i = .int .i64 k ∧ wr.rowIs w.heap.size 22 n (fun j => if j < k then .int .u32 (f j) else .int .u32 0) ∧ Below w.heap.size w wr) (fun i _ => n - (intOf i).toNat)
  case atStart => exact ⟨0, by omega, rfl, (World.rowIs_made w (.int .u32 0) n 22).congr (fun j _ => by simp), (Below.refl _ _).alloc (Nat.le_refl _) _⟩
  case round =>
    obtain ⟨k, hk, rfl, hrow, hbel⟩ := hrel
    by_cases hlt : k < n
    · have hbb := hb k hlt
      have hold := (hbel.cell (p := ⟨b, off + k, none⟩) hbb).trans (hc k hlt)
      have hnew := hrow.cell hlt
      simp only [Nat.lt_irrefl, if_false] at hnew
      have hfz := hrow.frozen k
      have HR : Hid (wr.rowIs w.heap.size 22 n (fun j => if j < k then .int .u32 (f j) else .int .u32 0)) := hrow
      clear hrow hc hb
      go_wp2
      go_roundw
      case rel =>
        refine ⟨k + 1, by omega, by go_num, (HR.out.set k _).congr (fun j hj => ?_), hbel.setCell (by simp) _⟩
        by_cases e : j = k
        · subst e; simp
        · by_cases e' : j < k
          · simp [e, e', Nat.lt_succ_of_lt e']
          · simp [e, e', show ¬ j < k + 1 by omega]
      case measure => simp [intOf]; omega
    · have e : k = n := by omega
      subst e
      clear hc hb
      have HR : Hid (wr.rowIs w.heap.size 22 k (fun j => if j < k then .int .u32 (f j) else .int .u32 0)) := hrow
      clear hrow
      go_wp2
      go_ret
      exact ⟨rfl, HR.out.congr (fun j hj => by simp [hj]), hbel⟩

set_option maxHeartbeats 400000 in
theorem clone15_none (ao : Option Addr) (c : Nat) (w : World) :
    Calls Try.prog 15 #[.slice ao 0 c] w fun e w' => (∃ ao' c', e = .returned (.slice ao' 0 c')) ∧ Below w.heap.size w w' := by
  have hnil := fun w => Lib.run_eql_slice_nil (P := Try.prog) w 32 22 ao 0 c 0 0 Try.underlying32
  cases ao with
  | none =>
    go_enter Try.func15, Try.ntmps15
    go_wp2
    go_ret
    exact ⟨⟨_, _, rfl⟩, Below.refl _ _⟩
  | some a =>
    have hmk : ∀ w, (Instr.makeSlice 32 (.int .i64 0) (.int .i64 0)).run Try.prog w = .ok (.slice (some ⟨w.heap.size, 0, none⟩) 0 0) (w.alloc (.cells #[] 22)) := fun _ => by kernel_rfl
    go_enter Try.func15, Try.ntmps15
    go_wp2
    clear hmk hnil
    go_loopw [4] (fun i wr => i = .int .i64 0 ∧ Below w.heap.size w wr) (fun _ _ => 0)
    case atStart => exact ⟨rfl, (Below.refl _ _).alloc (Nat.le_refl _) _⟩
    case round =>
      obtain ⟨rfl, hbel⟩ := hrel
      go_wp2
      go_ret
      exact ⟨⟨_, _, rfl⟩, hbel⟩

theorem clone15_any (ao : Option Addr) (n c : Nat) (f : Nat → Int) (hn : n ≤ 1048576) (w : World) (hs : Src w ao n n .u32 f) :
    Calls Try.prog 15 #[.slice ao n c] w fun e w' => (∃ ao' c', e = .returned (.slice ao' n c') ∧ Own w' w.heap.size ao' n n 22 .u32 f) ∧ Below w.heap.size w w' := by
  by_cases hp : 0 < n
  · obtain ⟨b, off, rfl, hc⟩ := hs hp
    refine (clone15_core b off n c f hn w hc).mono fun e w' ⟨he, hr, hb⟩ => ⟨⟨_, _, he, fun _ => ⟨_, rfl, Nat.le_refl _, hr⟩⟩, hb⟩
  · have e : n = 0 := by omega
    subst e
    refine (clone15_none ao c w).mono fun e w' ⟨⟨ao', c', he⟩, hb⟩ => ⟨⟨ao', c', he, fun h => absurd h (Nat.lt_irrefl _)⟩, hb⟩

set_option maxHeartbeats 400000 in
theorem clone18_core (b off n c : Nat) (f : Nat → Int) (hn : n ≤ 1048576) (w : World) (hc : ∀ j, j < n → w.cell? ⟨b, off + j, none⟩ = some (.int .u64 (f j))) :
    Calls Try.prog 18 #[.slice (some ⟨b, off, none⟩) n c] w fun e w' =>
      e = .returned (.slice (some ⟨w.heap.size, 0, none⟩) n n) ∧ w'.rowIs w.heap.size 24 n (fun j => .int .u64 (f j)) ∧ Below w.heap.size w w' := by
  have hmk := run_make_row' (P := Try.prog) 35 24 (.int .u64 0) 8 Try.underlying35 info24 rfl .i64 .i64 n (by omega) (by omega)
  have hnil := fun w => Lib.run_eql_slice_nil (P := Try.prog) w 35 24 (some ⟨b, off, none⟩) n c 0 0 Try.underlying35
  have hb : ∀ j, j < n → b < w.heap.size := fun j hj => World.block_lt_of_cell? w _ (hc j hj)
  go_enter Try.func18, Try.ntmps18
  go_wp2
  clear hmk hnil
  go_loopw [4] (fun i wr => ∃ k : Nat, k ≤ n ∧ i = .int .i64 k ∧ wr.rowIs w.heap.size 24 n (fun j => if j < k then .int .u64 (f j) else .int .u64 0) ∧ Below w.heap.size w wr) (fun i _ => n - (intOf i).toNat)
  case atStart => exact ⟨0, by omega, rfl, (World.rowIs_made w (.int .u64 0) n 24).congr (fun j _ => by simp), (Below.refl _ _).alloc (Nat.le_refl _) _⟩
  case round =>
    obtain ⟨k, hk, rfl, hrow, hbel⟩ := hrel
    by_cases hlt : k < n
    · have hbb := hb k hlt
      have hold := (hbel.cell (p := ⟨b, off + k, none⟩) hbb).trans (hc k hlt)
      have hnew := hrow.cell hlt
      simp only [Nat.lt_irrefl, if_false] at hnew
      have hfz := hrow.frozen k
      have HR : Hid (wr.rowIs w.heap.size 24 n (fun j => if j < k then .int .u64 (f j) else .int .u64 0)) := hrow
      clear hrow hc hb
      go_wp2
      go_roundw
      case rel =>
        refine ⟨k + 1, by omega, by go_num, (HR.out.set k _).congr (fun j hj => ?_), hbel.setCell (by simp) _⟩
        by_cases e : j = k
        · subst e; simp
        · by_cases e' : j < k
          · simp [e, e', Nat.lt_succ_of_lt e']
          · simp [e, e', show ¬ j < k + 1 by omega]
      case measure => simp [intOf]; omega
    · have e : k = n := by omega
      subst e
      clear hc hb
      have HR : Hid (wr.rowIs w.heap.size 24 k (fun j => if j < k then .int .u64 (f j) else .int .u64 0)) := hrow
      clear hrow
      go_wp2
      go_ret
      exact ⟨rfl, HR.out.congr (fun j hj => by simp [hj]), hbel⟩

set_option maxHeartbeats 400000 in
theorem clone18_none (ao : Option Addr) (c : Nat) (w : World) :
    Calls Try.prog 18 #[.slice ao 0 c] w fun e w' => (∃ ao' c', e = .returned (.slice ao' 0 c')) ∧ Below w.heap.size w w' := by
  have hnil := fun w => Lib.run_eql_slice_nil (P := Try.prog) w 35 24 ao 0 c 0 0 Try.underlying35
  cases ao with
  | none =>
    go_enter Try.func18, Try.ntmps18
    go_wp2
    go_ret
    exact ⟨⟨_, _, rfl⟩, Below.refl _ _⟩
  | some a =>
    have hmk : ∀ w, (Instr.makeSlice 35 (.int .i64 0) (.int .i64 0)).run Try.prog w = .ok (.slice (some ⟨w.heap.size, 0, none⟩) 0 0) (w.alloc (.cells #[] 24)) := fun _ => by kernel_rfl
    go_enter Try.func18, Try.ntmps18
    go_wp2
    clear hmk hnil
    go_loopw [4] (fun i wr => i = .int .i64 0 ∧ Below w.heap.size w wr) (fun _ _ => 0)
    case atStart => exact ⟨rfl, (Below.refl _ _).alloc (Nat.le_refl _) _⟩
    case round =>
      obtain ⟨rfl, hbel⟩ := hrel
      go_wp2
      go_ret
      exact ⟨⟨_, _, rfl⟩, hbel⟩

theorem clone18_any (ao : Option Addr) (n c : Nat) (f : Nat → Int) (hn : n ≤ 1048576) (w : World) (hs : Src w ao n n .u64 f) :
    Calls Try.prog 18 #[.slice ao n c] w fun e w' => (∃ ao' c', e = .returned (.slice ao' n c') ∧ Own w' w.heap.size ao' n n 24 .u64 f) ∧ Below w.heap.size w w' := by
  by_cases hp : 0 < n
  · obtain ⟨b, off, rfl, hc⟩ := hs hp
    refine (clone18_core b off n c f hn w hc).mono fun e w' ⟨he, hr, hb⟩ => ⟨⟨_, _, he, fun _ => ⟨_, rfl, Nat.le_refl _, hr⟩⟩, hb⟩
  · have e : n = 0 := by omega
    subst e
    refine (clone18_none ao c w).mono fun e w' ⟨⟨ao', c', he⟩, hb⟩ => ⟨⟨ao', c', he, fun h => absurd h (Nat.lt_irrefl _)⟩, hb⟩

end Go.Proofs.Qxb6602885a.Low
