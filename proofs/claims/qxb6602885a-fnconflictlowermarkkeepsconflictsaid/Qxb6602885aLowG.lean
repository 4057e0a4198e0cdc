/-
  THE WALKS, part G: ZZNewTable and ZZSetBucket.
-/
import Derived.Test.Qxb6602885aLowF
import Derived.StillTailTactics
import Derived.Laws.Pointers
import Derived.Deep.RegionHeld3
namespace Go.Proofs.Qxb6602885a.Low
open Go.RowKit Go.Proofs

/-- A fact laid aside. -/
theorem aside2 {p : Prop} (h : p) : Hid p := h

/-- The empty bucket's cells. -/
def zero66 (r : Nat) : Value := if r < 8 then .int .u32 0 else .int .u64 0

theorem info66 : (Try.prog.info? 66).map (fun i => (i.zero, i.size, i.bytes)) = some (some (.agg #[.int .u32 0, .int .u32 0, .int .u32 0, .int .u32 0, .int .u32 0, .int .u32 0, .int .u32 0, .int .u32 0,
  .int .u64 0, .int .u64 0, .int .u64 0, .int .u64 0, .int .u64 0, .int .u64 0, .int .u64 0, .int .u64 0, .int .u64 0]), 17, 104) := by kernel_rfl
theorem size66 : (Try.prog.info? 66).map (·.size) = some 17 := by kernel_rfl

theorem zero66_at (Z : Array Value) (hZ : Z = #[.int .u32 0, .int .u32 0, .int .u32 0, .int .u32 0, .int .u32 0, .int .u32 0, .int .u32 0, .int .u32 0,
  .int .u64 0, .int .u64 0, .int .u64 0, .int .u64 0, .int .u64 0, .int .u64 0, .int .u64 0, .int .u64 0, .int .u64 0]) (r : Nat) (hr : r < 17) : Z[r]? = some (zero66 r) := by
  subst hZ
  match r, hr with
  | 0, _ | 1, _ | 2, _ | 3, _ | 4, _ | 5, _ | 6, _ | 7, _ | 8, _ | 9, _ | 10, _ | 11, _ | 12, _ | 13, _ | 14, _ | 15, _ | 16, _ => rfl
  | n + 17, h => omega

/-- 'make([]bucket, 131072)': a number N, of which only '131072 ≤ N' is told from here on, and the new row. -/
theorem make_table : ∃ (N : Nat) (A : Array Value), 131072 ≤ N ∧ A.size = N * 17 ∧ (∀ i, i < N * 17 → A[i]? = some (zero66 (i % 17))) ∧
    ∀ w : World, (Instr.makeSlice 70 (.int .i64 131072) (.int .i64 131072)).run Try.prog w = .ok (.slice (some ⟨w.heap.size, 0, none⟩) N N) (w.alloc (.cells A 66)) := by
  obtain ⟨i, hi, hzz⟩ := Option.map_eq_some_iff.1 info66
  simp only [Prod.mk.injEq] at hzz
  obtain ⟨hz1, hz2, hz3⟩ := hzz
  obtain ⟨Z, hZ⟩ : ∃ Z : Array Value, Z = #[.int .u32 0, .int .u32 0, .int .u32 0, .int .u32 0, .int .u32 0, .int .u32 0, .int .u32 0, .int .u32 0,
    .int .u64 0, .int .u64 0, .int .u64 0, .int .u64 0, .int .u64 0, .int .u64 0, .int .u64 0, .int .u64 0, .int .u64 0] := ⟨_, rfl⟩
  have hat := zero66_at Z hZ
  have hsz : Z.size = 17 := by rw [hZ]; rfl
  rw [← hZ] at hz1
  clear hZ
  obtain ⟨c, hc⟩ : ∃ c : Int, c = 131072 := ⟨_, rfl⟩
  obtain ⟨N, hN⟩ : ∃ N : Nat, N = c.toNat := ⟨_, rfl⟩
  refine ⟨N, madeCells Z (N * 17), by omega, size_madeCells _ _, fun j hj => ?_, fun w => ?_⟩
  · have hm : j % 17 < 17 := Nat.mod_lt _ (by omega)
    have h1 := hat _ hm
    have hm' : j % 17 < Z.size := by omega
    rw [Array.getElem?_eq_getElem hm'] at h1
    simp only [madeCells, hsz, Array.getElem?_map, Array.getElem?_range, hj, if_true, Option.map_some]
    simp [hm']
    simpa using h1
  · have hr := run_make (P := Try.prog) w 70 66 i (.agg Z) Try.underlying70 hi hz1 .i64 .i64 c c (by omega) (Int.le_refl _) (by rw [hz3]; omega) (by omega)
    rw [hz2, ← hN] at hr
    rw [← hc]
    exact hr

set_option maxHeartbeats 400000 in
theorem newTable_any (w : World) :
    Calls Try.prog 23 #[.int .u64 0] w fun e w' => e = .returned (.pointer (some ⟨w.heap.size + 1, 0, none⟩)) ∧ ∃ N, 131072 ≤ N ∧
      w'.cell? ⟨w.heap.size + 1, 0, none⟩ = some (.slice (some ⟨w.heap.size, 0, none⟩) N N) ∧ w'.rowIs w.heap.size 66 (N * 17) (fun i => zero66 (i % 17)) ∧ Below w.heap.size w w' ∧ w'.heap.size = w.heap.size + 2 := by
  obtain ⟨N, A, hN, hA, hA0, hmk⟩ := make_table
  have hrow := World.rowIs_alloc w A 66 (fun i => zero66 (i % 17)) (fun i hi => hA0 i (by omega))
  rw [hA] at hrow
  have HR : Hid ((w.alloc (.cells A 66)).rowIs w.heap.size 66 (N * 17) (fun i => zero66 (i % 17))) := hrow
  have HN : Hid (131072 ≤ N) := hN
  clear hrow hA hA0 hN
  go_enter Try.func23, Try.ntmps23
  go_wp2
  go_ret
  exact ⟨rfl, N, HN.out, by simp [go_sem], HR.out.alloc _, ((Below.refl _ _).alloc (Nat.le_refl _) _).alloc (by simp) _, by simp⟩

/-- A bucket's seventeen cells. -/
def bcells (l0 l1 l2 l3 l4 l5 l6 l7 x0 x1 x2 x3 x4 x5 x6 x7 e : Int) : List Value := [.int .u32 l0, .int .u32 l1, .int .u32 l2, .int .u32 l3, .int .u32 l4, .int .u32 l5, .int .u32 l6, .int .u32 l7, .int .u64 x0, .int .u64 x1, .int .u64 x2, .int .u64 x3, .int .u64 x4, .int .u64 x5, .int .u64 x6, .int .u64 x7, .int .u64 e]
theorem bcells_one (l0 l1 l2 l3 l4 l5 l6 l7 x0 x1 x2 x3 x4 x5 x6 x7 e : Int) : ∀ v ∈ bcells l0 l1 l2 l3 l4 l5 l6 l7 x0 x1 x2 x3 x4 x5 x6 x7 e, v.oneCell' = true := fun v hv => by
  simp only [bcells, List.mem_cons, List.not_mem_nil, or_false] at hv
  rcases hv with rfl | rfl | rfl | rfl | rfl | rfl | rfl | rfl | rfl | rfl | rfl | rfl | rfl | rfl | rfl | rfl | rfl <;> rfl

theorem build66 (l0 l1 l2 l3 l4 l5 l6 l7 x0 x1 x2 x3 x4 x5 x6 x7 e : Int) (w : World) :
    (Instr.build 66 #[(0, .agg #[.int .u32 l0, .int .u32 l1, .int .u32 l2, .int .u32 l3, .int .u32 l4, .int .u32 l5, .int .u32 l6, .int .u32 l7]), (1, .agg #[.int .u64 x0, .int .u64 x1, .int .u64 x2, .int .u64 x3, .int .u64 x4, .int .u64 x5, .int .u64 x6, .int .u64 x7]), (2, .int .u64 e)]).run Try.prog w = .ok (.agg (bcells l0 l1 l2 l3 l4 l5 l6 l7 x0 x1 x2 x3 x4 x5 x6 x7 e).toArray) w := by kernel_rfl

/-- What the two boxes of ZZSetBucket's parameters hold, and what the table holds: in the world behind them, and behind the draw. -/
theorem setBucket_world (T tb N : Nat) (l0 l1 l2 l3 l4 l5 l6 l7 x0 x1 x2 x3 x4 x5 x6 x7 : Int) (w : World) (hT : T < w.heap.size) (hc : w.cell? ⟨T, 0, none⟩ = some (.slice (some ⟨tb, 0, none⟩) N N)) :
    (fun w' : World => w'.cell? ⟨T, 0, none⟩ = some (.slice (some ⟨tb, 0, none⟩) N N) ∧ w'.cell? ⟨w.heap.size, 0, none⟩ = some (.int .u32 l0) ∧ w'.cell? ⟨w.heap.size, 1, none⟩ = some (.int .u32 l1) ∧ w'.cell? ⟨w.heap.size, 2, none⟩ = some (.int .u32 l2) ∧ w'.cell? ⟨w.heap.size, 3, none⟩ = some (.int .u32 l3) ∧ w'.cell? ⟨w.heap.size, 4, none⟩ = some (.int .u32 l4) ∧ w'.cell? ⟨w.heap.size, 5, none⟩ = some (.int .u32 l5) ∧ w'.cell? ⟨w.heap.size, 6, none⟩ = some (.int .u32 l6) ∧ w'.cell? ⟨w.heap.size, 7, none⟩ = some (.int .u32 l7) ∧ w'.cell? ⟨w.heap.size + 1, 0, none⟩ = some (.int .u64 x0) ∧ w'.cell? ⟨w.heap.size + 1, 1, none⟩ = some (.int .u64 x1) ∧ w'.cell? ⟨w.heap.size + 1, 2, none⟩ = some (.int .u64 x2) ∧ w'.cell? ⟨w.heap.size + 1, 3, none⟩ = some (.int .u64 x3) ∧ w'.cell? ⟨w.heap.size + 1, 4, none⟩ = some (.int .u64 x4) ∧ w'.cell? ⟨w.heap.size + 1, 5, none⟩ = some (.int .u64 x5) ∧ w'.cell? ⟨w.heap.size + 1, 6, none⟩ = some (.int .u64 x6) ∧ w'.cell? ⟨w.heap.size + 1, 7, none⟩ = some (.int .u64 x7)) ((w.alloc (.cells #[.int .u32 l0, .int .u32 l1, .int .u32 l2, .int .u32 l3, .int .u32 l4, .int .u32 l5, .int .u32 l6, .int .u32 l7] 23)).alloc (.cells #[.int .u64 x0, .int .u64 x1, .int .u64 x2, .int .u64 x3, .int .u64 x4, .int .u64 x5, .int .u64 x6, .int .u64 x7] 25)).drew := by
  have hl : ∀ j, ((w.alloc (.cells #[.int .u32 l0, .int .u32 l1, .int .u32 l2, .int .u32 l3, .int .u32 l4, .int .u32 l5, .int .u32 l6, .int .u32 l7] 23)).alloc (.cells #[.int .u64 x0, .int .u64 x1, .int .u64 x2, .int .u64 x3, .int .u64 x4, .int .u64 x5, .int .u64 x6, .int .u64 x7] 25)).drew.cell? ⟨w.heap.size, j, none⟩ = (#[.int .u32 l0, .int .u32 l1, .int .u32 l2, .int .u32 l3, .int .u32 l4, .int .u32 l5, .int .u32 l6, .int .u32 l7] : Array Value)[j]? := fun j => by
    show ((w.alloc (.cells #[.int .u32 l0, .int .u32 l1, .int .u32 l2, .int .u32 l3, .int .u32 l4, .int .u32 l5, .int .u32 l6, .int .u32 l7] 23)).alloc (.cells #[.int .u64 x0, .int .u64 x1, .int .u64 x2, .int .u64 x3, .int .u64 x4, .int .u64 x5, .int .u64 x6, .int .u64 x7] 25)).cell? ⟨w.heap.size, j, none⟩ = _
    rw [World.cell?_alloc_past _ _ _ (by simp), cell_of_row _ _ _ _ _ _ (heap_alloc_new w _)]
  have hw : ∀ j, ((w.alloc (.cells #[.int .u32 l0, .int .u32 l1, .int .u32 l2, .int .u32 l3, .int .u32 l4, .int .u32 l5, .int .u32 l6, .int .u32 l7] 23)).alloc (.cells #[.int .u64 x0, .int .u64 x1, .int .u64 x2, .int .u64 x3, .int .u64 x4, .int .u64 x5, .int .u64 x6, .int .u64 x7] 25)).drew.cell? ⟨w.heap.size + 1, j, none⟩ = (#[.int .u64 x0, .int .u64 x1, .int .u64 x2, .int .u64 x3, .int .u64 x4, .int .u64 x5, .int .u64 x6, .int .u64 x7] : Array Value)[j]? := fun j => by
    have := heap_alloc_new (w.alloc (.cells #[.int .u32 l0, .int .u32 l1, .int .u32 l2, .int .u32 l3, .int .u32 l4, .int .u32 l5, .int .u32 l6, .int .u32 l7] 23)) (.cells #[.int .u64 x0, .int .u64 x1, .int .u64 x2, .int .u64 x3, .int .u64 x4, .int .u64 x5, .int .u64 x6, .int .u64 x7] 25)
    rw [show (w.alloc (.cells #[.int .u32 l0, .int .u32 l1, .int .u32 l2, .int .u32 l3, .int .u32 l4, .int .u32 l5, .int .u32 l6, .int .u32 l7] 23)).heap.size = w.heap.size + 1 by simp] at this
    show ((w.alloc (.cells #[.int .u32 l0, .int .u32 l1, .int .u32 l2, .int .u32 l3, .int .u32 l4, .int .u32 l5, .int .u32 l6, .int .u32 l7] 23)).alloc (.cells #[.int .u64 x0, .int .u64 x1, .int .u64 x2, .int .u64 x3, .int .u64 x4, .int .u64 x5, .int .u64 x6, .int .u64 x7] 25)).cell? ⟨w.heap.size + 1, j, none⟩ = _
    rw [cell_of_row _ _ _ _ _ _ this]
  refine ⟨?_, (hl _).trans rfl, (hl _).trans rfl, (hl _).trans rfl, (hl _).trans rfl, (hl _).trans rfl, (hl _).trans rfl, (hl _).trans rfl, (hl _).trans rfl, (hw _).trans rfl, (hw _).trans rfl, (hw _).trans rfl, (hw _).trans rfl, (hw _).trans rfl, (hw _).trans rfl, (hw _).trans rfl, (hw _).trans rfl⟩
  show ((w.alloc (.cells #[.int .u32 l0, .int .u32 l1, .int .u32 l2, .int .u32 l3, .int .u32 l4, .int .u32 l5, .int .u32 l6, .int .u32 l7] 23)).alloc (.cells #[.int .u64 x0, .int .u64 x1, .int .u64 x2, .int .u64 x3, .int .u64 x4, .int .u64 x5, .int .u64 x6, .int .u64 x7] 25)).cell? ⟨T, 0, none⟩ = _
  rw [World.cell?_alloc_lt _ _ _ (by simp; omega), World.cell?_alloc_lt _ _ _ hT]; exact hc

/-- A region that draws its order, whose first n operations leave the world alone and whose tail stands in one order: one walk. (The kit's law, its world behind the draw under the walk's own name.) -/
theorem region_tail {P : Program} {id : Nat} {Q : Exit → Act → World → Prop} {a : Act} {w : World} {l : List Oper} (n : Nat) (hm : P.follows .mixedOrders = true) (hB : Region.lexTailB .any l.toArray n = true)
    (h : wpStill P l.toArray w.drew (fun a' => wpList P l.toArray Q (l.drop n) a' w.drew) (l.take n) a) : (Code.region id l.toArray true).wp P Q a w :=
  wp_region_still_tail n hm hB h

set_option maxRecDepth 100000 in
set_option maxHeartbeats 800000 in
theorem setBucket_core (T tb N i : Nat) (l0 l1 l2 l3 l4 l5 l6 l7 x0 x1 x2 x3 x4 x5 x6 x7 e : Int) (w : World) (hi : i < N) (hT : T < w.heap.size) (hc : w.cell? ⟨T, 0, none⟩ = some (.slice (some ⟨tb, 0, none⟩) N N)) (ht : w.there tb (i * 17) 17) :
    Calls Try.prog 26 #[.pointer (some ⟨T, 0, none⟩), .int .i64 i, .agg #[.int .u32 l0, .int .u32 l1, .int .u32 l2, .int .u32 l3, .int .u32 l4, .int .u32 l5, .int .u32 l6, .int .u32 l7], .agg #[.int .u64 x0, .int .u64 x1, .int .u64 x2, .int .u64 x3, .int .u64 x4, .int .u64 x5, .int .u64 x6, .int .u64 x7], .int .u64 e] w fun e' w' => e' = .returned (.tuple #[]) ∧
      w' = ((w.alloc (.cells #[.int .u32 l0, .int .u32 l1, .int .u32 l2, .int .u32 l3, .int .u32 l4, .int .u32 l5, .int .u32 l6, .int .u32 l7] 23)).alloc (.cells #[.int .u64 x0, .int .u64 x1, .int .u64 x2, .int .u64 x3, .int .u64 x4, .int .u64 x5, .int .u64 x6, .int .u64 x7] 25)).drew.setCells tb (i * 17) (bcells l0 l1 l2 l3 l4 l5 l6 l7 x0 x1 x2 x3 x4 x5 x6 x7 e) := by
  have i0 : (0 : Int) ≤ (i : Int) := Int.natCast_nonneg _
  have i1 : (i : Int) < (N : Int) := by omega
  have ht2 : ((w.alloc (.cells #[.int .u32 l0, .int .u32 l1, .int .u32 l2, .int .u32 l3, .int .u32 l4, .int .u32 l5, .int .u32 l6, .int .u32 l7] 23)).alloc (.cells #[.int .u64 x0, .int .u64 x1, .int .u64 x2, .int .u64 x3, .int .u64 x4, .int .u64 x5, .int .u64 x6, .int .u64 x7] 25)).drew.there tb (i * 17) 17 := World.there_alloc (World.there_alloc ht _) _
  have HT := aside2 ht2
  clear ht ht2
  go_enter Try.func26, Try.ntmps26
  go_wp2
  refine region_tail 10 (by kernel_rfl) (by kernel_rfl) ?_
  simp only [List.take_succ_cons, List.take_zero, List.drop_succ_cons, List.drop_zero]
  repeat still_step
  refine wpStill_nil ?_
  refine wpList_store_mid rfl 66 (.tmp 19) (.tmp 18) ?_ tb (i * 17) (bcells l0 l1 l2 l3 l4 l5 l6 l7 x0 x1 x2 x3 x4 x5 x6 x7 e).toArray ?_ ?_ ?_ size66 (all_oneCell_toArray (bcells_one l0 l1 l2 l3 l4 l5 l6 l7 x0 x1 x2 x3 x4 x5 x6 x7 e)) ?_
  · rfl
  · rfl
  · rfl
  · exact HT.out
  go_wp2
  go_end0
  exact ⟨rfl, rfl⟩
end Go.Proofs.Qxb6602885a.Low
