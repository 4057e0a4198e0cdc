/-
  THE WALKS, part K: the callees' contracts as the law's own walk wants them: from slices that the call made ('Own'), whether or not they are empty.
-/
import Derived.Test.Qxb6602885aLowI
import Derived.Test.Qxb6602885aLowJ
namespace Go.Proofs.Qxb6602885a.Low
open Go.RowKit Go.Proofs

theorem Src.of_below {w w' : World} {ao : Option Addr} {n m : Nat} {k : IntKind} {f : Nat → Int} (h : Src w ao n m k f) (hm : 0 < n → 0 < m) (hb : Below w.heap.size w w') : Src w' ao n m k f := fun hn => by
  obtain ⟨b, off, rfl, hc⟩ := h hn
  have hlt := World.block_lt_of_cell? w _ (hc 0 (hm hn))
  exact ⟨b, off, rfl, fun j hj => (hb.cell (p := ⟨b, off + j, none⟩) hlt).trans (hc j hj)⟩

theorem Own.of_below {w w' : World} {lo n m : Nat} {ao : Option Addr} {t : TypeId} {k : IntKind} {f : Nat → Int} (h : Own w lo ao n m t k f) (hb : Below w.heap.size w w') : Own w' lo ao n m t k f := fun hn => by
  obtain ⟨g, rfl, hl, hr⟩ := h hn
  exact ⟨g, rfl, hl, hr.of_block (hb.block g hr.lt)⟩

theorem Own.cells {w : World} {lo n m : Nat} {ao : Option Addr} {t : TypeId} {k : IntKind} {f : Nat → Int} (h : Own w lo ao n m t k f) (hn : 0 < n) :
    ∃ g, ao = some ⟨g, 0, none⟩ ∧ g < w.heap.size ∧ ∀ j, j < m → w.cell? ⟨g, j, none⟩ = some (.int k (f j)) := by
  obtain ⟨g, rfl, _, hr⟩ := h hn
  exact ⟨g, rfl, hr.lt, fun j hj => hr.cell hj⟩

theorem sparse_own (a0 a1 a2 a3 : Option Addr) (n c0 c1 c2 c3 l0 l1 l2 l3 : Nat) (ix bl bw be : Nat → Int) (hn : n ≤ 1048576) (w : World)
    (o0 : Own w l0 a0 n n 22 .u32 ix) (o1 : Own w l1 a1 n (n * 8) 23 .u32 bl) (o2 : Own w l2 a2 n (n * 8) 25 .u64 bw) (o3 : Own w l3 a3 n n 24 .u64 be)
    (b0 : ∀ j, j < n → 0 ≤ ix j ∧ ix j < 131072) (b2 : ∀ j, j < n * 8 → 0 ≤ bw j ∧ bw j ≤ 9223372036854775808) (b3 : ∀ j, j < n → 0 ≤ be j ∧ be j ≤ 9223372036854775808) :
    Calls Try.prog 19 #[.slice a0 n c0, .slice a1 n c1, .slice a2 n c2, .slice a3 n c3] w fun e w' =>
      e = .returned (.pointer (some ⟨w.heap.size + 1, 0, none⟩)) ∧ (∃ N L W E, TabR w' (w.heap.size + 1) w.heap.size N L W E) ∧ Below w.heap.size w w' := by
  by_cases hp : 0 < n
  · obtain ⟨g0, rfl, _, h0⟩ := o0.cells hp
    obtain ⟨g1, rfl, _, h1⟩ := o1.cells hp
    obtain ⟨g2, rfl, _, h2⟩ := o2.cells hp
    obtain ⟨g3, rfl, _, h3⟩ := o3.cells hp
    exact sparse_some g0 g1 g2 g3 n c0 c1 c2 c3 (fun j => (ix j).toNat) bl bw be hn w (fun j hj => by rw [h0 j hj, Int.toNat_of_nonneg (b0 j hj).1]) h1 h2 h3 (fun j hj => by have := b0 j hj; omega) b2 b3
  · have e : n = 0 := by omega
    subst e
    exact sparse_none a0 a1 a2 a3 0 0 0 c0 c1 c2 c3 w

/-- The two lists' lengths, and what they hold, by number. -/
def two {α : Type} (x y : α) (k : Nat) : α := if k = 0 then x else y

/-- The latest writer above the mark m, plus one; 0 for none. -/
def latest (L W : Nat → Nat → Int) (E : Nat → Int) (n4 n5 : Nat) (f4 f5 : Nat → Int) (m : Int) : Int := accs (says L W E) m (two n4 n5) (two f4 f5) 2

theorem latest_bd {w : World} {T tb N : Nat} {L W : Nat → Nat → Int} {E : Nat → Int} (h : TabR w T tb N L W E) (n4 n5 : Nat) (f4 f5 : Nat → Int) (m : Int) : 0 ≤ latest L W E n4 n5 f4 f5 m ∧ latest L W E n4 n5 f4 f5 m ≤ 9223372036854775808 :=
  accs_bd (by decide) (says_bd h.wide h.wr h.ev) 2

theorem latest_rel {w : World} {T tb N : Nat} {L W : Nat → Nat → Int} {E : Nat → Int} (h : TabR w T tb N L W E) (n4 n5 : Nat) (f4 f5 : Nat → Int) {lo hi : Int} (hle : lo ≤ hi) :
    Rel lo hi (latest L W E n4 n5 f4 f5 lo) (latest L W E n4 n5 f4 f5 hi) :=
  accs_rel hle (fun h' => (says_bd h.wide h.wr h.ev h').1) 2

theorem conflict_own (T tb N : Nat) (L W : Nat → Nat → Int) (E : Nat → Int) (m : Int) (w : World) (hT : Fits w T tb N L W E) (a4 a5 : Option Addr) (n4 n5 c4 c5 l4 l5 : Nat) (f4 f5 : Nat → Int) (h4 : n4 ≤ 1048576) (h5 : n5 ≤ 1048576)
    (o4 : Own w l4 a4 n4 n4 22 .u32 f4) (o5 : Own w l5 a5 n5 n5 22 .u32 f5) (b4 : ∀ j, j < n4 → 0 ≤ f4 j ∧ f4 j < 4294967296) (b5 : ∀ j, j < n5 → 0 ≤ f5 j ∧ f5 j < 4294967296) :
    Calls Try.prog 20 #[.pointer (some ⟨T, 0, none⟩), .agg #[.slice a4 n4 c4, .slice a5 n5 c5, .int .i64 m]] w fun e w' =>
      (latest L W E n4 n5 f4 f5 m = 0 ∧ e = .returned (.tuple #[.int .u64 0, .bool false]) ∨ latest L W E n4 n5 f4 f5 m ≠ 0 ∧ e = .returned (.tuple #[.int .u64 (latest L W E n4 n5 f4 f5 m - 1), .bool true])) ∧ Below w.heap.size w w' := by
  obtain ⟨g4, hg4⟩ : ∃ g, 0 < n4 → a4 = some ⟨g, 0, none⟩ ∧ g < w.heap.size ∧ ∀ j, j < n4 → w.cell? ⟨g, j, none⟩ = some (.int .u32 (f4 j)) := by
    by_cases hp : 0 < n4
    · obtain ⟨g, h⟩ := o4.cells hp; exact ⟨g, fun _ => h⟩
    · exact ⟨0, fun h => absurd h hp⟩
  obtain ⟨g5, hg5⟩ : ∃ g, 0 < n5 → a5 = some ⟨g, 0, none⟩ ∧ g < w.heap.size ∧ ∀ j, j < n5 → w.cell? ⟨g, j, none⟩ = some (.int .u32 (f5 j)) := by
    by_cases hp : 0 < n5
    · obtain ⟨g, h⟩ := o5.cells hp; exact ⟨g, fun _ => h⟩
    · exact ⟨0, fun h => absurd h hp⟩
  refine conflict_any T tb N L W E m w hT (two a4 a5) (two g4 g5) (fun _ => 0) (two n4 n5) (two c4 c5) (two f4 f5) ?_ ?_ ?_ ?_
  · intro k hk
    match k, hk with
    | 0, _ => exact h4
    | 1, _ => exact h5
  · intro k hk hp
    match k, hk with
    | 0, _ => exact ⟨(hg4 hp).1, (hg4 hp).2.1⟩
    | 1, _ => exact ⟨(hg5 hp).1, (hg5 hp).2.1⟩
  · intro k hk j hj
    rw [Nat.zero_add]
    match k, hk with
    | 0, _ => exact (hg4 (Nat.lt_of_le_of_lt (Nat.zero_le _) hj)).2.2 j hj
    | 1, _ => exact (hg5 (Nat.lt_of_le_of_lt (Nat.zero_le _) hj)).2.2 j hj
  · intro k hk j hj
    match k, hk with
    | 0, _ => exact b4 j hj
    | 1, _ => exact b5 j hj
end Go.Proofs.Qxb6602885a.Low
