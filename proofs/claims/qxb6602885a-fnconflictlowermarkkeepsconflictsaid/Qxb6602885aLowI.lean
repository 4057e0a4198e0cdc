/-
  THE WALKS, part I: zzSparseTable.
-/
import Derived.Test.Qxb6602885aLowH
namespace Go.Proofs.Qxb6602885a.Low
open Go.RowKit Go.Proofs

set_option maxHeartbeats 400000 in
theorem sparse_none (a0 a1 a2 a3 : Option Addr) (n1 n2 n3 c0 c1 c2 c3 : Nat) (w : World) :
    Calls Try.prog 19 #[.slice a0 0 c0, .slice a1 n1 c1, .slice a2 n2 c2, .slice a3 n3 c3] w fun e w' =>
      e = .returned (.pointer (some ⟨w.heap.size + 1, 0, none⟩)) ∧ (∃ N L W E, TabR w' (w.heap.size + 1) w.heap.size N L W E) ∧ Below w.heap.size w w' := by
  have HNT := newTable_any
  go_enter Try.func19, Try.ntmps19
  go_wp2_with (go_at_call 23; refine (newTable_any w).mono ?_; rintro e w' ⟨rfl, N, hN, hc, hr, hb, hs⟩)
  have HT : Hid (∃ N L W E, TabR w' (w.heap.size + 1) w.heap.size N L W E) := ⟨_, _, _, _, TabR.start w' _ _ N hN (by omega) hc hr⟩
  clear hN hc hr hs HNT
  go_loopw [10] (fun i wr => i = .int .i64 0 ∧ wr = w') (fun _ _ => 0)
  case atStart => exact ⟨rfl, rfl⟩
  case round =>
    obtain ⟨rfl, rfl⟩ := hrel
    go_wp2
    go_ret
    exact ⟨rfl, HT.out, hb⟩

theorem TabR.drew {w : World} {T tb N : Nat} {L W : Nat → Nat → Int} {E : Nat → Int} (h : TabR w T tb N L W E) : TabR w.drew T tb N L W E :=
  ⟨h.head, h.wide, h.ne, h.row, h.wr, h.ev⟩

set_option maxRecDepth 100000 in
set_option maxHeartbeats 800000 in
theorem sparse_some (g0 g1 g2 g3 n c0 c1 c2 c3 : Nat) (ix : Nat → Nat) (bl bw be : Nat → Int) (hn : n ≤ 1048576) (w : World)
    (h0 : ∀ j, j < n → w.cell? ⟨g0, j, none⟩ = some (.int .u32 (ix j))) (h1 : ∀ j, j < n * 8 → w.cell? ⟨g1, j, none⟩ = some (.int .u32 (bl j)))
    (h2 : ∀ j, j < n * 8 → w.cell? ⟨g2, j, none⟩ = some (.int .u64 (bw j))) (h3 : ∀ j, j < n → w.cell? ⟨g3, j, none⟩ = some (.int .u64 (be j)))
    (b0 : ∀ j, j < n → ix j < 131072) (b2 : ∀ j, j < n * 8 → 0 ≤ bw j ∧ bw j ≤ 9223372036854775808) (b3 : ∀ j, j < n → 0 ≤ be j ∧ be j ≤ 9223372036854775808) :
    Calls Try.prog 19 #[.slice (some ⟨g0, 0, none⟩) n c0, .slice (some ⟨g1, 0, none⟩) n c1, .slice (some ⟨g2, 0, none⟩) n c2, .slice (some ⟨g3, 0, none⟩) n c3] w fun e w' =>
      e = .returned (.pointer (some ⟨w.heap.size + 1, 0, none⟩)) ∧ (∃ N L W E, TabR w' (w.heap.size + 1) w.heap.size N L W E) ∧ Below w.heap.size w w' := by
  have H0 := aside h0
  have H1 := aside h1
  have H2 := aside h2
  have H3 := aside h3
  have B0 := aside b0
  have B2 := aside b2
  have B3 := aside b3
  clear h0 h1 h2 h3 b0 b2 b3
  go_enter Try.func19, Try.ntmps19
  go_wp2_with (go_at_call 23; refine (newTable_any w).mono ?_; rintro e w' ⟨rfl, N, hN, hc, hr, hb, hs⟩)
  have HT : Hid (∃ L W E, TabR w' (w.heap.size + 1) w.heap.size N L W E) := ⟨_, _, _, TabR.start w' _ _ N hN (by omega) hc hr⟩
  have HN : Hid (131072 ≤ N) := hN
  clear hN hc hr hs
  go_loopw [10] (fun i wr => ∃ k : Nat, k ≤ n ∧ i = .int .i64 k ∧ (∃ L W E, TabR wr (w.heap.size + 1) w.heap.size N L W E) ∧ Below w.heap.size w wr) (fun i _ => n - (intOf i).toNat)
  case atStart => exact ⟨0, by omega, rfl, HT.out, hb⟩
  case round =>
    obtain ⟨k, hk, rfl, ⟨L, W, E, hT⟩, hbel⟩ := hrel
    clear HT hb
    by_cases hlt : k < n
    · have d0 := H0.out k hlt
      have d3 := H3.out k hlt
      have hbk0 := World.block_lt_of_cell? w _ d0
      have hbk1 := World.block_lt_of_cell? w _ (H1.out (k * 8) (by omega))
      have hbk2 := World.block_lt_of_cell? w _ (H2.out (k * 8) (by omega))
      have hbk3 := World.block_lt_of_cell? w _ d3
      have e0 := (hbel.cell hbk0).trans d0
      have e3 := (hbel.cell hbk3).trans d3
      have hl : ∀ s, s < 8 → wr.cell? ⟨g1, k * 8 + s, none⟩ = some (.int .u32 (bl (k * 8 + s))) := fun s hs => (hbel.cell (p := ⟨g1, k * 8 + s, none⟩) hbk1).trans (H1.out (k * 8 + s) (by omega))
      have hx : ∀ s, s < 8 → wr.cell? ⟨g2, k * 8 + s, none⟩ = some (.int .u64 (bw (k * 8 + s))) := fun s hs => (hbel.cell (p := ⟨g2, k * 8 + s, none⟩) hbk2).trans (H2.out (k * 8 + s) (by omega))
      have a0 := hl 0 (by omega)
      have a1 := hl 1 (by omega)
      have a2 := hl 2 (by omega)
      have a3 := hl 3 (by omega)
      have a4 := hl 4 (by omega)
      have a5 := hl 5 (by omega)
      have a6 := hl 6 (by omega)
      have a7 := hl 7 (by omega)
      have b0 := hx 0 (by omega)
      have b1 := hx 1 (by omega)
      have b2 := hx 2 (by omega)
      have b3 := hx 3 (by omega)
      have b4 := hx 4 (by omega)
      have b5 := hx 5 (by omega)
      have b6 := hx 6 (by omega)
      have b7 := hx 7 (by omega)
      have k0 : (0 : Int) ≤ (k : Int) := Int.natCast_nonneg _
      have k1 : (k : Int) < (n : Int) := by omega
      have i0 : (0 : Int) ≤ (ix k : Int) := Int.natCast_nonneg _
      have i1 : (ix k : Int) < 131072 := by have := B0.out k hlt; omega
      simp only [Nat.add_zero] at a0 b0
      have hwr : IntKind.i64.wrap (ix k : Int) = (ix k : Int) := by rw [IntKind.wrap_i64]; omega
      have HC := aside (setBucket_any (w.heap.size + 1) w.heap.size N (ix k) L W E (fun s => bl (k * 8 + s)) (fun s => bw (k * 8 + s)) (be k) wr.drew (hT.drew) (Nat.lt_of_lt_of_le (B0.out k hlt) HN.out) (fun s hs => B2.out (k * 8 + s) (by omega)) (B3.out k hlt) w.heap.size w (Nat.le_refl _) hbel.drew)
      simp only [Nat.add_zero] at HC
      clear hl hx d0 d3 hbk0 hbk1 hbk2 hbk3
      go_wp2_with fail
      refine region_tail 18 (by kernel_rfl) (by kernel_rfl) ?_
      simp only [List.take_succ_cons, List.take_zero, List.drop_succ_cons, List.drop_zero]
      repeat still_step
      refine wpStill_nil ?_
      go_wp2_with (go_at_call 26; refine HC.out.mono ?_; rintro e w2 ⟨rfl, hT2, hb2⟩)
      go_roundw
      case rel => exact ⟨k + 1, by omega, by go_num, hT2, hb2⟩
      case measure => simp [intOf]; omega
    · go_wp2
      go_ret
      exact ⟨rfl, ⟨N, L, W, E, hT⟩, hbel⟩
end Go.Proofs.Qxb6602885a.Low
