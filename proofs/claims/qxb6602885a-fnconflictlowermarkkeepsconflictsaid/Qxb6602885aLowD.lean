/-
  THE WALKS, part D: Conflict: the latest writer above the mark, over the two lists.
-/
import Derived.Test.Qxb6602885aLowPlain
import Derived.Test.Qxb6602885aLowC
namespace Go.Proofs.Qxb6602885a.Low
open Go.RowKit Go.Proofs Go.Deep

/-- A fact laid aside. -/
theorem aside {p : Prop} (h : p) : Hid p := h

theorem belowN {B : Nat} {a w : World} (h : Below B a w) : ∀ n, Below B a (w.drewN n)
  | 0 => h
  | n + 1 => (belowN h n).drew

set_option maxHeartbeats 400000 in
theorem conflict_core (T : Nat) (F : Int → Int) (hF : ∀ h, 0 ≤ F h ∧ F h ≤ 9223372036854775808) (m : Int) (w : World)
    (ao : Nat → Option Addr) (g o n c : Nat → Nat) (hs : Nat → Nat → Int)
    (hn : ∀ k, k < 2 → n k ≤ 1048576)
    (hao : ∀ k, k < 2 → 0 < n k → ao k = some ⟨g k, o k, none⟩ ∧ g k < w.heap.size)
    (hcs : ∀ k, k < 2 → ∀ j, j < n k → w.cell? ⟨g k, o k + j, none⟩ = some (.int .u32 (hs k j)))
    (hhs : ∀ k, k < 2 → ∀ j, j < n k → 0 ≤ hs k j ∧ hs k j < 4294967296)
    (HW : Hid (∀ wr, Below w.heap.size w wr → ∀ h, 0 ≤ h → h < 4294967296 → Calls Try.prog 35 #[.pointer (some ⟨T, 0, none⟩), .int .u32 h] wr fun e w' => e = .returned (.int .u64 (F h)) ∧ ∃ q, w' = wr.drewN q)) :
    Calls Try.prog 20 #[.pointer (some ⟨T, 0, none⟩), .agg #[.slice (ao 0) (n 0) (c 0), .slice (ao 1) (n 1) (c 1), .int .i64 m]] w fun e w' =>
      (accs F m n hs 2 = 0 ∧ e = .returned (.tuple #[.int .u64 0, .bool false]) ∨ accs F m n hs 2 ≠ 0 ∧ e = .returned (.tuple #[.int .u64 (accs F m n hs 2 - 1), .bool true])) ∧ Below w.heap.size w w' := by
  go_enter Try.func20, Try.ntmps20
  go_wp2
  go_loopw [18, 6] (fun i lt wr => ∃ k : Nat, k ≤ 2 ∧ i = .int .i64 k ∧ lt = .int .u64 (accs F m n hs k) ∧ Below w.heap.size w wr ∧ wr.cell? ⟨w.heap.size, 2, none⟩ = some (.int .i64 m) ∧
      ∀ j, j < 2 → wr.cell? ⟨w.heap.size + 1, j, none⟩ = some (.slice (ao j) (n j) (c j))) (fun i _ _ => 2 - (intOf i).toNat)
  case atStart =>
    refine ⟨0, by omega, rfl, rfl, ((Below.refl _ _).alloc (Nat.le_refl _) _).alloc (by simp) _, by simp [go_sem], fun j hj => ?_⟩
    match j, hj with
    | 0, _ => simp [go_sem]
    | 1, _ => simp [go_sem]
  case round =>
    obtain ⟨k, hk, rfl, rfl, hbel, hm2, hsl⟩ := hrel
    by_cases hlt : k < 2
    · have hslk := hsl k hlt
      have HS : Hid (∀ j, j < 2 → wr.cell? ⟨w.heap.size + 1, j, none⟩ = some (.slice (ao j) (n j) (c j))) := hsl
      have hnk := hn k hlt
      have hacc := accs_bd (m := m) (n := n) (hs := hs) (B := 9223372036854775808) (by decide) hF k
      have HAO := aside (hao k hlt)
      have HCS := aside (hcs k hlt)
      have HHS := aside (hhs k hlt)
      have HF : Hid (∀ h, 0 ≤ F h ∧ F h ≤ 9223372036854775808) := hF
      have hlt' : (k : Int) < 2 := by omega
      clear hsl hao hcs hhs hn hF
      by_cases hp : 0 < n k
      · obtain ⟨hA, hg⟩ := HAO.out hp
        go_wp2
        go_loopw [24, 6] (fun i lt wi => ∃ j : Nat, j ≤ n k ∧ i = .int .i64 j ∧ lt = .int .u64 (lat F m (hs k) j (accs F m n hs k)) ∧ Below w.heap.size w wi ∧ wi.cell? ⟨w.heap.size, 2, none⟩ = some (.int .i64 m) ∧
            ∀ j, j < 2 → wi.cell? ⟨w.heap.size + 1, j, none⟩ = some (.slice (ao j) (n j) (c j))) (fun i _ _ => n k - (intOf i).toNat)
        case atStart => exact ⟨0, by omega, rfl, rfl, hbel, hm2, HS.out⟩
        case round =>
          clear hbel hm2 hslk HS
          obtain ⟨j, hj, rfl, rfl, hbel, hm2, hsl⟩ := hrel
          have HS := aside hsl
          clear hsl
          by_cases hlj : j < n k
          · obtain ⟨hA, hg⟩ := HAO.out (by omega)
            have hcell := (hbel.cell (p := ⟨g k, o k + j, none⟩) hg).trans (HCS.out j hlj)
            have hh := HHS.out j hlj
            have hx := HF.out (hs k j)
            have hl := lat_bd (m := m) (hs := hs k) HF.out j _ hacc
            have HX := aside hx
            have HL := aside hl
            have hst : lat F m (hs k) (j + 1) (accs F m n hs k) = step F m (lat F m (hs k) j (accs F m n hs k)) (hs k j) := rfl
            have HST := aside hst
            have HH := aside hh
            clear hst hx hl hacc hh
            have hd : ∀ (wx : World) (q : Nat) (a : Addr), (wx.drewN q).cell? a = wx.cell? a := by simp
            have hHW := HW.out _ hbel (hs k j) HH.out.1 HH.out.2
            have HHW := aside hHW
            clear hHW
            by_cases hz : F (hs k j) = 0
            · go_wp2_with (go_at_call 35; refine HHW.out.mono ?_; rintro e w' ⟨rfl, q, rfl⟩)
              go_roundw
              case rel =>
                  exact ⟨j + 1, by omega, by go_num, by rw [HST.out, step_zero hz], belowN hbel q, by rw [hd]; exact hm2, fun j hj => by rw [hd]; exact HS.out j hj⟩
              case measure => simp [intOf]; omega
            · by_cases hm : F (hs k j) - 1 ≤ m
              · have hx := HX.out
                go_wp2_with (go_at_call 35; refine HHW.out.mono ?_; rintro e w' ⟨rfl, q, rfl⟩)
                go_roundw
                case rel =>
                      exact ⟨j + 1, by omega, by go_num, by rw [HST.out, step_low hm], belowN hbel q, by rw [hd]; exact hm2, fun j hj => by rw [hd]; exact HS.out j hj⟩
                case measure => simp [intOf]; omega
              · by_cases hl : F (hs k j) ≤ lat F m (hs k) j (accs F m n hs k)
                · have hx := HX.out
                  go_wp2_with (go_at_call 35; refine HHW.out.mono ?_; rintro e w' ⟨rfl, q, rfl⟩)
                  go_roundw
                  case rel =>
                          exact ⟨j + 1, by omega, by go_num, by rw [HST.out, step_keep hz (by omega) hl], belowN hbel q, by rw [hd]; exact hm2, fun j hj => by rw [hd]; exact HS.out j hj⟩
                  case measure => simp [intOf]; omega
                · have hx := HX.out
                  go_wp2_with (go_at_call 35; refine HHW.out.mono ?_; rintro e w' ⟨rfl, q, rfl⟩)
                  go_roundw
                  case rel =>
                          exact ⟨j + 1, by omega, by go_num, by rw [HST.out, step_up hz (by omega) (by omega)], belowN hbel q, by rw [hd]; exact hm2, fun j hj => by rw [hd]; exact HS.out j hj⟩
                  case measure => simp [intOf]; omega
          · go_wp2
            go_roundw
            case rel =>
              have e : n k = j := by omega
              refine ⟨k + 1, by omega, by go_num, ?_, hbel, hm2, HS.out⟩
              rw [show accs F m n hs (k + 1) = lat F m (hs k) (n k) (accs F m n hs k) from rfl, e]
            case measure => simp [intOf]; omega
      · have hz : n k = 0 := by omega
        have HZ := aside hz
        clear hz
        go_wp2
        go_loopw [24, 6] (fun i lt wi => i = .int .i64 0 ∧ lt = .int .u64 (accs F m n hs k) ∧ Below w.heap.size w wi ∧ wi.cell? ⟨w.heap.size, 2, none⟩ = some (.int .i64 m) ∧
            ∀ j, j < 2 → wi.cell? ⟨w.heap.size + 1, j, none⟩ = some (.slice (ao j) (n j) (c j))) (fun _ _ _ => 0)
        case atStart => exact ⟨rfl, rfl, hbel, hm2, HS.out⟩
        case round =>
          clear hbel hm2 hslk HS
          obtain ⟨rfl, rfl, hbel, hm2, hsl⟩ := hrel
          have HS := aside hsl
          clear hsl
          have hz0 : ¬ (0 : Int) < (n k : Int) := by have := HZ.out; omega
          go_wp2
          go_roundw
          case rel =>
            refine ⟨k + 1, by omega, by go_num, ?_, hbel, hm2, HS.out⟩
            rw [show accs F m n hs (k + 1) = lat F m (hs k) (n k) (accs F m n hs k) from rfl, HZ.out]; rfl
          case measure => simp [intOf]; omega
    · have e : k = 2 := by omega
      subst e
      have hacc := accs_bd (m := m) (n := n) (hs := hs) (B := 9223372036854775808) (by decide) hF 2
      clear hsl hao hcs hhs hn hF
      by_cases hz : accs F m n hs 2 = 0
      · go_wp2
        go_ret2
        exact ⟨.inl ⟨hz, rfl⟩, hbel⟩
      · go_wp2
        go_ret2
        exact ⟨.inr ⟨hz, rfl⟩, hbel⟩

theorem told_bd {L W : Nat → Int} {E h B : Int} (hw : ∀ s, s < 8 → 0 ≤ W s ∧ W s ≤ B) (he : 0 ≤ E ∧ E ≤ B) : 0 ≤ told L W E h ∧ told L W E h ≤ B := by
  rcases hit_or L W h 8 with ⟨s, hs, hh, hf⟩ | hn
  · rw [told_hit hs hh hf]; exact hw s hs
  · rw [told_none hn]; exact he

theorem says_bd {L W : Nat → Nat → Int} {E : Nat → Int} {B : Int} {N : Nat} (hN : 131072 ≤ N) (hw : ∀ i, i < N → ∀ s, s < 8 → 0 ≤ W i s ∧ W i s ≤ B) (he : ∀ i, i < N → 0 ≤ E i ∧ E i ≤ B) (h : Int) :
    0 ≤ says L W E h ∧ says L W E h ≤ B :=
  told_bd (hw _ (Nat.lt_of_lt_of_le (bk_lt h) hN)) (he _ (Nat.lt_of_lt_of_le (bk_lt h) hN))

theorem Tab.of_below {w w' : World} {T tb N B : Nat} {L W : Nat → Nat → Int} {E : Nat → Int} (h : Tab w T tb N L W E) (hb : Below B w w') (hT : T < B) (htb : tb < B) : Tab w' T tb N L W E :=
  ⟨(hb.cell (p := ⟨T, 0, none⟩) hT).trans h.head, h.wide, fun i hi => (h.buck i hi).of_cells fun j => hb.cell (p := ⟨tb, j, none⟩) htb⟩

/-- A table whose writers all fit: at most 2 to the 63. -/
structure Fits (w : World) (T tb N : Nat) (L W : Nat → Nat → Int) (E : Nat → Int) : Prop where
  tab : Tab w T tb N L W E
  lo : T < w.heap.size
  lob : tb < w.heap.size
  wr : ∀ i, i < N → ∀ s, s < 8 → 0 ≤ W i s ∧ W i s ≤ 9223372036854775808
  ev : ∀ i, i < N → 0 ≤ E i ∧ E i ≤ 9223372036854775808

theorem conflict_any (T tb N : Nat) (L W : Nat → Nat → Int) (E : Nat → Int) (m : Int) (w : World) (hT : Fits w T tb N L W E)
    (ao : Nat → Option Addr) (g o n c : Nat → Nat) (hs : Nat → Nat → Int)
    (hn : ∀ k, k < 2 → n k ≤ 1048576)
    (hao : ∀ k, k < 2 → 0 < n k → ao k = some ⟨g k, o k, none⟩ ∧ g k < w.heap.size)
    (hcs : ∀ k, k < 2 → ∀ j, j < n k → w.cell? ⟨g k, o k + j, none⟩ = some (.int .u32 (hs k j)))
    (hhs : ∀ k, k < 2 → ∀ j, j < n k → 0 ≤ hs k j ∧ hs k j < 4294967296) :
    Calls Try.prog 20 #[.pointer (some ⟨T, 0, none⟩), .agg #[.slice (ao 0) (n 0) (c 0), .slice (ao 1) (n 1) (c 1), .int .i64 m]] w fun e w' =>
      (accs (says L W E) m n hs 2 = 0 ∧ e = .returned (.tuple #[.int .u64 0, .bool false]) ∨ accs (says L W E) m n hs 2 ≠ 0 ∧ e = .returned (.tuple #[.int .u64 (accs (says L W E) m n hs 2 - 1), .bool true])) ∧ Below w.heap.size w w' :=
  conflict_core T (says L W E) (says_bd hT.tab.wide hT.wr hT.ev) m w ao g o n c hs hn hao hcs hhs
    (fun wr hb h h0 h1 => writer_any T tb N L W E h h0 h1 wr (hT.tab.of_below hb hT.lo hT.lob))
end Go.Proofs.Qxb6602885a.Low
