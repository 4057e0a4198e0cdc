/-
  THE WALKS, part C: writer: what the table tells of a hash.
-/
import Derived.Test.Qxb6602885aLowB
import Derived.Deep.QuietTactic
import Derived.BigQuiet
namespace Go.Proofs.Qxb6602885a.Low
open Go.RowKit Go.Proofs Go.Deep

/-- A bucket reads the same in whatever world has the same cells. -/
theorem Buck.of_cells {w w' : World} {tb o : Nat} {L W : Nat → Int} {E : Int} (h : Buck w tb o L W E) (hc : ∀ j, w'.cell? ⟨tb, j, none⟩ = w.cell? ⟨tb, j, none⟩) : Buck w' tb o L W E :=
  ⟨fun s hs => (hc _).trans (h.locks s hs), fun s hs => (hc _).trans (h.writers s hs), (hc _).trans h.evicted⟩

/-- The table at T: its slice of N buckets lies in block tb. -/
structure Tab (w : World) (T tb N : Nat) (L W : Nat → Nat → Int) (E : Nat → Int) : Prop where
  head : w.cell? ⟨T, 0, none⟩ = some (.slice (some ⟨tb, 0, none⟩) N N)
  wide : 131072 ≤ N
  buck : ∀ i, i < N → Buck w tb (i * 17) (L i) (W i) (E i)

/-- What the table tells of a hash. -/
def says (L W : Nat → Nat → Int) (E : Nat → Int) (h : Int) : Int := told (L (bk h)) (W (bk h)) (E (bk h)) h

/-- Some slot is the first that holds h, or none holds it. -/
theorem hit_or (L W : Nat → Int) (h : Int) : ∀ n : Nat, (∃ s, s < n ∧ Hit L W h s ∧ ∀ j, j < s → ¬ Hit L W h j) ∨ (∀ j, j < n → ¬ Hit L W h j)
  | 0 => .inr fun j hj => absurd hj (Nat.not_lt_zero _)
  | n + 1 => by
    rcases hit_or L W h n with ⟨s, hs, hh, hf⟩ | hn
    · exact .inl ⟨s, by omega, hh, hf⟩
    · by_cases hh : Hit L W h n
      · exact .inl ⟨n, by omega, hh, hn⟩
      · refine .inr fun j hj => ?_
        rcases Nat.lt_succ_iff_lt_or_eq.1 hj with h' | rfl
        · exact hn j h'
        · exact hh

theorem find_yes (tb o : Nat) (L W : Nat → Int) (E h : Int) (w : World) (hb : Buck w tb o L W E) (s : Nat) (hs : s < 8) (hh : Hit L W h s) (hf : ∀ j, j < s → ¬ Hit L W h j) :
    Calls Try.prog 34 #[.pointer (some ⟨tb, o, none⟩), .int .u32 h] w fun e w' => e = .returned (.tuple #[.int .i64 s, .bool true]) ∧ w' = w := by
  refine (find_any tb o L W E h w hb).mono fun e w' ⟨hd, hw⟩ => ⟨?_, hw⟩
  rcases hd with ⟨s', _, he, hh', hf'⟩ | ⟨_, _, _, hn⟩
  · have : s' = s := by
      rcases Nat.lt_trichotomy s' s with hlt | he | hlt
      · exact absurd hh' (hf _ hlt)
      · exact he
      · exact absurd hh (hf' _ hlt)
    rw [he, this]
  · exact absurd hh (hn s hs)

theorem find_no (tb o : Nat) (L W : Nat → Int) (E h : Int) (w : World) (hb : Buck w tb o L W E) (hn : ∀ j, j < 8 → ¬ Hit L W h j) :
    Calls Try.prog 34 #[.pointer (some ⟨tb, o, none⟩), .int .u32 h] w fun e w' => (∃ s : Nat, e = .returned (.tuple #[.int .i64 s, .bool false])) ∧ w' = w := by
  refine (find_any tb o L W E h w hb).mono fun e w' ⟨hd, hw⟩ => ⟨?_, hw⟩
  rcases hd with ⟨s', hs', he, hh', hf'⟩ | ⟨s', _, he, _⟩
  · exact absurd hh' (hn s' hs')
  · exact ⟨s', he⟩

set_option maxHeartbeats 400000 in
theorem writer_core (T tb N i : Nat) (L W : Nat → Int) (E h : Int) (w : World) (hi : i < N)
    (HB : Hid (∀ w : World, Calls Try.prog 36 #[.int .u32 h] w fun e w' => e = .returned (.int .i64 i) ∧ w' = w))
    (hc : w.cell? ⟨T, 0, none⟩ = some (.slice (some ⟨tb, 0, none⟩) N N)) (hbu : Buck w tb (i * 17) L W E) :
    Calls Try.prog 35 #[.pointer (some ⟨T, 0, none⟩), .int .u32 h] w fun e w' => e = .returned (.int .u64 (told L W E h)) ∧ ∃ n, w' = w.drewN n := by
  have b0 : (0 : Int) ≤ (i : Int) := Int.natCast_nonneg _
  have b1 : (i : Int) < (N : Int) := by omega
  have HU : Hid (∀ n, Buck (w.drewN n) tb (i * 17) L W E) := fun n => hbu.of_cells fun j => by simp
  rcases hit_or L W h 8 with ⟨s, hs, hh, hf⟩ | hn
  · have ht : told L W E h = W s := told_hit hs hh hf
    have hws : ∀ n, (w.drewN n).cell? ⟨tb, i * 17 + 8 + s, none⟩ = some (.int .u64 (W s)) := fun n => (HU.out n).writers s hs
    rw [ht]
    have HH : Hid (Hit L W h s ∧ ∀ j, j < s → ¬ Hit L W h j) := ⟨hh, hf⟩
    clear ht hh hf hbu
    go_enter Try.func35, Try.ntmps35
    go_wp2_with fail
    go_quiet ((go_at_call 36; exact Calls.quiet_of_same (HB.out _)))
    go_wp2_with (go_at_call 34; refine (find_yes tb (i * 17) L W E h _ (HU.out _) s hs HH.out.1 HH.out.2).mono ?_; rintro e w' ⟨rfl, rfl⟩)
    go_ret
    exact ⟨rfl, _, rfl⟩
  · have ht : told L W E h = E := told_none hn
    have hev : ∀ n, (w.drewN n).cell? ⟨tb, i * 17 + 16, none⟩ = some (.int .u64 E) := fun n => (HU.out n).evicted
    rw [ht]
    have HH : Hid (∀ j, j < 8 → ¬ Hit L W h j) := hn
    clear ht hn hbu
    go_enter Try.func35, Try.ntmps35
    go_wp2_with fail
    go_quiet ((go_at_call 36; exact Calls.quiet_of_same (HB.out _)))
    go_wp2_with (go_at_call 34; refine (find_no tb (i * 17) L W E h _ (HU.out _) HH.out).mono ?_; rintro e w' ⟨⟨s, rfl⟩, rfl⟩)
    go_ret
    exact ⟨rfl, _, rfl⟩

theorem writer_any (T tb N : Nat) (L W : Nat → Nat → Int) (E : Nat → Int) (h : Int) (h0 : 0 ≤ h) (h1 : h < 4294967296) (w : World) (hT : Tab w T tb N L W E) :
    Calls Try.prog 35 #[.pointer (some ⟨T, 0, none⟩), .int .u32 h] w fun e w' => e = .returned (.int .u64 (says L W E h)) ∧ ∃ n, w' = w.drewN n := by
  have hi : bk h < N := Nat.lt_of_lt_of_le (bk_lt h) hT.wide
  have HB : Hid (∀ w : World, Calls Try.prog 36 #[.int .u32 h] w fun e w' => e = .returned (.int .i64 (bk h)) ∧ w' = w) := bucketOf_any h h0 h1
  unfold says
  have hbu := hT.buck (bk h) hi
  revert HB hi hbu
  generalize bk h = i
  intro hi HB hbu
  exact writer_core T tb N i (L i) (W i) (E i) h w hi HB hT.head hbu
end Go.Proofs.Qxb6602885a.Low
