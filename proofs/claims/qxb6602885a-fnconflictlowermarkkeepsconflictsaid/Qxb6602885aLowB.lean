/-
  THE WALKS, part B: find: the first slot that holds the hash, or none.
-/
import Derived.Test.Qxb6602885aLowA
import Derived.Deep.MidRow
namespace Go.Proofs.Qxb6602885a.Low
open Go.RowKit Go.Proofs

/-- An array of one-cell elements by value, indexed. -/
theorem run_index_row (P : Program) (t e : TypeId) (n : Nat) (cs : Array Value) (w : World) (ht : P.underlying t = some (.array n e))
    (ha : (isAgg e).run P w = .ok false w) (hs : (sizeOf e).run P w = .ok 1 w) (k : Nat) (hk : k < n) (v : Value) (hv : cs[k]? = some v) (ik : IntKind) :
    (Instr.index t (.agg cs) (.int ik (k : Int))).run P w = .ok v w := by
  simp [Instr.index, asIntOf, run_underlying ht, hs, part, ha, hv]
  intro hn
  omega

/-- The eight cells of a row of uint64. -/
def row8 (W : Nat → Int) : List Value := (List.range 8).map fun s => .int .u64 (W s)
theorem row8_at (W : Nat → Int) (k : Nat) (hk : k < 8) : (row8 W)[k]? = some (.int .u64 (W k)) := by simp [row8, hk]
theorem row8_length (W : Nat → Int) : (row8 W).length = 8 := by simp [row8]

theorem size25 : (Try.prog.info? 25).map (·.size) = some 8 := by kernel_rfl

/-- The bucket at offset o of block tb: eight locks, eight writers, the evicted one. -/
structure Buck (w : World) (tb o : Nat) (L W : Nat → Int) (E : Int) : Prop where
  locks : ∀ s, s < 8 → w.cell? ⟨tb, o + s, none⟩ = some (.int .u32 (L s))
  writers : ∀ s, s < 8 → w.cell? ⟨tb, o + 8 + s, none⟩ = some (.int .u64 (W s))
  evicted : w.cell? ⟨tb, o + 16, none⟩ = some (.int .u64 E)

/-- Slot s holds the hash h. -/
def Hit (L W : Nat → Int) (h : Int) (s : Nat) : Prop := W s ≠ 0 ∧ L s = h

set_option maxHeartbeats 400000 in
theorem find_any (tb o : Nat) (L W : Nat → Int) (E h : Int) (w : World) (hb : Buck w tb o L W E) :
    Calls Try.prog 34 #[.pointer (some ⟨tb, o, none⟩), .int .u32 h] w fun e w' =>
      ((∃ s : Nat, s < 8 ∧ e = .returned (.tuple #[.int .i64 s, .bool true]) ∧ Hit L W h s ∧ ∀ j, j < s → ¬ Hit L W h j) ∨
       (∃ s : Nat, s < 8 ∧ e = .returned (.tuple #[.int .i64 s, .bool false]) ∧ ∀ j, j < 8 → ¬ Hit L W h j)) ∧ w' = w := by
  obtain ⟨hL, hW, hE⟩ := hb
  have hr : w.rangeAt tb (o + 8) (row8 W) := fun j v hv => by
    have hj : j < 8 := by have := (List.getElem?_eq_some_iff.1 hv).1; rwa [row8_length] at this
    rw [row8_at W j hj] at hv
    rw [← hv]; exact hW j hj
  have hsz : (Try.prog.info? 25).map (·.size) = some (row8 W).length := by rw [row8_length]; exact size25
  have hix : ∀ k : Nat, k < 8 → (Instr.index 25 (.agg (row8 W).toArray) (.int .i64 (k : Int))).run Try.prog w = .ok (.int .u64 (W k)) w := fun k hk =>
    run_index_row Try.prog 25 24 8 _ w Try.underlying25 (Try.isAgg24 w) (Try.sizeOf24 w) k hk _ (by simpa using row8_at W k hk) _
  go_enter Try.func34, Try.ntmps34
  go_wp2_with (refine wpList_load_mid rfl 25 _ rfl tb (o + 8) rfl (row8 W) _ hr Try.underlying25 rfl hsz ?_)
  clear hr hsz
  go_loop [6, 13] (fun q i => ∃ k o' : Nat, k ≤ 8 ∧ o' < 8 ∧ i = .int .i64 k ∧ q = .int .i64 o' ∧ ∀ j, j < k → ¬ Hit L W h j) (fun _ i => 8 - (intOf i).toNat)
  case atStart => exact ⟨0, 0, by omega, by omega, rfl, rfl, fun j hj => by omega⟩
  case round =>
    obtain ⟨k, o', hk, ho', rfl, rfl, hno⟩ := hrel
    have HN : Hid (∀ j, j < k → ¬ Hit L W h j) := hno
    clear hno
    by_cases hlt : k < 8
    · have c1 := hix k hlt
      have c2 := hL k hlt
      have c3 := hW o' ho'
      clear hix hL hW
      have more : ¬ Hit L W h k → ∀ j, j < k + 1 → ¬ Hit L W h j := fun hk' j hj => by
        rcases Nat.lt_succ_iff_lt_or_eq.1 hj with h' | rfl
        · exact HN.out j h'
        · exact hk'
      have HM : Hid (¬ Hit L W h k → ∀ j, j < k + 1 → ¬ Hit L W h j) := more
      clear more
      go_wp2
      · go_round
        case rel =>
          have hz : W k = 0 := by assumption
          exact ⟨k + 1, k, by omega, by omega, by go_num, rfl, HM.out (fun hh => hh.1 hz)⟩
        case measure => simp [intOf]; omega
      · go_round
        case rel =>
          have hz : W k = 0 := by assumption
          exact ⟨k + 1, o', by omega, by omega, by go_num, rfl, HM.out (fun hh => hh.1 hz)⟩
        case measure => simp [intOf]; omega
      · have hh : (W k != 0) = true ∧ (L k == h) = true := by assumption
        go_ret2
        exact ⟨.inl ⟨k, hlt, rfl, ⟨by simpa using hh.1, by simpa using hh.2⟩, HN.out⟩, rfl⟩
      · go_round
        case rel =>
          have hh : (W k != 0) = false ∨ (L k == h) = false := by assumption
          exact ⟨k + 1, k, by omega, by omega, by go_num, rfl, HM.out (fun hh' => by rcases hh with hh | hh <;> simp [hh'.1, hh'.2] at hh)⟩
        case measure => simp [intOf]; omega
      · go_round
        case rel =>
          have hh : (W k != 0) = false ∨ (L k == h) = false := by assumption
          exact ⟨k + 1, o', by omega, by omega, by go_num, rfl, HM.out (fun hh' => by rcases hh with hh | hh <;> simp [hh'.1, hh'.2] at hh)⟩
        case measure => simp [intOf]; omega
    · clear hix hL hW
      go_wp2
      go_ret2
      exact ⟨.inr ⟨o', ho', rfl, fun j hj => HN.out j (by omega)⟩, rfl⟩

/-- What the bucket tells of a hash: its writer where a slot holds it, else the evicted one. -/
def told (L W : Nat → Int) (E h : Int) : Int :=
  match (List.range 8).find? (fun s => W s != 0 && L s == h) with
  | some s => W s
  | none => E

theorem told_hit {L W : Nat → Int} {E h : Int} {s : Nat} (hs : s < 8) (hh : Hit L W h s) (hf : ∀ j, j < s → ¬ Hit L W h j) : told L W E h = W s := by
  have e : (List.range 8).find? (fun s => W s != 0 && L s == h) = some s := by
    rw [List.find?_range_eq_some]
    refine ⟨?_, ?_, ?_⟩
    · simp [hh.1, hh.2]
    · simpa using hs
    · intro j hj
      have := hf j hj
      unfold Hit at this
      simp only [ne_eq, not_and] at this
      by_cases hz : W j = 0
      · simp [hz]
      · simp [hz, this hz]
  simp [told, e]

theorem told_none {L W : Nat → Int} {E h : Int} (hf : ∀ j, j < 8 → ¬ Hit L W h j) : told L W E h = E := by
  have e : (List.range 8).find? (fun s => W s != 0 && L s == h) = none := by
    rw [List.find?_eq_none]
    intro j hj
    have := hf j (by simpa using hj)
    unfold Hit at this
    simp only [ne_eq, not_and] at this
    by_cases hz : W j = 0
    · simp [hz]
    · simp [hz, this hz]
  simp [told, e]
end Go.Proofs.Qxb6602885a.Low
