/-
  THE WALKS, part N: the law's own walk: the loops over the writers, the clones, the table, the two conflicts, the tests.
-/
import Derived.Test.Qxb6602885aLowM
namespace Go.Proofs.Qxb6602885a.Low
open Go.RowKit Go.Proofs

theorem Fits.of_below {w w' : World} {T tb N : Nat} {L W : Nat → Nat → Int} {E : Nat → Int} (h : Fits w T tb N L W E) (hb : Below w.heap.size w w') : Fits w' T tb N L W E :=
  ⟨h.tab.of_below hb h.lo h.lob, Nat.lt_of_lt_of_le h.lo hb.size, Nat.lt_of_lt_of_le h.lob hb.size, h.wr, h.ev⟩

/-- What Conflict hands back, by the latest writer above the mark. -/
theorem conflict_zero {T tb N : Nat} {L W : Nat → Nat → Int} {E : Nat → Int} {m : Int} {w : World} {a4 a5 : Option Addr} {n4 n5 c4 c5 l4 l5 : Nat} {f4 f5 : Nat → Int} (hT : Fits w T tb N L W E) (h4 : n4 ≤ 1048576) (h5 : n5 ≤ 1048576)
    (o4 : Own w l4 a4 n4 n4 22 .u32 f4) (o5 : Own w l5 a5 n5 n5 22 .u32 f5) (b4 : ∀ j, j < n4 → 0 ≤ f4 j ∧ f4 j < 4294967296) (b5 : ∀ j, j < n5 → 0 ≤ f5 j ∧ f5 j < 4294967296) (hz : latest L W E n4 n5 f4 f5 m = 0) :
    Calls Try.prog 20 #[.pointer (some ⟨T, 0, none⟩), .agg #[.slice a4 n4 c4, .slice a5 n5 c5, .int .i64 m]] w fun e w' => e = .returned (.tuple #[.int .u64 0, .bool false]) ∧ Below w.heap.size w w' :=
  (conflict_own T tb N L W E m w hT a4 a5 n4 n5 c4 c5 l4 l5 f4 f5 h4 h5 o4 o5 b4 b5).mono fun e w' ⟨h, hw⟩ => ⟨by
    rcases h with ⟨_, h⟩ | ⟨h, _⟩
    · exact h
    · exact absurd hz h, hw⟩
theorem conflict_pos {T tb N : Nat} {L W : Nat → Nat → Int} {E : Nat → Int} {m a : Int} {w : World} {a4 a5 : Option Addr} {n4 n5 c4 c5 l4 l5 : Nat} {f4 f5 : Nat → Int} (hT : Fits w T tb N L W E) (h4 : n4 ≤ 1048576) (h5 : n5 ≤ 1048576)
    (o4 : Own w l4 a4 n4 n4 22 .u32 f4) (o5 : Own w l5 a5 n5 n5 22 .u32 f5) (b4 : ∀ j, j < n4 → 0 ≤ f4 j ∧ f4 j < 4294967296) (b5 : ∀ j, j < n5 → 0 ≤ f5 j ∧ f5 j < 4294967296) (ha : latest L W E n4 n5 f4 f5 m = a) (hz : a ≠ 0) :
    Calls Try.prog 20 #[.pointer (some ⟨T, 0, none⟩), .agg #[.slice a4 n4 c4, .slice a5 n5 c5, .int .i64 m]] w fun e w' => e = .returned (.tuple #[.int .u64 (a - 1), .bool true]) ∧ Below w.heap.size w w' :=
  (conflict_own T tb N L W E m w hT a4 a5 n4 n5 c4 c5 l4 l5 f4 f5 h4 h5 o4 o5 b4 b5).mono fun e w' ⟨h, hw⟩ => ⟨by
    rw [ha] at h
    rcases h with ⟨h, _⟩ | ⟨_, h⟩
    · exact absurd h hz
    · exact h, hw⟩

/-- The writers up to bucket k fit. -/
def UpTo (be bw : Nat → Int) (k : Nat) : Prop := ∀ j, j < k → be j ≤ 9223372036854775808 ∧ ∀ s, s < 8 → bw (j * 8 + s) ≤ 9223372036854775808

set_option maxRecDepth 100000 in
set_option maxHeartbeats 1600000 in
theorem law_main (a0 a1 a2 a3 a4 a5 : Option Addr) (n n4 n5 c0 c1 c2 c3 c4 c5 : Nat) (lo hi : Int) (w : World) (ix bl bw be f4 f5 : Nat → Int) (hs : Small n n n n n4 n5)
    (i0 : Src w a0 n n .u32 ix) (i1 : Src w a1 n (n * 8) .u32 bl) (i2 : Src w a2 n (n * 8) .u64 bw) (i3 : Src w a3 n n .u64 be) (i4 : Src w a4 n4 n4 .u32 f4) (i5 : Src w a5 n5 n5 .u32 f5)
    (b0 : ∀ j, j < n → 0 ≤ ix j ∧ ix j < 131072) (b2 : ∀ j, j < n * 8 → 0 ≤ bw j) (b3 : ∀ j, j < n → 0 ≤ be j)
    (b4 : ∀ j, j < n4 → 0 ≤ f4 j ∧ f4 j < 4294967296) (b5 : ∀ j, j < n5 → 0 ≤ f5 j ∧ f5 j < 4294967296) (ho : lo ≤ hi) :
    Calls Try.prog 5 #[.slice a0 n c0, .slice a1 n c1, .slice a2 n c2, .slice a3 n c3, .slice a4 n4 c4, .slice a5 n5 c5, .int .i64 lo, .int .i64 hi] w fun e w' => e = .returned (.bool true) ∧ Below w.heap.size w w' := by
  obtain ⟨hs, t0, _, _, _, t4, t5, t6⟩ := hs
  have HS := aside hs
  have HN := aside (fit_yes a0 a1 a2 a3 n c0 c1 c2 c3 ix (by omega) w i0 (fun j hj => (b0 j hj).2))
  have I0 := aside i0
  have I1 := aside i1
  have I2 := aside i2
  have I3 := aside i3
  have I4 := aside i4
  have I5 := aside i5
  have B0 := aside b0
  have B2 := aside b2
  have B3 := aside b3
  have B4 := aside b4
  have B5 := aside b5
  clear hs i0 i1 i2 i3 i4 i5 b0 b2 b3 b4 b5
  go_enter Try.func5, Try.ntmps5
  go_wp2_with (first | (go_at_call 13; refine (bytes_yes a0 a1 a2 a3 a4 a5 _ _ _ _ n4 n5 c0 c1 c2 c3 c4 c5 lo hi w HS.out).mono ?_; rintro e w' ⟨rfl, hw⟩; subst w') | (go_at_call 14; refine HN.out.mono ?_; rintro e w' ⟨rfl, hw⟩; subst w'))
  clear HS HN
  go_loop [17] (fun i => ∃ k : Nat, k ≤ n ∧ i = .int .i64 k ∧ UpTo be bw k) (fun i => n - (intOf i).toNat)
  case atStart => exact ⟨0, by omega, rfl, fun j hj => by omega⟩
  case round =>
    obtain ⟨k, hk, rfl, hall⟩ := hrel
    have HA := aside hall
    clear hall
    by_cases hlt : k < n
    · obtain ⟨g2, o2, rfl, q2⟩ := I2.out (by omega)
      obtain ⟨g3, o3, rfl, q3⟩ := I3.out (by omega)
      have d3 := q3 k hlt
      have Q2 := aside q2
      have k0 : (0 : Int) ≤ (k : Int) := Int.natCast_nonneg _
      have k1 : (k : Int) < (n : Int) := by omega
      clear q2 q3
      by_cases hbe : 9223372036854775808 < be k
      · go_wp2
        go_ret
        exact ⟨rfl, Below.refl _ _⟩
      · go_wp2
        go_loop [18] (fun i => ∃ s : Nat, s ≤ 8 ∧ i = .int .i64 s ∧ ∀ j, j < s → bw (k * 8 + j) ≤ 9223372036854775808) (fun i => 8 - (intOf i).toNat)
        case atStart => exact ⟨0, by omega, rfl, fun j hj => by omega⟩
        case round =>
          obtain ⟨s, hs8, rfl, hsall⟩ := hrel
          have HSA := aside hsall
          clear hsall
          by_cases hls : s < 8
          · have d2 := Q2.out (k * 8 + s) (by omega)
            rw [← Nat.add_assoc] at d2
            have s0 : (0 : Int) ≤ (s : Int) := Int.natCast_nonneg _
            have s1 : (s : Int) < 8 := by omega
            by_cases hbw : 9223372036854775808 < bw (k * 8 + s)
            · go_wp2
              go_ret
              exact ⟨rfl, Below.refl _ _⟩
            · go_wp2
              go_round
              case rel => exact ⟨s + 1, by omega, by go_num, fun j hj => by
                rcases Nat.lt_succ_iff_lt_or_eq.1 hj with h | rfl
                · exact HSA.out j h
                · omega⟩
              case measure => simp [intOf]; omega
          · go_wp2
            go_round
            case rel =>
              have e8 : s = 8 := by omega
              exact ⟨k + 1, by omega, by go_num, fun j hj => by
                rcases Nat.lt_succ_iff_lt_or_eq.1 hj with h | rfl
                · exact HA.out j h
                · exact ⟨by omega, fun s' hs' => HSA.out s' (by omega)⟩⟩
            case measure => simp [intOf]; omega
    · have ek : n = k := by omega
      subst ek
      clear hlt hk
      go_wp2_with fail
      refine (clone15_any a0 n c0 ix (by omega) _ I0.out).mono ?_
      rintro e w1 ⟨⟨a0', c0', rfl, o0⟩, q1⟩
      have J1 := aside (I1.out.of_below (by omega) q1)
      have J2 := aside (I2.out.of_below (by omega) q1)
      have J3 := aside (I3.out.of_below id q1)
      have J4 := aside (I4.out.of_below id q1)
      have J5 := aside (I5.out.of_below id q1)
      have O0 := aside o0
      have Q1 := aside q1
      clear o0 q1 I0 I1 I2 I3 I4 I5
      go_wp2_with fail
      refine (clone16_any a1 n c1 bl (by omega) _ J1.out).mono ?_
      rintro e w2 ⟨⟨a1', c1', rfl, o1⟩, q2⟩
      have I2 := aside (J2.out.of_below (by omega) q2)
      have I3 := aside (J3.out.of_below id q2)
      have I4 := aside (J4.out.of_below id q2)
      have I5 := aside (J5.out.of_below id q2)
      have P0 := aside (O0.out.of_below q2)
      have P1 := aside o1
      have Q2 := aside (Q1.out.trans (q2.mono Q1.out.size))
      clear o1 q2 J1 J2 J3 J4 J5 O0 Q1
      go_wp2_with fail
      refine (clone17_any a2 n c2 bw (by omega) _ I2.out).mono ?_
      rintro e w3 ⟨⟨a2', c2', rfl, o2⟩, q3⟩
      have J3 := aside (I3.out.of_below id q3)
      have J4 := aside (I4.out.of_below id q3)
      have J5 := aside (I5.out.of_below id q3)
      have O0 := aside (P0.out.of_below q3)
      have O1 := aside (P1.out.of_below q3)
      have O2 := aside o2
      have Q3 := aside (Q2.out.trans (q3.mono Q2.out.size))
      clear o2 q3 I2 I3 I4 I5 P0 P1 Q2
      go_wp2_with fail
      refine (clone18_any a3 n c3 be (by omega) _ J3.out).mono ?_
      rintro e w4 ⟨⟨a3', c3', rfl, o3⟩, q4⟩
      have I4 := aside (J4.out.of_below id q4)
      have I5 := aside (J5.out.of_below id q4)
      have P0 := aside (O0.out.of_below q4)
      have P1 := aside (O1.out.of_below q4)
      have P2 := aside (O2.out.of_below q4)
      have P3 := aside o3
      have Q4 := aside (Q3.out.trans (q4.mono Q3.out.size))
      clear o3 q4 J3 J4 J5 O0 O1 O2 Q3
      go_wp2_with fail
      refine (clone15_any a4 n4 c4 f4 (by omega) _ I4.out).mono ?_
      rintro e w5 ⟨⟨a4', c4', rfl, o4⟩, q5⟩
      have J5 := aside (I5.out.of_below id q5)
      have O0 := aside (P0.out.of_below q5)
      have O1 := aside (P1.out.of_below q5)
      have O2 := aside (P2.out.of_below q5)
      have O3 := aside (P3.out.of_below q5)
      have O4 := aside o4
      have Q5 := aside (Q4.out.trans (q5.mono Q4.out.size))
      clear o4 q5 I4 I5 P0 P1 P2 P3 Q4
      go_wp2_with fail
      refine (clone15_any a5 n5 c5 f5 (by omega) _ J5.out).mono ?_
      rintro e w6 ⟨⟨a5', c5', rfl, o5⟩, q6⟩
      have P0 := aside (O0.out.of_below q6)
      have P1 := aside (O1.out.of_below q6)
      have P2 := aside (O2.out.of_below q6)
      have P3 := aside (O3.out.of_below q6)
      have P4 := aside (O4.out.of_below q6)
      have P5 := aside o5
      have Q6 := aside (Q5.out.trans (q6.mono Q5.out.size))
      clear o5 q6 J5 O0 O1 O2 O3 O4 Q5
      go_wp2_with fail
      refine (sparse_own a0' a1' a2' a3' n c0' c1' c2' c3' _ _ _ _ ix bl bw be (by omega) _ P0.out P1.out P2.out P3.out B0.out ?_ ?_).mono ?_
      · intro j hj
        refine ⟨B2.out j hj, ?_⟩
        have := (HA.out (j / 8) (by omega)).2 (j % 8) (by omega)
        rwa [show j / 8 * 8 + j % 8 = j by omega] at this
      · intro j hj
        exact ⟨B3.out j hj, (HA.out j hj).1⟩
      rintro e w7 ⟨rfl, ⟨N, L, W, E, hT⟩, q7⟩
      have O4 := aside (P4.out.of_below q7)
      have O5 := aside (P5.out.of_below q7)
      have Q7 := aside (Q6.out.trans (q7.mono Q6.out.size))
      have HT := aside hT
      clear hT q7 P0 P1 P2 P3 P4 P5 Q6 B0 B2 B3 HA
      go_wp2_with fail
      have hr := latest_rel HT.out n4 n5 f4 f5 ho
      have hbd := latest_bd HT.out n4 n5 f4 f5 lo
      have FT := aside HT.out.fits
      by_cases hb : latest L W E n4 n5 f4 f5 hi = 0
      · have HB := aside hb
        by_cases hz : latest L W E n4 n5 f4 f5 lo = 0
        · have HZ := aside hz
          clear hz hb hr hbd
          refine (conflict_zero FT.out (by omega) (by omega) O4.out O5.out B4.out B5.out HZ.out).mono ?_
          rintro e w8 ⟨rfl, q8⟩
          have GT := aside (FT.out.of_below q8)
          have P4 := aside (O4.out.of_below q8)
          have P5 := aside (O5.out.of_below q8)
          have Q8 := aside (Q7.out.trans (q8.mono Q7.out.size))
          clear q8 O4 O5 Q7 HT FT
          go_wp2_with fail
          refine (conflict_zero GT.out (by omega) (by omega) P4.out P5.out B4.out B5.out HB.out).mono ?_
          rintro e w9 ⟨rfl, q9⟩
          have Q9 := aside (Q8.out.trans (q9.mono Q8.out.size))
          clear q9 GT P4 P5 Q8
          go_wp2
          go_ret
          exact ⟨rfl, Q9.out⟩
        · obtain ⟨a, ha⟩ : ∃ a, latest L W E n4 n5 f4 f5 lo = a := ⟨_, rfl⟩
          have HA := aside ha
          rw [ha] at hr hbd hz
          have hz1 : 1 ≤ a := by omega
          have hlo : lo < a - 1 := by
            rcases hr.2.2.1 with h | h
            · exact absurd h hz
            · exact h
          have hz2 : a ≤ 9223372036854775808 := hbd.2
          have HZ := aside hz
          clear ha hb hr hbd hz
          refine (conflict_pos FT.out (by omega) (by omega) O4.out O5.out B4.out B5.out HA.out HZ.out).mono ?_
          rintro e w8 ⟨rfl, q8⟩
          have GT := aside (FT.out.of_below q8)
          have P4 := aside (O4.out.of_below q8)
          have P5 := aside (O5.out.of_below q8)
          have Q8 := aside (Q7.out.trans (q8.mono Q7.out.size))
          clear q8 O4 O5 Q7 HT FT
          go_wp2_with fail
          refine (conflict_zero GT.out (by omega) (by omega) P4.out P5.out B4.out B5.out HB.out).mono ?_
          rintro e w9 ⟨rfl, q9⟩
          have Q9 := aside (Q8.out.trans (q9.mono Q8.out.size))
          clear q9 GT P4 P5 Q8
          go_wp2
          go_ret
          exact ⟨rfl, Q9.out⟩
      · obtain ⟨a, ha⟩ : ∃ a, latest L W E n4 n5 f4 f5 hi = a := ⟨_, rfl⟩
        have hla := hr.2.2.2.2.1 hb
        rw [ha] at hla hb
        have HA := aside hla
        have HB := aside ha
        rw [ha, hla] at hr
        rw [hla] at hbd
        have hz1 : 1 ≤ a := by omega
        have hhi : hi < a - 1 := by
          rcases hr.2.2.2.1 with h | h
          · exact absurd h hb
          · exact h
        have hlo : lo < a - 1 := by omega
        have hz2 : a ≤ 9223372036854775808 := hbd.2
        have HZ := aside hb
        clear ha hla hb hr hbd
        refine (conflict_pos FT.out (by omega) (by omega) O4.out O5.out B4.out B5.out HA.out HZ.out).mono ?_
        rintro e w8 ⟨rfl, q8⟩
        have GT := aside (FT.out.of_below q8)
        have P4 := aside (O4.out.of_below q8)
        have P5 := aside (O5.out.of_below q8)
        have Q8 := aside (Q7.out.trans (q8.mono Q7.out.size))
        clear q8 O4 O5 Q7 HT FT
        go_wp2_with fail
        refine (conflict_pos GT.out (by omega) (by omega) P4.out P5.out B4.out B5.out HB.out HZ.out).mono ?_
        rintro e w9 ⟨rfl, q9⟩
        have Q9 := aside (Q8.out.trans (q9.mono Q8.out.size))
        clear q9 GT P4 P5 Q8
        go_wp2
        go_ret
        exact ⟨rfl, Q9.out⟩
end Go.Proofs.Qxb6602885a.Low
