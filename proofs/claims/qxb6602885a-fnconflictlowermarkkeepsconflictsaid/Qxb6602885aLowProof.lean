/-
  THE STATEMENT PROVED: the eight arguments opened, the law's own walk, the row.
-/
import Derived.Test.Qxb6602885aLowN
import Derived.ProofKit
import Derived.OpenShut
import Derived.Deep.Slices
namespace Go.Proofs.Qxb6602885a.Low
open Go.ChangeShapes Go.WideShapes Go.ChangeAt Go.RowKit Go.Proofs

theorem own : ownKnob Try.prog.godebug = none := by kernel_rfl
theorem laidOut : laidOutB Try.prog = true := by kernel_rfl
theorem cells22 : Try.prog.cellsOf 22 = 1 := by kernel_rfl
theorem cells24 : Try.prog.cellsOf 24 = 1 := by kernel_rfl
theorem cells23 : Try.prog.cellsOf 23 = 8 := by kernel_rfl
theorem cells25 : Try.prog.cellsOf 25 = 8 := by kernel_rfl

section
variable {H : Type} {enc : TypeId × Value → H} {P : Program} {w : World} {base : Nat} {spare : Nat → Bool} {held : Bool}

/-- A slice of integers that came in. -/
theorem src_ints {t e : TypeId} {k : IntKind} {ao : Option Addr} {n c : Nat} {d : DataW H} {ps : List MemPlace} (ht : P.underlying t = some (.slice e)) (he : P.underlying e = some (.int k)) (hc : P.cellsOf e = 1)
    (h : DataW.Trod enc P w base spare held t (.slice ao n c) d ps) : ∃ f, Src w ao n n k f ∧ ∀ j, j < n → (Lit.int k (f j)).wf = true := by
  obtain ⟨fuel, hf⟩ := h
  rcases open_ints ht he hc hf with ⟨hcs, _⟩ | ⟨a, len, cap, zs, hcs, _, hl, _, hz, _, hcell, hwf⟩
  · simp [Value.cells] at hcs
    obtain ⟨rfl, rfl, rfl⟩ := hcs
    exact ⟨fun _ => 0, fun h0 => absurd h0 (Nat.lt_irrefl _), fun j hj => absurd hj (Nat.not_lt_zero _)⟩
  · simp [Value.cells] at hcs
    obtain ⟨rfl, rfl, rfl⟩ := hcs
    have hle : n ≤ zs.length := by rw [hz]; split <;> omega
    refine ⟨fun j => zs.getD j 0, fun h0 => ?_, fun j hj => hwf _ ?_⟩
    · obtain ⟨b, off, sp⟩ := a
      have hs : sp = none := by simpa [Addr.add] using World.cell?_spot (hcell 0 (by omega))
      subst hs
      exact ⟨b, off, rfl, fun j hj => by rw [← add_plain]; exact hcell j (by omega)⟩
    · show zs.getD j 0 ∈ zs
      rw [List.getD_eq_getElem?_getD, List.getElem?_eq_getElem (by omega)]
      exact List.getElem_mem _

/-- A slice of arrays of eight integers that came in. -/
theorem src_rows {t r e : TypeId} {k : IntKind} {ao : Option Addr} {n c : Nat} {d : DataW H} {ps : List MemPlace} (ht : P.underlying t = some (.slice r)) (hr : P.underlying r = some (.array 8 e)) (he : P.underlying e = some (.int k)) (hc8 : P.cellsOf r = 8) (hc : P.cellsOf e = 1)
    (h : DataW.Trod enc P w base spare held t (.slice ao n c) d ps) : ∃ f, Src w ao n (n * 8) k f ∧ ∀ j, j < n * 8 → (Lit.int k (f j)).wf = true := by
  obtain ⟨fuel, hf⟩ := h
  rcases Deep.open_slice ht hf with ⟨hcs, _⟩ | ⟨a, len, cap, m, q, D, Pl, hcs, _, hl, _, hm, _, hx⟩
  · simp [Value.cells] at hcs
    obtain ⟨rfl, rfl, rfl⟩ := hcs
    exact ⟨fun _ => 0, fun h0 => absurd h0 (Nat.lt_irrefl _), fun j hj => by omega⟩
  · simp [Value.cells] at hcs
    obtain ⟨rfl, rfl, rfl⟩ := hcs
    have hle : n ≤ m := by rw [hm]; split <;> omega
    have one : ∀ j, j < n * 8 → ∃ z : Int, w.cell? (a.add j) = some (.int k z) ∧ (Lit.int k z).wf = true := fun j hj => by
      obtain ⟨cs, h1, h2⟩ := hx (j / 8) (by omega)
      rw [hc8] at h1
      obtain ⟨_, hlen, hcell⟩ := World.cells?_some h1
      obtain ⟨xs, q', _, _, _, hxl, hxs⟩ := DataW.trod_array hr h2
      have h3 := hxs (j % 8) (by omega)
      rw [hc, Nat.mul_one, List.getElem?_eq_getElem (by omega)] at h3
      have hd : (cs.drop (j % 8)).take 1 = [cs[j % 8]'(by omega)] := by
        rw [List.drop_eq_getElem_cons (by omega)]; rfl
      rw [hd] at h3
      obtain ⟨z, hz, _, hw⟩ := DataW.trod_int he h3
      have h4 := hcell (j % 8) (by omega)
      rw [Deep.add_add, show j / 8 * 8 + j % 8 = j by omega, List.getElem?_eq_getElem (by omega)] at h4
      refine ⟨z, ?_, hw⟩
      rw [h4]
      rw [List.cons.inj hz |>.1]
    obtain ⟨f, hf'⟩ := Deep.choose_lt one
    refine ⟨f, fun h0 => ?_, fun j hj => (hf' j hj).2⟩
    obtain ⟨b, off, sp⟩ := a
    have hs : sp = none := by simpa [Addr.add] using World.cell?_spot (hf' 0 (by omega)).1
    subst hs
    exact ⟨b, off, rfl, fun j hj => by rw [← add_plain]; exact (hf' j hj).1⟩
end

theorem bd_u32 {x : Int} (h : (Lit.int .u32 x).wf = true) : 0 ≤ x ∧ x < 4294967296 := by
  simp [Lit.wf, IntKind.min, IntKind.max, IntKind.signed, IntKind.bits] at h
  omega
theorem bd_u64 {x : Int} (h : (Lit.int .u64 x).wf = true) : 0 ≤ x := by
  simp [Lit.wf, IntKind.min, IntKind.max, IntKind.signed, IntKind.bits] at h
  omega

/-- THE LAW's WALK, every way. -/
theorem law_any (a0 a1 a2 a3 a4 a5 : Option Addr) (n0 n1 n2 n3 n4 n5 c0 c1 c2 c3 c4 c5 : Nat) (lo hi : Int) (w : World) (ix bl bw be f4 f5 : Nat → Int)
    (i0 : Src w a0 n0 n0 .u32 ix) (i1 : Src w a1 n1 (n1 * 8) .u32 bl) (i2 : Src w a2 n2 (n2 * 8) .u64 bw) (i3 : Src w a3 n3 n3 .u64 be) (i4 : Src w a4 n4 n4 .u32 f4) (i5 : Src w a5 n5 n5 .u32 f5)
    (b0 : ∀ j, j < n0 → (Lit.int .u32 (ix j)).wf = true) (b2 : ∀ j, j < n2 * 8 → (Lit.int .u64 (bw j)).wf = true) (b3 : ∀ j, j < n3 → (Lit.int .u64 (be j)).wf = true)
    (b4 : ∀ j, j < n4 → (Lit.int .u32 (f4 j)).wf = true) (b5 : ∀ j, j < n5 → (Lit.int .u32 (f5 j)).wf = true) :
    Calls Try.prog 5 #[.slice a0 n0 c0, .slice a1 n1 c1, .slice a2 n2 c2, .slice a3 n3 c3, .slice a4 n4 c4, .slice a5 n5 c5, .int .i64 lo, .int .i64 hi] w fun e w' => e = .returned (.bool true) ∧ Below w.heap.size w w' := by
  by_cases hs : Small n0 n1 n2 n3 n4 n5
  case neg => exact law_long a0 a1 a2 a3 a4 a5 n0 n1 n2 n3 n4 n5 c0 c1 c2 c3 c4 c5 lo hi w hs
  by_cases hf : n1 = n0 ∧ n2 = n0 ∧ n3 = n0 ∧ ∀ j, j < n0 → ix j < 131072
  case neg => exact law_misfit a0 a1 a2 a3 a4 a5 n0 n1 n2 n3 n4 n5 c0 c1 c2 c3 c4 c5 lo hi w ix hs i0 hf
  obtain ⟨e1, e2, e3, hx⟩ := hf
  by_cases ho : hi < lo
  · exact law_order a0 a1 a2 a3 a4 a5 n0 n1 n2 n3 n4 n5 c0 c1 c2 c3 c4 c5 lo hi w ix hs i0 e1 e2 e3 hx ho
  · subst e1 e2 e3
    exact law_main a0 a1 a2 a3 a4 a5 _ n4 n5 c0 c1 c2 c3 c4 c5 lo hi w ix bl bw be f4 f5 hs i0 i1 i2 i3 i4 i5 (fun j hj => ⟨(bd_u32 (b0 j hj)).1, hx j hj⟩) (fun j hj => bd_u64 (b2 j hj)) (fun j hj => bd_u64 (b3 j hj))
      (fun j hj => bd_u32 (b4 j hj)) (fun j hj => bd_u32 (b5 j hj)) (by omega)

set_option maxRecDepth 100000 in
theorem law_lifted (os : Os) (started : os.Started) (H : Type) (enc : TypeId × Value → H) :
    ReturnsInHanded {} Try.checked os 5 .any (Rows.fnConflictLowerMarkKeepsConflictSpec.pre6 enc Try.prog Try.f5 Rows.fnConflictLowerMarkKeepsConflictRow.domain false) (Rows.fnConflictLowerMarkKeepsConflictSpec.post enc Try.prog Try.f5 false true false false) := by
  refine returnsInHanded_of_change (C := Try.checked) own started (by kernel_rfl) Try.func5
    (ChangeSpec.witness6 (enc := enc) (C := Try.checked) false ⟨#[], #[.slice none 0 0, .slice none 0 0, .slice none 0 0, .slice none 0 0, .slice none 0 0, .slice none 0 0, .int .i64 0, .int .i64 0], []⟩ 8 (by kernel_rfl) (by kernel_rfl) (by kernel_rfl) (by kernel_rfl)) ?_
  intro W base args ds gs before hval0 hW _ _
  have hval : ∀ (j : Nat) t v, Try.f5.params[j]? = some t → args[j]? = some v → Value.okWide Try.prog W .any base t v := hval0
  have hW' := hW
  obtain ⟨p, q, hA0, hV, rfl, _, _⟩ := hW
  have hA : DataW.TrodAll enc Try.prog W 0 (fun _ => true) true Try.f5.params.toList args.toList ds p := hA0
  rw [Try.params5] at hA hval
  obtain ⟨v0, vs0, d0, ds0, p0, q0, hargs, rfl, rfl, h0, r0⟩ := trodAll_cons hA
  obtain ⟨v1, vs1, d1, ds1, p1, q1, rfl, rfl, rfl, h1, r1⟩ := trodAll_cons r0
  obtain ⟨v2, vs2, d2, ds2, p2, q2, rfl, rfl, rfl, h2, r2⟩ := trodAll_cons r1
  obtain ⟨v3, vs3, d3, ds3, p3, q3, rfl, rfl, rfl, h3, r3⟩ := trodAll_cons r2
  obtain ⟨v4, vs4, d4, ds4, p4, q4, rfl, rfl, rfl, h4, r4⟩ := trodAll_cons r3
  obtain ⟨v5, vs5, d5, ds5, p5, q5, rfl, rfl, rfl, h5, r5⟩ := trodAll_cons r4
  obtain ⟨v6, vs6, d6, ds6, p6, q6, rfl, rfl, rfl, h6, r6⟩ := trodAll_cons r5
  obtain ⟨v7, vs7, d7, ds7, p7, q7, rfl, rfl, rfl, h7, r7⟩ := trodAll_cons r6
  obtain ⟨rfl, rfl, rfl⟩ := trodAll_nil r7
  obtain rfl : args = #[v0, v1, v2, v3, v4, v5, v6, v7] := by cases args; simp_all
  obtain ⟨rfl, rfl⟩ := trodVars_none hV
  obtain ⟨lo, rfl, rfl, rfl, wlo⟩ := open_int Try.underlying2 (hval 6 2 v6 rfl rfl) h6
  obtain ⟨hi, rfl, rfl, rfl, whi⟩ := open_int Try.underlying2 (hval 7 2 v7 rfl rfl) h7
  obtain ⟨a0, n0, c0, rfl⟩ := okWide_slice Try.underlying32 (hval 0 32 v0 rfl rfl)
  obtain ⟨a1, n1, c1, rfl⟩ := okWide_slice Try.underlying33 (hval 1 33 v1 rfl rfl)
  obtain ⟨a2, n2, c2, rfl⟩ := okWide_slice Try.underlying34 (hval 2 34 v2 rfl rfl)
  obtain ⟨a3, n3, c3, rfl⟩ := okWide_slice Try.underlying35 (hval 3 35 v3 rfl rfl)
  obtain ⟨a4, n4, c4, rfl⟩ := okWide_slice Try.underlying32 (hval 4 32 v4 rfl rfl)
  obtain ⟨a5, n5, c5, rfl⟩ := okWide_slice Try.underlying32 (hval 5 32 v5 rfl rfl)
  clear hA0 hval0
  simp only [List.append_nil] at hW'
  have hlt := hW'.lt
  obtain ⟨ix, i0, b0⟩ := src_ints Try.underlying32 Try.underlying22 cells22 h0
  obtain ⟨bl, i1, _⟩ := src_rows Try.underlying33 Try.underlying23 Try.underlying22 cells23 cells22 h1
  obtain ⟨bw, i2, b2⟩ := src_rows Try.underlying34 Try.underlying25 Try.underlying24 cells25 cells24 h2
  obtain ⟨be, i3, b3⟩ := src_ints Try.underlying35 Try.underlying24 cells24 h3
  obtain ⟨f4, i4, b4⟩ := src_ints Try.underlying32 Try.underlying22 cells22 h4
  obtain ⟨f5, i5, b5⟩ := src_ints Try.underlying32 Try.underlying22 cells22 h5
  refine (law_any a0 a1 a2 a3 a4 a5 n0 n1 n2 n3 n4 n5 c0 c1 c2 c3 c4 c5 lo hi W ix bl bw be f4 f5 i0 i1 i2 i3 i4 i5 b0 b2 b3 b4 b5).mono fun e W' ⟨he, hb⟩ => ?_
  subst he
  have g0 : DataW.Trod enc Try.prog W' 0 (fun b => decide (b < W.heap.size)) true 32 _ d0 p0 := Below.trod laidOut (by kernel_rfl) (of_decide_eq_true (by kernel_rfl)) h0 hb (fun x hx => hlt x (by simp [hx]))
  have g1 : DataW.Trod enc Try.prog W' 0 (fun b => decide (b < W.heap.size)) true 33 _ d1 p1 := Below.trod laidOut (by kernel_rfl) (of_decide_eq_true (by kernel_rfl)) h1 hb (fun x hx => hlt x (by simp [hx]))
  have g2 : DataW.Trod enc Try.prog W' 0 (fun b => decide (b < W.heap.size)) true 34 _ d2 p2 := Below.trod laidOut (by kernel_rfl) (of_decide_eq_true (by kernel_rfl)) h2 hb (fun x hx => hlt x (by simp [hx]))
  have g3 : DataW.Trod enc Try.prog W' 0 (fun b => decide (b < W.heap.size)) true 35 _ d3 p3 := Below.trod laidOut (by kernel_rfl) (of_decide_eq_true (by kernel_rfl)) h3 hb (fun x hx => hlt x (by simp [hx]))
  have g4 : DataW.Trod enc Try.prog W' 0 (fun b => decide (b < W.heap.size)) true 32 _ d4 p4 := Below.trod laidOut (by kernel_rfl) (of_decide_eq_true (by kernel_rfl)) h4 hb (fun x hx => hlt x (by simp [hx]))
  have g5 : DataW.Trod enc Try.prog W' 0 (fun b => decide (b < W.heap.size)) true 32 _ d5 p5 := Below.trod laidOut (by kernel_rfl) (of_decide_eq_true (by kernel_rfl)) h5 hb (fun x hx => hlt x (by simp [hx]))
  refine ⟨_, rfl, _, _, _, [], _, [], hW', trodAll_cons_mk (shut_bool Try.underlying4 _) trodAll_mk0, (trodAll_cons_mk g0 (trodAll_cons_mk g1 (trodAll_cons_mk g2 (trodAll_cons_mk g3 (trodAll_cons_mk g4 (trodAll_cons_mk g5 (trodAll_cons_mk (shut_int Try.underlying2 wlo) (trodAll_cons_mk (shut_int Try.underlying2 whi) trodAll_mk0)))))))), rfl, hb.frame _, fun h => by cases h⟩

theorem law_over : Rows.fnConflictLowerMarkKeepsConflictRow.holds Try.pinned (OpenSpec.ofChange Rows.fnConflictLowerMarkKeepsConflictSpec) :=
  OpenClaim.holds_of_wide 5 Try.f5 rfl rfl rfl rfl rfl rfl rfl ⟨rfl, rfl, rfl, rfl, rfl⟩ rfl rfl rfl rfl rfl (by kernel_rfl) Try.func5 (by kernel_rfl)
    (of_decide_eq_true (by kernel_rfl)) (by unfold Func.isWrapper; first | (rw [if_pos (by decide +kernel)]; kernel_rfl) | (rw [if_neg (by decide +kernel)]; exact ⟨rfl, rfl⟩))
    (fun os started H enc _ => law_lifted os started H enc)
end Go.Proofs.Qxb6602885a.Low

namespace Go.Proofs.Qxb6602885a
/-- THE STATEMENT. -/
theorem conflictLowerMark_holds : Rows.FnConflictLowerMarkKeepsConflictSaid := Low.law_over
end Go.Proofs.Qxb6602885a
