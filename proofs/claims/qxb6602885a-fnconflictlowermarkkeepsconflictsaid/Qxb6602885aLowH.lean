/-
  THE WALKS, part H: the table's row of buckets, said by functions; zzSparseTable.
-/
import Derived.Test.Qxb6602885aLowG
import Derived.Test.Qxb6602885aLowD
namespace Go.Proofs.Qxb6602885a.Low
open Go.RowKit Go.Proofs

/-- The table at T, its buckets a row of its own in block tb; every writer is at most 2 to the 63. -/
structure TabR (w : World) (T tb N : Nat) (L W : Nat → Nat → Int) (E : Nat → Int) : Prop where
  head : w.cell? ⟨T, 0, none⟩ = some (.slice (some ⟨tb, 0, none⟩) N N)
  wide : 131072 ≤ N
  ne : T ≠ tb
  row : ∃ F, w.rowIs tb 66 (N * 17) F ∧ ∀ i, i < N → (∀ s, s < 8 → F (i * 17 + s) = .int .u32 (L i s)) ∧ (∀ s, s < 8 → F (i * 17 + 8 + s) = .int .u64 (W i s)) ∧ F (i * 17 + 16) = .int .u64 (E i)
  wr : ∀ i, i < N → ∀ s, s < 8 → 0 ≤ W i s ∧ W i s ≤ 9223372036854775808
  ev : ∀ i, i < N → 0 ≤ E i ∧ E i ≤ 9223372036854775808

theorem TabR.fits {w : World} {T tb N : Nat} {L W : Nat → Nat → Int} {E : Nat → Int} (h : TabR w T tb N L W E) : Fits w T tb N L W E := by
  obtain ⟨F, hr, hF⟩ := h.row
  refine ⟨⟨h.head, h.wide, fun i hi => ⟨fun s hs => ?_, fun s hs => ?_, ?_⟩⟩, World.block_lt_of_cell? w _ h.head, hr.lt, h.wr, h.ev⟩
  · rw [← (hF i hi).1 s hs]; exact hr.cell (by omega)
  · rw [← (hF i hi).2.1 s hs]; exact hr.cell (by omega)
  · rw [← (hF i hi).2.2]; exact hr.cell (by omega)

theorem TabR.there {w : World} {T tb N : Nat} {L W : Nat → Nat → Int} {E : Nat → Int} (h : TabR w T tb N L W E) (i : Nat) (hi : i < N) : w.there tb (i * 17) 17 := fun j hj => by
  obtain ⟨F, hr, _⟩ := h.row
  exact ⟨by rw [hr.cell (i := i * 17 + j) (by omega)]; rfl, hr.frozen _⟩

theorem bcells_l (l x : Nat → Int) (e : Int) (s : Nat) (hs : s < 8) : (bcells (l 0) (l 1) (l 2) (l 3) (l 4) (l 5) (l 6) (l 7) (x 0) (x 1) (x 2) (x 3) (x 4) (x 5) (x 6) (x 7) e)[s]? = some (.int .u32 (l s)) := by
  match s, hs with
  | 0, _ | 1, _ | 2, _ | 3, _ | 4, _ | 5, _ | 6, _ | 7, _ => rfl
  | n + 8, h => omega
theorem bcells_x (l x : Nat → Int) (e : Int) (s : Nat) (hs : s < 8) : (bcells (l 0) (l 1) (l 2) (l 3) (l 4) (l 5) (l 6) (l 7) (x 0) (x 1) (x 2) (x 3) (x 4) (x 5) (x 6) (x 7) e)[8 + s]? = some (.int .u64 (x s)) := by
  match s, hs with
  | 0, _ | 1, _ | 2, _ | 3, _ | 4, _ | 5, _ | 6, _ | 7, _ => rfl
  | n + 8, h => omega
theorem bcells_e (l x : Nat → Int) (e : Int) : (bcells (l 0) (l 1) (l 2) (l 3) (l 4) (l 5) (l 6) (l 7) (x 0) (x 1) (x 2) (x 3) (x 4) (x 5) (x 6) (x 7) e)[16]? = some (.int .u64 e) := rfl

/-- The table behind one bucket laid. -/
theorem TabR.set {w : World} {T tb N : Nat} {L W : Nat → Nat → Int} {E : Nat → Int} (h : TabR w T tb N L W E) (i : Nat) (hi : i < N) (l x : Nat → Int) (e : Int)
    (hx : ∀ s, s < 8 → 0 ≤ x s ∧ x s ≤ 9223372036854775808) (he : 0 ≤ e ∧ e ≤ 9223372036854775808) (o1 o2 : Obj) :
    TabR (((w.alloc o1).alloc o2).drew.setCells tb (i * 17) (bcells (l 0) (l 1) (l 2) (l 3) (l 4) (l 5) (l 6) (l 7) (x 0) (x 1) (x 2) (x 3) (x 4) (x 5) (x 6) (x 7) e)) T tb N (fun j s => if j = i then l s else L j s) (fun j s => if j = i then x s else W j s) (fun j => if j = i then e else E j) := by
  have hT := World.block_lt_of_cell? w _ h.head
  obtain ⟨F, hr, hF⟩ := h.row
  refine ⟨?_, h.wide, h.ne, ⟨_, row_setCells (bcells (l 0) (l 1) (l 2) (l 3) (l 4) (l 5) (l 6) (l 7) (x 0) (x 1) (x 2) (x 3) (x 4) (x 5) (x 6) (x 7) e) (i * 17) _ F ((hr.alloc o1).alloc o2).drew, fun j hj => ?_⟩, fun j hj s hs => ?_, fun j hj => ?_⟩
  · rw [World.cell?_setCells_out tb _ _ _ _ (fun hb _ => absurd hb h.ne)]
    show ((w.alloc o1).alloc o2).cell? ⟨T, 0, none⟩ = _
    rw [World.cell?_alloc_lt _ _ _ (by simp at hT ⊢; omega), World.cell?_alloc_lt _ _ _ hT]
    exact h.head
  · by_cases e1 : j = i
    · subst e1
      simp only [if_true]
      refine ⟨fun s hs => ?_, fun s hs => ?_, ?_⟩
      · rw [if_pos ⟨by omega, by show _ < j * 17 + 17; omega⟩, show j * 17 + s - j * 17 = s by omega, bcells_l l x e s hs]; rfl
      · rw [if_pos ⟨by omega, by show _ < j * 17 + 17; omega⟩, show j * 17 + 8 + s - j * 17 = 8 + s by omega, bcells_x l x e s hs]; rfl
      · rw [if_pos ⟨by omega, by show _ < j * 17 + 17; omega⟩, show j * 17 + 16 - j * 17 = 16 by omega, bcells_e l x e]; rfl
    · simp only [if_neg e1]
      have hlen : (bcells (l 0) (l 1) (l 2) (l 3) (l 4) (l 5) (l 6) (l 7) (x 0) (x 1) (x 2) (x 3) (x 4) (x 5) (x 6) (x 7) e).length = 17 := rfl
      rw [hlen]
      refine ⟨fun s hs => ?_, fun s hs => ?_, ?_⟩
      · rw [if_neg (by omega)]; exact (hF j hj).1 s hs
      · rw [if_neg (by omega)]; exact (hF j hj).2.1 s hs
      · rw [if_neg (by omega)]; exact (hF j hj).2.2
  · by_cases e1 : j = i
    · simp only [if_pos e1]; exact hx s hs
    · simp only [if_neg e1]; exact h.wr j hj s hs
  · by_cases e1 : j = i
    · simp only [if_pos e1]; exact he
    · simp only [if_neg e1]; exact h.ev j hj

theorem setBucket_any (T tb N i : Nat) (L W : Nat → Nat → Int) (E : Nat → Int) (l x : Nat → Int) (e : Int) (w : World) (h : TabR w T tb N L W E) (hi : i < N)
    (hx : ∀ s, s < 8 → 0 ≤ x s ∧ x s ≤ 9223372036854775808) (he : 0 ≤ e ∧ e ≤ 9223372036854775808) (B : Nat) (a : World) (hB : B ≤ tb) (hb : Below B a w) :
    Calls Try.prog 26 #[.pointer (some ⟨T, 0, none⟩), .int .i64 i, .agg #[.int .u32 (l 0), .int .u32 (l 1), .int .u32 (l 2), .int .u32 (l 3), .int .u32 (l 4), .int .u32 (l 5), .int .u32 (l 6), .int .u32 (l 7)], .agg #[.int .u64 (x 0), .int .u64 (x 1), .int .u64 (x 2), .int .u64 (x 3), .int .u64 (x 4), .int .u64 (x 5), .int .u64 (x 6), .int .u64 (x 7)], .int .u64 e] w fun e' w' => e' = .returned (.tuple #[]) ∧
      (∃ L' W' E', TabR w' T tb N L' W' E') ∧ Below B a w' := by
  have htb : tb < w.heap.size := by obtain ⟨F, hr, _⟩ := h.row; exact hr.lt
  refine (setBucket_core T tb N i (l 0) (l 1) (l 2) (l 3) (l 4) (l 5) (l 6) (l 7) (x 0) (x 1) (x 2) (x 3) (x 4) (x 5) (x 6) (x 7) e w hi (World.block_lt_of_cell? w _ h.head) h.head (h.there i hi)).mono fun e' w' ⟨h1, h2⟩ => ⟨h1, ?_, ?_⟩
  · rw [h2]; exact ⟨_, _, _, h.set i hi l x e hx he _ _⟩
  · rw [h2]; exact bel_setCells hB _ _ _ ((hb.alloc (by omega) _).alloc (by simp; omega) _).drew

theorem TabR.start (w : World) (T tb N : Nat) (hN : 131072 ≤ N) (hne : T ≠ tb) (hc : w.cell? ⟨T, 0, none⟩ = some (.slice (some ⟨tb, 0, none⟩) N N)) (hr : w.rowIs tb 66 (N * 17) (fun i => zero66 (i % 17))) :
    TabR w T tb N (fun _ _ => 0) (fun _ _ => 0) (fun _ => 0) :=
  ⟨hc, hN, hne, ⟨_, hr, fun i _ => ⟨fun s hs => by rw [show (i * 17 + s) % 17 = s by omega, zero66, if_pos hs], fun s hs => by rw [show (i * 17 + 8 + s) % 17 = 8 + s by omega, zero66, if_neg (by omega)],
    by rw [show (i * 17 + 16) % 17 = 16 by omega]; rfl⟩⟩, fun _ _ _ _ => ⟨by decide, by decide⟩, fun _ _ => ⟨by decide, by decide⟩⟩
end Go.Proofs.Qxb6602885a.Low
