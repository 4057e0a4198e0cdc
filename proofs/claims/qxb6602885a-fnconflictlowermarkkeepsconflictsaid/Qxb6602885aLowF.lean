/-
  THE WALKS, part F: the clones of [][8]uint32 and [][8]uint64: an element of eight cells is read and stored as one.
-/
import Derived.Test.Qxb6602885aLowE
namespace Go.Proofs.Qxb6602885a.Low
open Go.RowKit Go.Proofs

/-- Eight cells of a row from place o on. -/
def cells8 (k : IntKind) (f : Nat → Int) (o : Nat) : List Value := (List.range 8).map fun s => .int k (f (o + s))
theorem cells8_length (k : IntKind) (f : Nat → Int) (o : Nat) : (cells8 k f o).length = 8 := by simp [cells8]
theorem cells8_at (k : IntKind) (f : Nat → Int) (o s : Nat) (hs : s < 8) : (cells8 k f o)[s]? = some (.int k (f (o + s))) := by simp [cells8, hs]
theorem cells8_one (k : IntKind) (f : Nat → Int) (o : Nat) : (cells8 k f o).toArray.all (·.oneCell') = true :=
  all_oneCell_toArray fun v hv => by
    obtain ⟨s, _, rfl⟩ := List.mem_map.1 hv
    rfl

/-- A row behind a store of many cells. -/
theorem row_setCells {b : Nat} {t : TypeId} {n : Nat} : ∀ (vs : List Value) (o : Nat) (w : World) (f : Nat → Value), w.rowIs b t n f → (w.setCells b o vs).rowIs b t n (fun j => if o ≤ j ∧ j < o + vs.length then vs[j - o]?.getD default else f j)
  | [], o, w, f, h => h.congr (fun j _ => by rw [if_neg (by simp)])
  | v :: r, o, w, f, h => by
    refine (row_setCells r (o + 1) _ _ (h.set o v)).congr (fun j _ => ?_)
    by_cases h1 : j = o
    · subst h1
      rw [if_neg (by omega), if_pos rfl, if_pos (by simp), Nat.sub_self]
      rfl
    · by_cases h2 : o + 1 ≤ j ∧ j < o + 1 + r.length
      · rw [if_pos h2, if_pos (by simp; omega), show j - o = (j - (o + 1)) + 1 by omega, List.getElem?_cons_succ]
      · rw [if_neg h2, if_neg h1, if_neg (by simp; omega)]

theorem bel_setCells {B b : Nat} {a : World} (hb : B ≤ b) : ∀ (vs : List Value) (o : Nat) (w : World), Below B a w → Below B a (w.setCells b o vs)
  | [], _, _, h => h
  | v :: r, o, w, h => bel_setCells hb r (o + 1) _ (h.setCell (by exact hb) v)

/-- 'make([]T, n)', n a variable, T of s cells, all of them the same z: for every world a new row at the heap's end. -/
theorem make_rows {P : Program} (t e : TypeId) (z : Value) (s bytes : Nat) (ht : P.underlying t = some (.slice e)) (Z : Value) (hinfo : (P.info? e).map (fun i => (i.zero, i.size, i.bytes)) = some (some Z, s, bytes))
    (hz : Z.cells = Array.replicate s z) (hs0 : 0 < s) (n : Nat) (hbytes : bytes * n ≤ 281474976710656) (h63 : n ≤ 9223372036854775807) :
    ∃ A : Array Value, A.size = n * s ∧ (∀ i, i < n * s → A[i]? = some z) ∧ ∀ w : World, (Instr.makeSlice t (.int .i64 (n : Int)) (.int .i64 (n : Int))).run P w = .ok (.slice (some ⟨w.heap.size, 0, none⟩) n n) (w.alloc (.cells A e)) := by
  obtain ⟨i, hi, hzz⟩ := Option.map_eq_some_iff.1 hinfo
  simp only [Prod.mk.injEq] at hzz
  obtain ⟨hz1, hz2, hz3⟩ := hzz
  refine ⟨madeCells Z.cells (n * s), size_madeCells _ _, fun j hj => ?_, fun w => ?_⟩
  · have hm : j % s < s := Nat.mod_lt _ hs0
    simp [madeCells, hz, hj, hm]
  · have hb' : (i.bytes : Int) * (n : Int) ≤ 281474976710656 := by
      have h : ((i.bytes * n : Nat) : Int) ≤ 281474976710656 := by rw [hz3]; omega
      rwa [Int.natCast_mul] at h
    have hr := run_make (P := P) w t e i Z ht hi hz1 .i64 .i64 n n (by omega) (Int.le_refl _) hb' (by omega)
    simp only [Int.toNat_natCast, hz2] at hr
    exact hr

theorem info23 : (Try.prog.info? 23).map (fun i => (i.zero, i.size, i.bytes)) = some (some (.agg #[.int .u32 0, .int .u32 0, .int .u32 0, .int .u32 0, .int .u32 0, .int .u32 0, .int .u32 0, .int .u32 0]), 8, 32) := by kernel_rfl
theorem size23F : (Try.prog.info? 23).map (·.size) = some 8 := by kernel_rfl
theorem info25 : (Try.prog.info? 25).map (fun i => (i.zero, i.size, i.bytes)) = some (some (.agg #[.int .u64 0, .int .u64 0, .int .u64 0, .int .u64 0, .int .u64 0, .int .u64 0, .int .u64 0, .int .u64 0]), 8, 64) := by kernel_rfl
theorem size25F : (Try.prog.info? 25).map (·.size) = some 8 := by kernel_rfl
set_option maxHeartbeats 400000 in
theorem clone16_core (b off n c : Nat) (f : Nat → Int) (hn : n ≤ 1048576) (w : World) (hc : ∀ j, j < n * 8 → w.cell? ⟨b, off + j, none⟩ = some (.int .u32 (f j))) :
    Calls Try.prog 16 #[.slice (some ⟨b, off, none⟩) n c] w fun e w' =>
      e = .returned (.slice (some ⟨w.heap.size, 0, none⟩) n n) ∧ w'.rowIs w.heap.size 23 (n * 8) (fun j => .int .u32 (f j)) ∧ Below w.heap.size w w' := by
  obtain ⟨A, hA, hA0, hmk⟩ := make_rows (P := Try.prog) 33 23 (.int .u32 0) 8 32 Try.underlying33 _ info23 rfl (by omega) n (by omega) (by omega)
  have hnil := fun w => Lib.run_eql_slice_nil (P := Try.prog) w 33 23 (some ⟨b, off, none⟩) n c 0 0 Try.underlying33
  have hb : ∀ j, j < n → b < w.heap.size := fun j hj => World.block_lt_of_cell? w _ (hc (j * 8) (by omega))
  have hrow0 := World.rowIs_alloc w A 23 (fun _ => .int .u32 0) (fun i hi => hA0 i (by omega))
  rw [hA] at hrow0
  have HR0 : Hid ((w.alloc (.cells A 23)).rowIs w.heap.size 23 (n * 8) (fun _ => .int .u32 0)) := hrow0
  clear hA hA0 hrow0
  go_enter Try.func16, Try.ntmps16
  go_wp2
  clear hmk hnil
  go_loopw [4] (fun i wr => ∃ k : Nat, k ≤ n ∧ i = .int .i64 k ∧ wr.rowIs w.heap.size 23 (n * 8) (fun j => if j < k * 8 then .int .u32 (f j) else .int .u32 0) ∧ Below w.heap.size w wr) (fun i _ => n - (intOf i).toNat)
  case atStart => exact ⟨0, by omega, rfl, HR0.out.congr (fun j _ => by simp), (Below.refl _ _).alloc (Nat.le_refl _) _⟩
  case round =>
    obtain ⟨k, hk, rfl, hrow, hbel⟩ := hrel
    by_cases hlt : k < n
    · have hbb := hb k hlt
      have hold : wr.rangeAt b (off + k * 8) (cells8 .u32 f (k * 8)) := fun j v hv => by
        have hj : j < 8 := by have := (List.getElem?_eq_some_iff.1 hv).1; rwa [cells8_length] at this
        rw [cells8_at _ _ _ _ hj] at hv
        rw [← hv, Nat.add_assoc]
        exact (hbel.cell (p := ⟨b, off + (k * 8 + j), none⟩) hbb).trans (hc (k * 8 + j) (by omega))
      have hth : wr.there w.heap.size (k * 8) (cells8 .u32 f (k * 8)).toArray.size := fun j hj => by
        have hj : j < 8 := by simpa [cells8_length] using hj
        exact ⟨by rw [hrow.cell (i := k * 8 + j) (by omega)]; rfl, hrow.frozen _⟩
      have hsl : (Try.prog.info? 23).map (·.size) = some (cells8 .u32 f (k * 8)).length := by rw [cells8_length]; exact size23F
      have hsa : (Try.prog.info? 23).map (·.size) = some (cells8 .u32 f (k * 8)).toArray.size := by simpa using hsl
      have HR : Hid (wr.rowIs w.heap.size 23 (n * 8) (fun j => if j < k * 8 then .int .u32 (f j) else .int .u32 0)) := hrow
      clear hrow hc hb HR0
      go_wp2_with (first | (refine wpList_load_mid rfl 23 (.tmp 20) ?_ b (off + k * 8) ?_ (cells8 .u32 f (k * 8)) _ ?_ Try.underlying23 rfl hsl ?_; (focus rfl); (focus rfl); (focus exact hold)) | (refine wpList_store_mid rfl 23 (.tmp 22) (.tmp 21) ?_ w.heap.size (k * 8) (cells8 .u32 f (k * 8)).toArray ?_ ?_ ?_ hsa (cells8_one _ _ _) ?_; (focus rfl); (focus rfl); (focus rfl); (focus exact hth)))
      go_roundw
      case rel =>
        refine ⟨k + 1, by omega, by go_num, (row_setCells (cells8 .u32 f (k * 8)) (k * 8) _ _ HR.out).congr (fun j hj => ?_), bel_setCells (Nat.le_refl _) _ _ _ hbel⟩
        rw [cells8_length]
        by_cases e : k * 8 ≤ j ∧ j < k * 8 + 8
        · rw [if_pos e, cells8_at _ _ _ _ (by omega), if_pos (by omega), show k * 8 + (j - k * 8) = j by omega]; rfl
        · rw [if_neg e]
          by_cases e' : j < k * 8
          · rw [if_pos e', if_pos (by omega)]
          · rw [if_neg e', if_neg (by omega)]
      case measure => simp [intOf]; omega
    · have e : k = n := by omega
      subst e
      clear hc hb HR0
      have HR : Hid (wr.rowIs w.heap.size 23 (k * 8) (fun j => if j < k * 8 then .int .u32 (f j) else .int .u32 0)) := hrow
      clear hrow
      go_wp2
      go_ret
      exact ⟨rfl, HR.out.congr (fun j hj => by rw [if_pos hj]), hbel⟩

set_option maxHeartbeats 400000 in
theorem clone16_none (ao : Option Addr) (c : Nat) (w : World) :
    Calls Try.prog 16 #[.slice ao 0 c] w fun e w' => (∃ ao' c', e = .returned (.slice ao' 0 c')) ∧ Below w.heap.size w w' := by
  have hnil := fun w => Lib.run_eql_slice_nil (P := Try.prog) w 33 23 ao 0 c 0 0 Try.underlying33
  cases ao with
  | none =>
    go_enter Try.func16, Try.ntmps16
    go_wp2
    go_ret
    exact ⟨⟨_, _, rfl⟩, Below.refl _ _⟩
  | some a =>
    have hmk : ∀ w, (Instr.makeSlice 33 (.int .i64 0) (.int .i64 0)).run Try.prog w = .ok (.slice (some ⟨w.heap.size, 0, none⟩) 0 0) (w.alloc (.cells #[] 23)) := fun _ => by kernel_rfl
    go_enter Try.func16, Try.ntmps16
    go_wp2
    clear hmk hnil
    go_loopw [4] (fun i wr => i = .int .i64 0 ∧ Below w.heap.size w wr) (fun _ _ => 0)
    case atStart => exact ⟨rfl, (Below.refl _ _).alloc (Nat.le_refl _) _⟩
    case round =>
      obtain ⟨rfl, hbel⟩ := hrel
      go_wp2
      go_ret
      exact ⟨⟨_, _, rfl⟩, hbel⟩

theorem clone16_any (ao : Option Addr) (n c : Nat) (f : Nat → Int) (hn : n ≤ 1048576) (w : World) (hs : Src w ao n (n * 8) .u32 f) :
    Calls Try.prog 16 #[.slice ao n c] w fun e w' => (∃ ao' c', e = .returned (.slice ao' n c') ∧ Own w' w.heap.size ao' n (n * 8) 23 .u32 f) ∧ Below w.heap.size w w' := by
  by_cases hp : 0 < n
  · obtain ⟨b, off, rfl, hc⟩ := hs hp
    refine (clone16_core b off n c f hn w hc).mono fun e w' ⟨he, hr, hb⟩ => ⟨⟨_, _, he, fun _ => ⟨_, rfl, Nat.le_refl _, hr⟩⟩, hb⟩
  · have e : n = 0 := by omega
    subst e
    refine (clone16_none ao c w).mono fun e w' ⟨⟨ao', c', he⟩, hb⟩ => ⟨⟨ao', c', he, fun h => absurd h (Nat.lt_irrefl _)⟩, hb⟩

set_option maxHeartbeats 400000 in
theorem clone17_core (b off n c : Nat) (f : Nat → Int) (hn : n ≤ 1048576) (w : World) (hc : ∀ j, j < n * 8 → w.cell? ⟨b, off + j, none⟩ = some (.int .u64 (f j))) :
    Calls Try.prog 17 #[.slice (some ⟨b, off, none⟩) n c] w fun e w' =>
      e = .returned (.slice (some ⟨w.heap.size, 0, none⟩) n n) ∧ w'.rowIs w.heap.size 25 (n * 8) (fun j => .int .u64 (f j)) ∧ Below w.heap.size w w' := by
  obtain ⟨A, hA, hA0, hmk⟩ := make_rows (P := Try.prog) 34 25 (.int .u64 0) 8 64 Try.underlying34 _ info25 rfl (by omega) n (by omega) (by omega)
  have hnil := fun w => Lib.run_eql_slice_nil (P := Try.prog) w 34 25 (some ⟨b, off, none⟩) n c 0 0 Try.underlying34
  have hb : ∀ j, j < n → b < w.heap.size := fun j hj => World.block_lt_of_cell? w _ (hc (j * 8) (by omega))
  have hrow0 := World.rowIs_alloc w A 25 (fun _ => .int .u64 0) (fun i hi => hA0 i (by omega))
  rw [hA] at hrow0
  have HR0 : Hid ((w.alloc (.cells A 25)).rowIs w.heap.size 25 (n * 8) (fun _ => .int .u64 0)) := hrow0
  clear hA hA0 hrow0
  go_enter Try.func17, Try.ntmps17
  go_wp2
  clear hmk hnil
  go_loopw [4] (fun i wr => ∃ k : Nat, k ≤ n ∧ i = .int .i64 k ∧ wr.rowIs w.heap.size 25 (n * 8) (fun j => if j < k * 8 then .int .u64 (f j) else .int .u64 0) ∧ Below w.heap.size w wr) (fun i _ => n - (intOf i).toNat)
  case atStart => exact ⟨0, by omega, rfl, HR0.out.congr (fun j _ => by simp), (Below.refl _ _).alloc (Nat.le_refl _) _⟩
  case round =>
    obtain ⟨k, hk, rfl, hrow, hbel⟩ := hrel
    by_cases hlt : k < n
    · have hbb := hb k hlt
      have hold : wr.rangeAt b (off + k * 8) (cells8 .u64 f (k * 8)) := fun j v hv => by
        have hj : j < 8 := by have := (List.getElem?_eq_some_iff.1 hv).1; rwa [cells8_length] at this
        rw [cells8_at _ _ _ _ hj] at hv
        rw [← hv, Nat.add_assoc]
        exact (hbel.cell (p := ⟨b, off + (k * 8 + j), none⟩) hbb).trans (hc (k * 8 + j) (by omega))
      have hth : wr.there w.heap.size (k * 8) (cells8 .u64 f (k * 8)).toArray.size := fun j hj => by
        have hj : j < 8 := by simpa [cells8_length] using hj
        exact ⟨by rw [hrow.cell (i := k * 8 + j) (by omega)]; rfl, hrow.frozen _⟩
      have hsl : (Try.prog.info? 25).map (·.size) = some (cells8 .u64 f (k * 8)).length := by rw [cells8_length]; exact size25F
      have hsa : (Try.prog.info? 25).map (·.size) = some (cells8 .u64 f (k * 8)).toArray.size := by simpa using hsl
      have HR : Hid (wr.rowIs w.heap.size 25 (n * 8) (fun j => if j < k * 8 then .int .u64 (f j) else .int .u64 0)) := hrow
      clear hrow hc hb HR0
      go_wp2_with (first | (refine wpList_load_mid rfl 25 (.tmp 20) ?_ b (off + k * 8) ?_ (cells8 .u64 f (k * 8)) _ ?_ Try.underlying25 rfl hsl ?_; (focus rfl); (focus rfl); (focus exact hold)) | (refine wpList_store_mid rfl 25 (.tmp 22) (.tmp 21) ?_ w.heap.size (k * 8) (cells8 .u64 f (k * 8)).toArray ?_ ?_ ?_ hsa (cells8_one _ _ _) ?_; (focus rfl); (focus rfl); (focus rfl); (focus exact hth)))
      go_roundw
      case rel =>
        refine ⟨k + 1, by omega, by go_num, (row_setCells (cells8 .u64 f (k * 8)) (k * 8) _ _ HR.out).congr (fun j hj => ?_), bel_setCells (Nat.le_refl _) _ _ _ hbel⟩
        rw [cells8_length]
        by_cases e : k * 8 ≤ j ∧ j < k * 8 + 8
        · rw [if_pos e, cells8_at _ _ _ _ (by omega), if_pos (by omega), show k * 8 + (j - k * 8) = j by omega]; rfl
        · rw [if_neg e]
          by_cases e' : j < k * 8
          · rw [if_pos e', if_pos (by omega)]
          · rw [if_neg e', if_neg (by omega)]
      case measure => simp [intOf]; omega
    · have e : k = n := by omega
      subst e
      clear hc hb HR0
      have HR : Hid (wr.rowIs w.heap.size 25 (k * 8) (fun j => if j < k * 8 then .int .u64 (f j) else .int .u64 0)) := hrow
      clear hrow
      go_wp2
      go_ret
      exact ⟨rfl, HR.out.congr (fun j hj => by rw [if_pos hj]), hbel⟩

set_option maxHeartbeats 400000 in
theorem clone17_none (ao : Option Addr) (c : Nat) (w : World) :
    Calls Try.prog 17 #[.slice ao 0 c] w fun e w' => (∃ ao' c', e = .returned (.slice ao' 0 c')) ∧ Below w.heap.size w w' := by
  have hnil := fun w => Lib.run_eql_slice_nil (P := Try.prog) w 34 25 ao 0 c 0 0 Try.underlying34
  cases ao with
  | none =>
    go_enter Try.func17, Try.ntmps17
    go_wp2
    go_ret
    exact ⟨⟨_, _, rfl⟩, Below.refl _ _⟩
  | some a =>
    have hmk : ∀ w, (Instr.makeSlice 34 (.int .i64 0) (.int .i64 0)).run Try.prog w = .ok (.slice (some ⟨w.heap.size, 0, none⟩) 0 0) (w.alloc (.cells #[] 25)) := fun _ => by kernel_rfl
    go_enter Try.func17, Try.ntmps17
    go_wp2
    clear hmk hnil
    go_loopw [4] (fun i wr => i = .int .i64 0 ∧ Below w.heap.size w wr) (fun _ _ => 0)
    case atStart => exact ⟨rfl, (Below.refl _ _).alloc (Nat.le_refl _) _⟩
    case round =>
      obtain ⟨rfl, hbel⟩ := hrel
      go_wp2
      go_ret
      exact ⟨⟨_, _, rfl⟩, hbel⟩

theorem clone17_any (ao : Option Addr) (n c : Nat) (f : Nat → Int) (hn : n ≤ 1048576) (w : World) (hs : Src w ao n (n * 8) .u64 f) :
    Calls Try.prog 17 #[.slice ao n c] w fun e w' => (∃ ao' c', e = .returned (.slice ao' n c') ∧ Own w' w.heap.size ao' n (n * 8) 25 .u64 f) ∧ Below w.heap.size w w' := by
  by_cases hp : 0 < n
  · obtain ⟨b, off, rfl, hc⟩ := hs hp
    refine (clone17_core b off n c f hn w hc).mono fun e w' ⟨he, hr, hb⟩ => ⟨⟨_, _, he, fun _ => ⟨_, rfl, Nat.le_refl _, hr⟩⟩, hb⟩
  · have e : n = 0 := by omega
    subst e
    refine (clone17_none ao c w).mono fun e w' ⟨⟨ao', c', he⟩, hb⟩ => ⟨⟨ao', c', he, fun h => absurd h (Nat.lt_irrefl _)⟩, hb⟩

end Go.Proofs.Qxb6602885a.Low
