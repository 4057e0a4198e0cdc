/-
  THE PLAIN LAW, with no Go in sight: the latest writer above a mark, over two lists of hashes; what a lower mark makes of it.
-/
import Derived.WalkKit
namespace Go.Proofs.Qxb6602885a.Low

/-- One hash more: the latest so far, and the hash's writer where it is above the mark (a writer is stored as its id plus one; 0 stands for none). -/
def step (F : Int → Int) (m acc h : Int) : Int := if F h ≠ 0 ∧ m < F h - 1 then (if acc < F h then F h else acc) else acc
/-- The first k hashes of a list. -/
def lat (F : Int → Int) (m : Int) (hs : Nat → Int) : Nat → Int → Int
  | 0, acc => acc
  | k + 1, acc => step F m (lat F m hs k acc) (hs k)
/-- The first k lists. -/
def accs (F : Int → Int) (m : Int) (n : Nat → Nat) (hs : Nat → Nat → Int) : Nat → Int
  | 0 => 0
  | k + 1 => lat F m (hs k) (n k) (accs F m n hs k)

theorem step_zero {F : Int → Int} {m acc h : Int} (hz : F h = 0) : step F m acc h = acc := by
  unfold step; rw [if_neg (fun e => e.1 hz)]
theorem step_low {F : Int → Int} {m acc h : Int} (hm : F h - 1 ≤ m) : step F m acc h = acc := by
  unfold step; rw [if_neg (fun e => by omega)]
theorem step_up {F : Int → Int} {m acc h : Int} (hz : F h ≠ 0) (hm : m < F h - 1) (hl : acc < F h) : step F m acc h = F h := by
  unfold step; rw [if_pos ⟨hz, hm⟩, if_pos hl]
theorem step_keep {F : Int → Int} {m acc h : Int} (hz : F h ≠ 0) (hm : m < F h - 1) (hl : F h ≤ acc) : step F m acc h = acc := by
  unfold step; rw [if_pos ⟨hz, hm⟩, if_neg (by omega)]

theorem step_bd {F : Int → Int} {m acc h : Int} {B : Int} (hf : 0 ≤ F h ∧ F h ≤ B) (ha : 0 ≤ acc ∧ acc ≤ B) : 0 ≤ step F m acc h ∧ step F m acc h ≤ B := by
  unfold step
  split
  · split <;> omega
  · exact ha

theorem lat_bd {F : Int → Int} {m : Int} {hs : Nat → Int} {B : Int} (hf : ∀ h, 0 ≤ F h ∧ F h ≤ B) : ∀ (k : Nat) (acc : Int), 0 ≤ acc ∧ acc ≤ B → 0 ≤ lat F m hs k acc ∧ lat F m hs k acc ≤ B
  | 0, _, ha => ha
  | k + 1, acc, ha => step_bd (hf _) (lat_bd hf k acc ha)

theorem accs_bd {F : Int → Int} {m : Int} {n : Nat → Nat} {hs : Nat → Nat → Int} {B : Int} (hB : 0 ≤ B) (hf : ∀ h, 0 ≤ F h ∧ F h ≤ B) : ∀ k : Nat, 0 ≤ accs F m n hs k ∧ accs F m n hs k ≤ B
  | 0 => ⟨Int.le_refl _, hB⟩
  | k + 1 => lat_bd hf (n k) _ (accs_bd hB hf k)

/-- What the latest at the mark lo and the latest at the mark hi have to do with each other. -/
def Rel (lo hi a b : Int) : Prop := 0 ≤ a ∧ 0 ≤ b ∧ (a = 0 ∨ lo < a - 1) ∧ (b = 0 ∨ hi < b - 1) ∧ (b ≠ 0 → a = b) ∧ (b = 0 → a - 1 ≤ hi ∨ a = 0)

theorem mx_cases (a x : Int) : (if a < x then x else a) = x ∧ a < x ∨ (if a < x then x else a) = a ∧ x ≤ a := by
  by_cases h : a < x
  · rw [if_pos h]; exact .inl ⟨rfl, h⟩
  · rw [if_neg h]; exact .inr ⟨rfl, by omega⟩

theorem rel_of {lo hi a b x y z : Int} (hle : lo ≤ hi) (hr : Rel lo hi a b) (hx : 0 < x) (hy : lo < x - 1 ∧ (y = x ∧ a < x ∨ y = a ∧ x ≤ a) ∨ ¬ lo < x - 1 ∧ y = a)
    (hz : hi < x - 1 ∧ (z = x ∧ b < x ∨ z = b ∧ x ≤ b) ∨ ¬ hi < x - 1 ∧ z = b) : Rel lo hi y z := by
  obtain ⟨h1, h2, h3, h4, h5, h6⟩ := hr
  by_cases hb : b = 0
  · have h6' := h6 hb
    subst hb
    clear h5 h6
    unfold Rel
    rcases hy with ⟨p, ⟨rfl, q⟩ | ⟨rfl, q⟩⟩ | ⟨p, rfl⟩ <;> rcases hz with ⟨p', ⟨rfl, q'⟩ | ⟨rfl, q'⟩⟩ | ⟨p', rfl⟩ <;> omega
  · have h5' := h5 hb
    subst h5'
    clear h5 h6
    unfold Rel
    rcases hy with ⟨p, ⟨rfl, q⟩ | ⟨rfl, q⟩⟩ | ⟨p, rfl⟩ <;> rcases hz with ⟨p', ⟨rfl, q'⟩ | ⟨rfl, q'⟩⟩ | ⟨p', rfl⟩ <;> omega

theorem step_cases (F : Int → Int) (m a h : Int) (hz : F h ≠ 0) : m < F h - 1 ∧ (step F m a h = F h ∧ a < F h ∨ step F m a h = a ∧ F h ≤ a) ∨ ¬ m < F h - 1 ∧ step F m a h = a := by
  unfold step
  by_cases hm : m < F h - 1
  · rw [if_pos ⟨hz, hm⟩]
    exact .inl ⟨hm, mx_cases a (F h)⟩
  · rw [if_neg (fun e => hm e.2)]
    exact .inr ⟨hm, rfl⟩

theorem step_rel {F : Int → Int} {lo hi a b h : Int} (hle : lo ≤ hi) (hf : 0 ≤ F h) (hr : Rel lo hi a b) : Rel lo hi (step F lo a h) (step F hi b h) := by
  by_cases hz : F h = 0
  · have e : ∀ m c, step F m c h = c := fun m c => by unfold step; rw [if_neg (fun e => e.1 hz)]
    rw [e, e]
    exact hr
  · exact rel_of hle hr (by omega) (step_cases F lo a h hz) (step_cases F hi b h hz)

theorem lat_rel {F : Int → Int} {lo hi : Int} {hs : Nat → Int} (hle : lo ≤ hi) (hf : ∀ h, 0 ≤ F h) : ∀ (k : Nat) (a b : Int), Rel lo hi a b → Rel lo hi (lat F lo hs k a) (lat F hi hs k b)
  | 0, _, _, hr => hr
  | k + 1, a, b, hr => step_rel hle (hf _) (lat_rel hle hf k a b hr)

theorem accs_rel {F : Int → Int} {lo hi : Int} {n : Nat → Nat} {hs : Nat → Nat → Int} (hle : lo ≤ hi) (hf : ∀ h, 0 ≤ F h) : ∀ k : Nat, Rel lo hi (accs F lo n hs k) (accs F hi n hs k)
  | 0 => ⟨Int.le_refl _, Int.le_refl _, .inl rfl, .inl rfl, fun e => absurd rfl e, fun _ => .inr rfl⟩
  | k + 1 => lat_rel hle hf (n k) _ _ (accs_rel hle hf k)
end Go.Proofs.Qxb6602885a.Low
