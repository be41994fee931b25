/-
  Plain facts: a mask's bits, the union of masks, the keys that a mask names.
-/
import Derived.Test.YbulkauycForget
namespace Go.Proofs.Ybulkauyc
open Go Go.Maps Go.RowKit

/-- The test '(m>>uint(k))&1 == 1', as the walk writes it. -/
def bt (m : Int) (k : Nat) : Bool := bits BinOp.and IntKind.u8 (m / 2 ^ k) 1 == 1

theorem bt_form (m : Nat) (hm : m < 256) (k : Nat) : bits BinOp.and IntKind.u8 ((m : Int) / 2 ^ k) 1 = (((m / 2 ^ k) % 2 : Nat) : Int) := by
  have e : ((m : Int) / 2 ^ k) = ((m / 2 ^ k : Nat) : Int) := by simp
  have h2 : m / 2 ^ k < 256 := Nat.lt_of_le_of_lt (Nat.div_le_self _ _) hm
  rw [e]
  have := u8_and_nat (m / 2 ^ k) 1 h2 (by omega)
  simp only [Nat.and_one_is_mod] at this
  exact this

theorem bt_nat (m : Nat) (hm : m < 256) (k : Nat) : bt m k = m.testBit k := by
  unfold bt
  rw [bt_form m hm k, Nat.testBit_eq_decide_div_mod_eq, Bool.eq_iff_iff]
  generalize m / 2 ^ k % 2 = r
  simp only [beq_iff_eq, decide_eq_true_eq]
  omega

/-- The test '.. == 0'. -/
theorem bt_zero (m : Int) (h0 : 0 ≤ m) (h1 : m ≤ 255) (k : Nat) : (bits BinOp.and IntKind.u8 (m / 2 ^ k) 1 == 0) = !bt m k := by
  obtain ⟨n, rfl⟩ := Int.eq_ofNat_of_zero_le h0
  unfold bt
  show (bits BinOp.and IntKind.u8 ((n : Int) / 2 ^ k) 1 == 0) = !(bits BinOp.and IntKind.u8 ((n : Int) / 2 ^ k) 1 == 1)
  rw [bt_form n (by omega) k]
  have : n / 2 ^ k % 2 < 2 := Nat.mod_lt _ (by omega)
  generalize n / 2 ^ k % 2 = r at this
  have : r = 0 ∨ r = 1 := by omega
  rcases this with rfl | rfl <;> rfl

/-- The union of the first i masks. -/
def un (z : List Int) : Nat → Int
  | 0 => 0
  | i + 1 => bits BinOp.or IntKind.u8 (un z i) (z.getD i 0)

theorem un_range {z : List Int} (hz : ∀ i, 0 ≤ z.getD i 0 ∧ z.getD i 0 ≤ 255) : ∀ i, 0 ≤ un z i ∧ un z i ≤ 255
  | 0 => ⟨by unfold un; omega, by unfold un; omega⟩
  | i + 1 => by
    have h := un_range hz i
    have h' := hz i
    unfold un
    rw [u8_or _ _ h.1 (by omega) h'.1 (by omega)]
    have : (un z i).toNat ||| (z.getD i 0).toNat < 2 ^ 8 := Nat.or_lt_two_pow (by omega) (by omega)
    omega

theorem un_bt {z : List Int} (hz : ∀ i, 0 ≤ z.getD i 0 ∧ z.getD i 0 ≤ 255) (k : Nat) : ∀ i, bt (un z i) k = true ↔ ∃ j, j < i ∧ bt (z.getD j 0) k = true
  | 0 => by
    have : bt (un z 0) k = false := by
      have := bt_nat 0 (by omega) k
      simpa [un] using this
    rw [this]
    simp
  | i + 1 => by
    have h := un_range hz i
    have h' := hz i
    have ih := un_bt hz k i
    have e : bt (un z (i + 1)) k = (bt (un z i) k || bt (z.getD i 0) k) := by
      obtain ⟨a, ha⟩ := Int.eq_ofNat_of_zero_le h.1
      obtain ⟨c, hc⟩ := Int.eq_ofNat_of_zero_le h'.1
      show bt (bits BinOp.or IntKind.u8 (un z i) (z.getD i 0)) k = _
      rw [ha, hc]
      rw [ha] at h
      rw [hc] at h'
      have ha' : a < 256 := by omega
      have hc' : c < 256 := by omega
      have e1 := u8_or_nat a c ha' hc'
      have hlt : a ||| c < 256 := Nat.or_lt_two_pow (n := 8) ha' hc'
      show bt (bits BinOp.or IntKind.u8 (a : Int) (c : Int)) k = (bt (a : Int) k || bt (c : Int) k)
      rw [e1, bt_nat _ hlt, bt_nat _ ha', bt_nat _ hc', Nat.testBit_or]
    rw [e, Bool.or_eq_true, ih]
    constructor
    · rintro (⟨j, hj, h1⟩ | h1)
      · exact ⟨j, by omega, h1⟩
      · exact ⟨i, by omega, h1⟩
    · rintro ⟨j, hj, h1⟩
      by_cases e2 : j = i
      · subst e2; exact Or.inr h1
      · exact Or.inl ⟨j, by omega, h1⟩

/-- x is one of the first k keys that p names. -/
def inK (p : Nat → Bool) : Nat → List UInt8 → Bool
  | 0, _ => false
  | k + 1, x => inK p k x || (p k && decide (x = [kb k]))

theorem inK_iff (p : Nat → Bool) (x : List UInt8) : ∀ k, inK p k x = true ↔ ∃ i, i < k ∧ p i = true ∧ x = [kb i]
  | 0 => by simp [inK]
  | k + 1 => by
    simp only [inK, Bool.or_eq_true, Bool.and_eq_true, decide_eq_true_eq, inK_iff p x k]
    constructor
    · rintro (⟨i, h1, h2⟩ | ⟨h1, h2⟩)
      · exact ⟨i, by omega, h2⟩
      · exact ⟨k, by omega, h1, h2⟩
    · rintro ⟨i, h1, h2⟩
      by_cases e : i = k
      · subst e; exact Or.inr h2
      · exact Or.inl ⟨i, by omega, h2⟩

theorem inK_key (p : Nat → Bool) {i : Nat} (hi : i < 4) : inK p 4 [kb i] = p i := by
  rw [Bool.eq_iff_iff, inK_iff]
  constructor
  · rintro ⟨j, h1, h2, h3⟩
    have : i = j := kb_inj hi h1 (by simpa using h3)
    subst this; exact h2
  · intro h; exact ⟨i, hi, h, rfl⟩

/-- The map that the first k keys of p are laid into, with v. -/
def fill (p : Nat → Bool) (v : Nat → Value) : Nat → List UInt8 → Option Value
  | 0 => fun _ => none
  | k + 1 => if p k then upd (fill p v k) [kb k] (v k) else fill p v k

theorem fill_isSome (p : Nat → Bool) (v : Nat → Value) (x : List UInt8) : ∀ k, (fill p v k x).isSome = inK p k x
  | 0 => rfl
  | k + 1 => by
    unfold fill inK
    cases hp : p k
    · simp [fill_isSome p v x k]
    · simp only [if_true, Bool.true_and]
      unfold upd
      by_cases hx : x = [kb k]
      · simp [hx]
      · simp [hx, fill_isSome p v x k]

theorem fill_key (p : Nat → Bool) (v : Nat → Value) {i : Nat} : ∀ k, i < k → k ≤ 4 → p i = true → fill p v k [kb i] = some (v i)
  | 0, h, _, _ => by omega
  | k + 1, h, h4, hp => by
    unfold fill
    by_cases e : i = k
    · subst e; simp [hp, upd]
    · have ih := fill_key p v k (by omega) (by omega) hp
      have hne : kb i ≠ kb k := fun h' => e (kb_inj (by omega) (by omega) h')
      cases p k
      · simpa using ih
      · simp [upd, hne, ih]

end Go.Proofs.Ybulkauyc
