/- Plain words on lists of bytes: numbers of several bytes, and pieces taken off the front. No program and no memory stand here. -/
import Derived.Test.YtopcljikkdlffaaRows
namespace Go.Proofs.Ytopcljikkdlffaa

/-- The number that bytes say, highest first. -/
def be (l : List UInt8) : Nat := l.foldl (fun a b => a * 256 + b.toNat) 0

theorem be_snoc (l : List UInt8) (b : UInt8) : be (l ++ [b]) = be l * 256 + b.toNat := by simp [be]

theorem foldl_be (l : List UInt8) : ∀ a : Nat, l.foldl (fun a b => a * 256 + b.toNat) a = a * 256 ^ l.length + be l := by
  induction l with
  | nil => intro a; simp [be]
  | cons b l ih =>
    intro a
    have h0 := ih (0 * 256 + b.toNat)
    simp only [be, List.foldl_cons, List.length_cons] at h0 ⊢
    rw [ih, h0, Nat.pow_succ]
    simp only [Nat.add_mul, Nat.zero_mul, Nat.zero_add, Nat.mul_assoc, Nat.add_assoc]
    rw [Nat.mul_comm 256]
    rfl

theorem be_cons (b : UInt8) (l : List UInt8) : be (b :: l) = b.toNat * 256 ^ l.length + be l := by
  have := foldl_be l (0 * 256 + b.toNat)
  simpa [be] using this

theorem be_lt (l : List UInt8) : be l < 256 ^ l.length := by
  induction l with
  | nil => simp [be]
  | cons b l ih =>
    rw [be_cons]
    have hb := b.toNat_lt
    have h : b.toNat * 256 ^ l.length + 256 ^ l.length ≤ 256 * 256 ^ l.length := by
      have := Nat.mul_le_mul_right (256 ^ l.length) (show b.toNat + 1 ≤ 256 by omega)
      rwa [Nat.add_mul, Nat.one_mul] at this
    simp only [List.length_cons, Nat.pow_succ]
    omega

/-- A number as so many bytes, highest first. -/
def en : Nat → Nat → List UInt8
  | 0, _ => []
  | k + 1, n => UInt8.ofNat (n / 256 ^ k) :: en k n

theorem en_length (k n : Nat) : (en k n).length = k := by
  induction k with
  | zero => rfl
  | succ k ih => simp [en, ih]

theorem be_en (k n : Nat) : be (en k n) = n % 256 ^ k := by
  induction k with
  | zero => simp [be, en, Nat.mod_one]
  | succ k ih =>
    rw [en, be_cons, ih, en_length]
    simp only [UInt8.toNat_ofNat']
    have e := Nat.mod_mul (a := 256 ^ k) (b := 256) (x := n)
    rw [Nat.pow_succ (n := 256) (m := k), e, Nat.add_comm, Nat.mul_comm]

theorem en_be (l : List UInt8) : en l.length (be l) = l := by
  induction l with
  | nil => rfl
  | cons b l ih =>
    simp only [List.length_cons, en]
    have hl := be_lt l
    have h1 : be (b :: l) / 256 ^ l.length = b.toNat := by
      rw [be_cons, Nat.add_comm, Nat.add_mul_div_right _ _ (Nat.pow_pos (by omega)), Nat.div_eq_of_lt hl, Nat.zero_add]
    rw [h1]
    congr 1
    · simp
    · have key : ∀ (k : Nat) (a n : Nat), k ≤ l.length → en k (a * 256 ^ l.length + n) = en k n := by
        intro k
        induction k with
        | zero => intro a n _; rfl
        | succ k ihk =>
          intro a n hk
          simp only [en]
          rw [ihk a n (by omega)]
          congr 1
          have e : a * 256 ^ l.length = (a * 256 ^ (l.length - k - 1)) * 256 * 256 ^ k := by
            rw [Nat.mul_assoc, Nat.mul_assoc, ← Nat.pow_succ', ← Nat.pow_add]
            congr 2; omega
          rw [e, Nat.add_comm, Nat.add_mul_div_right _ _ (Nat.pow_pos (by omega))]
          apply UInt8.toNat_inj.1
          simp only [UInt8.toNat_ofNat']
          omega
      rw [be_cons, key _ _ _ (Nat.le_refl _)]
      exact ih

theorem pow256_le {k : Nat} (h : k ≤ 3) : 256 ^ k ≤ 16777216 := by have := Nat.pow_le_pow_right (n := 256) (by omega) h; simpa using this

/-- So many bytes off the front. -/
def rd (k : Nat) (s : List UInt8) : Option (List UInt8 × List UInt8) := if k ≤ s.length then some (s.take k, s.drop k) else none

/-- A vector with a length of k bytes off the front. -/
def rdv (k : Nat) (s : List UInt8) : Option (List UInt8 × List UInt8) :=
  match rd k s with
  | some (a, r) => rd (be a) r
  | none => none

theorem rd_some {k : Nat} {s a r : List UInt8} (h : rd k s = some (a, r)) : s = a ++ r ∧ a.length = k := by
  unfold rd at h
  split at h
  · simp only [Option.some.injEq, Prod.mk.injEq] at h
    obtain ⟨rfl, rfl⟩ := h
    exact ⟨(List.take_append_drop k s).symm, by simp; omega⟩
  · cases h

theorem rd_append (a r : List UInt8) : rd a.length (a ++ r) = some (a, r) := by simp [rd]

theorem rd_none {k : Nat} {s : List UInt8} (h : rd k s = none) : s.length < k := by
  unfold rd at h
  split at h
  · cases h
  · omega

theorem rdv_some {k : Nat} {s x r : List UInt8} (h : rdv k s = some (x, r)) : s = en k x.length ++ x ++ r ∧ x.length < 256 ^ k := by
  unfold rdv at h
  split at h
  · rename_i a r' h'
    obtain ⟨rfl, hk⟩ := rd_some h'
    obtain ⟨rfl, hx⟩ := rd_some h
    have hl := be_lt a
    rw [hk] at hl
    rw [hx]
    refine ⟨?_, hl⟩
    rw [← hk, en_be, List.append_assoc]
  · cases h

theorem rdv_append {k : Nat} {x r : List UInt8} (h : x.length < 256 ^ k) : rdv k (en k x.length ++ x ++ r) = some (x, r) := by
  unfold rdv
  have e := rd_append (en k x.length) (x ++ r)
  rw [en_length, ← List.append_assoc] at e
  rw [e]
  simp only [be_en]
  rw [Nat.mod_eq_of_lt h]
  exact rd_append x r

end Go.Proofs.Ytopcljikkdlffaa
