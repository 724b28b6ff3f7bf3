/- Plain words on lists of bytes: numbers of several bytes, and pieces taken off the front. No program and no memory stand here. A rule for a statement whose order of evaluation Go leaves open: reads and reckonings may be taken in one fixed order, effects come in the order that the statement's edges force. Words on bytes in memory that the contracts below share: no statement of the seat is proved here. No statement of the seat is proved here. -/
import Derived.Test.YtopcljikkdlffaaGreatRows
import Derived.OrdersHeld
import Derived.StillTail
import Derived.WalkKit
import Derived.WalkLawsBesides
import Derived.WalkSpells
import Derived.ProofKit
import Derived.OpenShut
import Derived.BigQuiet
import Derived.Deep.QuietTactic
import Derived.StillTailTactics
import Derived.RegionTactic
import Derived.Deep.RegionWith
import Derived.Lib.Hide
import Derived.Laws.BitsAllLaws
import Derived.Laws.AppendOwnNone
import Derived.Deep.RegionHeld3
import Derived.Deep.AppendLies
import Derived.Laws.CopyOwn
import Derived.Laws.EntriesVeiled
namespace Go.Proofs.YtopcljikkdlffaaGreat

/-- The number that bytes say, highest first. -/
def be (l : List UInt8) : Nat := l.foldl (fun a b => a * 256 + b.toNat) 0

theorem be_snoc (l : List UInt8) (b : UInt8) : be (l ++ [b]) = be l * 256 + b.toNat := by simp [be]

theorem foldl_be (l : List UInt8) : ∀ a : Nat, l.foldl (fun a b => a * 256 + b.toNat) a = a * 256 ^ l.length + be l := by
  induction l with
  | nil => intro a; simp [be]
  | cons b l ih =>
    intro a
    have h0 := ih (0 * 256 + b.toNat)
    simp only [be, List.foldl_cons, List.length_cons] at h0 ⊢
    rw [ih, h0, Nat.pow_succ]
    simp only [Nat.add_mul, Nat.zero_mul, Nat.zero_add, Nat.mul_assoc, Nat.add_assoc]
    rw [Nat.mul_comm 256]
    rfl

theorem be_cons (b : UInt8) (l : List UInt8) : be (b :: l) = b.toNat * 256 ^ l.length + be l := by
  have := foldl_be l (0 * 256 + b.toNat)
  simpa [be] using this

theorem be_lt (l : List UInt8) : be l < 256 ^ l.length := by
  induction l with
  | nil => simp [be]
  | cons b l ih =>
    rw [be_cons]
    have hb := b.toNat_lt
    have h : b.toNat * 256 ^ l.length + 256 ^ l.length ≤ 256 * 256 ^ l.length := by
      have := Nat.mul_le_mul_right (256 ^ l.length) (show b.toNat + 1 ≤ 256 by omega)
      rwa [Nat.add_mul, Nat.one_mul] at this
    simp only [List.length_cons, Nat.pow_succ]
    omega

/-- A number as so many bytes, highest first. -/
def en : Nat → Nat → List UInt8
  | 0, _ => []
  | k + 1, n => UInt8.ofNat (n / 256 ^ k) :: en k n

theorem en_length (k n : Nat) : (en k n).length = k := by
  induction k with
  | zero => rfl
  | succ k ih => simp [en, ih]

theorem be_en (k n : Nat) : be (en k n) = n % 256 ^ k := by
  induction k with
  | zero => simp [be, en, Nat.mod_one]
  | succ k ih =>
    rw [en, be_cons, ih, en_length]
    simp only [UInt8.toNat_ofNat']
    have e := Nat.mod_mul (a := 256 ^ k) (b := 256) (x := n)
    rw [Nat.pow_succ (n := 256) (m := k), e, Nat.add_comm, Nat.mul_comm]

theorem en_be (l : List UInt8) : en l.length (be l) = l := by
  induction l with
  | nil => rfl
  | cons b l ih =>
    simp only [List.length_cons, en]
    have hl := be_lt l
    have h1 : be (b :: l) / 256 ^ l.length = b.toNat := by
      rw [be_cons, Nat.add_comm, Nat.add_mul_div_right _ _ (Nat.pow_pos (by omega)), Nat.div_eq_of_lt hl, Nat.zero_add]
    rw [h1]
    congr 1
    · simp
    · have key : ∀ (k : Nat) (a n : Nat), k ≤ l.length → en k (a * 256 ^ l.length + n) = en k n := by
        intro k
        induction k with
        | zero => intro a n _; rfl
        | succ k ihk =>
          intro a n hk
          simp only [en]
          rw [ihk a n (by omega)]
          congr 1
          have e : a * 256 ^ l.length = (a * 256 ^ (l.length - k - 1)) * 256 * 256 ^ k := by
            rw [Nat.mul_assoc, Nat.mul_assoc, ← Nat.pow_succ', ← Nat.pow_add]
            congr 2; omega
          rw [e, Nat.add_comm, Nat.add_mul_div_right _ _ (Nat.pow_pos (by omega))]
          apply UInt8.toNat_inj.1
          simp only [UInt8.toNat_ofNat']
          omega
      rw [be_cons, key _ _ _ (Nat.le_refl _)]
      exact ih

theorem pow256_le {k : Nat} (h : k ≤ 3) : 256 ^ k ≤ 16777216 := by have := Nat.pow_le_pow_right (n := 256) (by omega) h; simpa using this

/-- So many bytes off the front. -/
def rd (k : Nat) (s : List UInt8) : Option (List UInt8 × List UInt8) := if k ≤ s.length then some (s.take k, s.drop k) else none

/-- A vector with a length of k bytes off the front. -/
def rdv (k : Nat) (s : List UInt8) : Option (List UInt8 × List UInt8) :=
  match rd k s with
  | some (a, r) => rd (be a) r
  | none => none

theorem rd_some {k : Nat} {s a r : List UInt8} (h : rd k s = some (a, r)) : s = a ++ r ∧ a.length = k := by
  unfold rd at h
  split at h
  · simp only [Option.some.injEq, Prod.mk.injEq] at h
    obtain ⟨rfl, rfl⟩ := h
    exact ⟨(List.take_append_drop k s).symm, by simp; omega⟩
  · cases h

theorem rd_append (a r : List UInt8) : rd a.length (a ++ r) = some (a, r) := by simp [rd]

theorem rd_none {k : Nat} {s : List UInt8} (h : rd k s = none) : s.length < k := by
  unfold rd at h
  split at h
  · cases h
  · omega

theorem rdv_some {k : Nat} {s x r : List UInt8} (h : rdv k s = some (x, r)) : s = en k x.length ++ x ++ r ∧ x.length < 256 ^ k := by
  unfold rdv at h
  split at h
  · rename_i a r' h'
    obtain ⟨rfl, hk⟩ := rd_some h'
    obtain ⟨rfl, hx⟩ := rd_some h
    have hl := be_lt a
    rw [hk] at hl
    rw [hx]
    refine ⟨?_, hl⟩
    rw [← hk, en_be, List.append_assoc]
  · cases h

theorem rdv_append {k : Nat} {x r : List UInt8} (h : x.length < 256 ^ k) : rdv k (en k x.length ++ x ++ r) = some (x, r) := by
  unfold rdv
  have e := rd_append (en k x.length) (x ++ r)
  rw [en_length, ← List.append_assoc] at e
  rw [e]
  simp only [be_en]
  rw [Nat.mod_eq_of_lt h]
  exact rd_append x r

end Go.Proofs.YtopcljikkdlffaaGreat
namespace Go.Proofs.YtopcljikkdlffaaGreat
open Go

section
variable {P : Program} {ops : Array Oper} {Q : Exit → Act → World → Prop} {S : World → Prop}

/-- Operation i waits for every other one, straight or over one between. -/
def lastB (ops : Array Oper) (i : Nat) : Bool := (List.range ops.size).all fun k => k == i || Region.waitsFor .any ops i k || (List.range ops.size).any fun m => Region.waitsFor .any ops i m && Region.waitsFor .any ops m k

theorem lastB_spec {i k : Nat} (h : lastB ops i = true) (hk : k < ops.size) (hki : k ≠ i) : Region.waitsFor .any ops i k = true ∨ ∃ m, Region.waitsFor .any ops i m = true ∧ Region.waitsFor .any ops m k = true := by
  unfold lastB at h
  rw [List.all_eq_true] at h
  have h1 := h k (List.mem_range.2 hk)
  simp only [Bool.or_eq_true, beq_iff_eq, hki, false_or, List.any_eq_true, Bool.and_eq_true] at h1
  rcases h1 with h1 | ⟨m, _, h1⟩
  · exact .inl h1
  · exact .inr ⟨m, h1⟩

/-- What is listed has all listed that it waited for. -/
def Shut (ops : Array Oper) (listed : Array Bool) : Prop := ∀ (m : Nat) (o : Oper), ops[m]? = some o → listed.getD m false = true → ∀ e ∈ o.after, Region.binds .any e = true → listed.getD e.on false = true

theorem Shut.set {listed : Array Bool} {j : Nat} (h : Shut ops listed) (hj : j ∈ Region.ready .any ops listed) : Shut ops (listed.setIfInBounds j true) := by
  intro m o ho hm e he hb
  obtain ⟨_, oj, hoj, hall⟩ := mem_ready.1 hj
  by_cases hjm : j = m
  · subst hjm
    rw [hoj] at ho
    cases ho
    exact getD_set_true (hall e he hb)
  · rw [getD_set_ne false hjm] at hm
    exact getD_set_true (h m o ho hm e he hb)

theorem Shut.none (n : Nat) : Shut ops (Array.replicate n false) := by
  intro m o _ hm
  rw [Array.getD_eq_getD_getElem?, Array.getElem?_replicate] at hm
  split at hm <;> simp at hm

theorem not_last {listed : Array Bool} {i j : Nat} (hsh : Shut ops listed) (hi : i ∈ Region.ready .any ops listed) (hj : j ∈ Region.ready .any ops listed) (hne : j ≠ i) : lastB ops j = false := by
  cases hl : lastB ops j with
  | false => rfl
  | true =>
    obtain ⟨h0, oi, hoi, _⟩ := mem_ready.1 hi
    obtain ⟨_, oj, hoj, hall⟩ := mem_ready.1 hj
    have bad : listed.getD i false = true → False := fun h => by
      rcases Nat.lt_or_ge i listed.size with h' | h'
      · simp [h'] at h0 h; rw [h0] at h; cases h
      · simp [Array.getElem?_eq_none h'] at h
    rcases lastB_spec hl (Array.getElem?_eq_some_iff.1 hoi).1 (fun e => hne e.symm) with h | ⟨m, h1, h2⟩
    · obtain ⟨o, ho, e, he, hb, heq⟩ := Region.waitsFor_spec h
      rw [hoj] at ho
      cases ho
      exact (bad (heq ▸ hall e he hb)).elim
    · obtain ⟨o, ho, e, he, hb, heq⟩ := Region.waitsFor_spec h1
      rw [hoj] at ho
      cases ho
      have hm : listed.getD m false = true := heq ▸ hall e he hb
      obtain ⟨o2, ho2, e2, he2, hb2, heq2⟩ := Region.waitsFor_spec h2
      exact (bad (heq2 ▸ hsh m o2 ho2 hm e2 he2 hb2)).elim

/-- Whatever order is picked from here on; S holds behind every operation but one that is the last in every order. -/
def wpAnyT (P : Program) (ops : Array Oper) (Q : Exit → Act → World → Prop) (S : World → Prop) : Nat → Array Bool → Act → World → Prop
  | 0, listed, a, w => Region.ready .any ops listed = [] ∧ Q .normal a w
  | fuel + 1, listed, a, w =>
    (Region.ready .any ops listed = [] → Q .normal a w) ∧
    ∀ i ∈ Region.ready .any ops listed, wpOp P ops Q i (fun a' w' => (lastB ops i = false → S w') ∧ wpAnyT P ops Q S fuel (listed.setIfInBounds i true) a' w') a w

theorem wpAny_of_T : ∀ (fuel : Nat) (listed : Array Bool) (a : Act) (w : World), wpAnyT P ops Q S fuel listed a w → wpAny P .any ops Q fuel listed a w
  | 0, _, _, _, h => h
  | fuel + 1, _, _, _, h => ⟨h.1, fun i hi => wpOp_mono (fun a' w' h' => wpAny_of_T fuel _ a' w' h'.2) (h.2 i hi)⟩

theorem wpAnyT_first {i : Nat} {oi : Oper} {v : Value} (hi : ops[i]? = some oi) (hsel : ∀ (j : Nat) (o : Oper) cs b, ops[j]? = some o → o.op ≠ .select cs b)
    (hQ : ∀ c a w, Q (.panic c) (a.put oi.dst v) w → Q (.panic c) a w) :
    ∀ (fuel : Nat) (listed : Array Bool) (a : Act) (w : World),
      (∀ j oj, ops[j]? = some oj → j ≠ i → listed.getD j true = false → (∀ e ∈ oj.after, Region.binds .any e = true → e.on ≠ i) → oi.apart ops oj = true) →
      Shut ops listed → i ∈ Region.ready .any ops listed → YieldsIf P ops S oi v a → S w →
      wpAnyT P ops Q S fuel (listed.setIfInBounds i true) (a.put oi.dst v) w → wpAnyT P ops Q S (fuel + 1) listed a w := by
  intro fuel
  induction fuel with
  | zero =>
    intro listed a w _ _ hr hy hS H
    refine ⟨fun h => (by rw [h] at hr; cases hr), fun j hj => ?_⟩
    by_cases hji : j = i
    · subst hji; exact hy.wpOp hi hS ⟨fun _ => hS, H⟩
    · have := ready_mono hj hji
      rw [H.1] at this
      cases this
  | succ fuel ih =>
    intro listed a w hfree hsh hr hy hS H
    refine ⟨fun h => (by rw [h] at hr; cases hr), fun j hj => ?_⟩
    by_cases hji : j = i
    · subst hji; exact hy.wpOp hi hS ⟨fun _ => hS, H⟩
    · have h1 := H.2 j (ready_mono hj hji)
      obtain ⟨hjun, oj, hoj, hall⟩ := mem_ready.1 hj
      have hnot : ∀ e ∈ oj.after, Region.binds .any e = true → e.on ≠ i := fun e he hb heq => by
        have h1 := hall e he hb
        have h0 := (mem_ready.1 hr).1
        rw [heq] at h1
        rcases Nat.lt_or_ge i listed.size with h' | h'
        · simp [h'] at h0 h1; rw [h0] at h1; cases h1
        · simp [Array.getElem?_eq_none h'] at h1
      have hlast : lastB ops j = false := not_last hsh hr hj hji
      have h2 := wpOp_putIf hoj (hfree j oj hoj hji hjun hnot) (fun cs b => hsel i oi cs b hi) (fun cs b => hsel j oj cs b hoj) hQ hy h1
      have hfree' : ∀ k ok, ops[k]? = some ok → k ≠ i → (listed.setIfInBounds j true).getD k true = false →
          (∀ e ∈ ok.after, Region.binds .any e = true → e.on ≠ i) → oi.apart ops ok = true := fun k ok hk hki hun hno => by
        refine hfree k ok hk hki ?_ hno
        by_cases hjk : j = k
        · subst hjk; exact hjun
        · rw [getD_set_ne true hjk] at hun; exact hun
      refine wpOp_mono (fun a' w' h3 => ⟨fun _ => h3.2.1 hlast, ih (listed.setIfInBounds j true) a' w' hfree' (hsh.set hj) (ready_mono hr (Ne.symm hji)) h3.1 (h3.2.1 hlast) ?_⟩) h2
      rw [Array.setIfInBounds_comm _ _ hji]
      exact h3.2.2

/-- The operations in one order that the edges allow: (i, true): number i reads or reckons; (i, false): it has an effect. -/
def wpOrd (P : Program) (ops : Array Oper) (Q : Exit → Act → World → Prop) (S : World → Prop) : List (Nat × Bool) → Act → World → Prop
  | [], a, w => Q .normal a w
  | (i, true) :: rest, a, w => ∃ o, ops[i]? = some o ∧ ∃ v, YieldsIf P ops S o v a ∧ wpOrd P ops Q S rest (a.put o.dst v) w
  | (i, false) :: rest, a, w => wpOp P ops Q i (fun a' w' => (lastB ops i = false → S w') ∧ wpOrd P ops Q S rest a' w') a w

/-- That order is allowed, what is taken first may be, and effects come up alone. -/
def okOrd (ops : Array Oper) : List (Nat × Bool) → Array Bool → Bool
  | [], listed => Region.ready .any ops listed == []
  | (i, true) :: rest, listed => (Region.ready .any ops listed).contains i && Region.free .any ops listed i && okOrd ops rest (listed.setIfInBounds i true)
  | (i, false) :: rest, listed => Region.ready .any ops listed == [i] && (!lastB ops i || rest.isEmpty) && okOrd ops rest (listed.setIfInBounds i true)

theorem wpAnyT_of_ord (hsel : Region.noSelect ops = true) (hQ : ∀ c a (d : Option Tmp) v w, Q (.panic c) (a.put d v) w → Q (.panic c) a w) :
    ∀ (l : List (Nat × Bool)) (listed : Array Bool) (a : Act) (w : World), okOrd ops l listed = true → Shut ops listed → (l ≠ [] → S w) → wpOrd P ops Q S l a w → wpAnyT P ops Q S l.length listed a w
  | [], listed, a, w, hok, _, _, h => ⟨by simpa [okOrd] using hok, h⟩
  | (i, true) :: rest, listed, a, w, hok, hsh, hS, h => by
    obtain ⟨o, ho, v, hy, h⟩ := h
    simp only [okOrd, Bool.and_eq_true] at hok
    obtain ⟨⟨h1, h2⟩, h3⟩ := hok
    have hS' := hS (by simp)
    exact wpAnyT_first ho (Region.noSelect_spec hsel) (fun c a w => hQ c a _ _ w) rest.length listed a w (Region.free_spec ho h2) hsh (by simpa using h1) hy hS'
      (wpAnyT_of_ord hsel hQ rest _ _ w h3 (hsh.set (by simpa using h1)) (fun _ => hS') h)
  | (i, false) :: rest, listed, a, w, hok, hsh, hS, h => by
    simp only [okOrd, Bool.and_eq_true, beq_iff_eq] at hok
    obtain ⟨⟨h1, h2⟩, h3⟩ := hok
    refine ⟨fun h0 => (by rw [h0] at h1; cases h1), fun j hj => ?_⟩
    rw [h1] at hj
    obtain rfl : j = i := by simpa using hj
    refine wpOp_mono (fun a' w' h' => ⟨h'.1, wpAnyT_of_ord hsel hQ rest _ a' w' h3 (hsh.set (by rw [h1]; simp)) (fun hne => h'.1 ?_) h'.2⟩) h
    cases hl : lastB ops j with
    | false => rfl
    | true =>
      rw [hl] at h2
      cases rest with
      | nil => exact (hne rfl).elim
      | cons x xs => simp at h2

/-- A region that draws its order. -/
theorem region_ord {id : Nat} {a : Act} {w : World} {l : List Oper} (ord : List (Nat × Bool)) (S : World → Prop) (hm : P.follows .mixedOrders = true) (hsel : Region.noSelect l.toArray = true)
    (hok : okOrd l.toArray ord (Array.replicate l.toArray.size false) = true) (hlen : ord.length = l.length) (hQ : ∀ c a (d : Option Tmp) v w, Q (.panic c) (a.put d v) w → Q (.panic c) a w)
    (hS : S w.drew) (h : wpOrd P l.toArray Q S ord a w.drew) : (Code.region id l.toArray true).wp P Q a w := by
  refine wp_region_any hm ?_
  have H := wpAny_of_T _ _ _ _ (wpAnyT_of_ord hsel hQ ord _ a w.drew hok (Shut.none _) (fun _ => hS) h)
  rw [hlen, ← List.size_toArray] at H
  exact H

theorem wpOrd_nil {a : Act} {w : World} (h : Q .normal a w) : wpOrd P ops Q S [] a w := h

theorem wpOrd_take {i : Nat} {o : Oper} {v : Value} {rest : List (Nat × Bool)} {a : Act} {w : World} (ho : ops[i]? = some o) (hg : o.guard = none)
    (hv : ∀ w', S w' → (execOp a.eval o).run P w' = .ok (.value v) w') (h : wpOrd P ops Q S rest (a.put o.dst v) w) : wpOrd P ops Q S ((i, true) :: rest) a w :=
  ⟨o, ho, v, .inl ⟨by simp [Region.wanted, hg], hv⟩, h⟩

theorem wpOrd_pure {i : Nat} {o : Oper} {rest : List (Nat × Bool)} {a : Act} {w : World} (ho : ops[i]? = some o) (hg : o.guard = none)
    (h : ∃ v, (∀ w', S w' → (execOp a.eval o).run P w' = .ok (.value v) w') ∧ wpOrd P ops Q S rest (a.put o.dst v) w) : wpOrd P ops Q S ((i, true) :: rest) a w := by
  obtain ⟨v, h1, h2⟩ := h
  exact wpOrd_take ho hg h1 h2

theorem wpOrd_run {i : Nat} {o : Oper} {rest : List (Nat × Bool)} {a : Act} {w : World} (ho : ops[i]? = some o) (hg : o.guard = none)
    (h : ∀ K : Act → World → Prop, (∀ a w, (lastB ops i = false → S w) → wpOrd P ops Q S rest a w → K a w) → o.wp P a w K Q) : wpOrd P ops Q S ((i, false) :: rest) a w := by
  unfold wpOrd wpOp
  simp only [ho, Region.wanted, hg, if_true]
  exact .inl (h _ fun a w hS hr => ⟨hS, hr⟩)

theorem wpOrd_last {i : Nat} {o : Oper} {rest : List (Nat × Bool)} {a : Act} {w : World} (ho : ops[i]? = some o) (hg : o.guard = none) (hl : lastB ops i = true)
    (h : ∀ K : Act → World → Prop, (∀ a w, wpOrd P ops Q S rest a w → K a w) → o.wp P a w K Q) : wpOrd P ops Q S ((i, false) :: rest) a w :=
  wpOrd_run ho hg fun K hK => h K fun a w hr => hK a w (fun hf => by rw [hl] at hf; cases hf) hr

end
end Go.Proofs.YtopcljikkdlffaaGreat
namespace Go.Proofs.YtopcljikkdlffaaGreat
open Go.RowKit

/-- The value of one byte in a cell. -/
abbrev by8 (b : UInt8) : Value := .int .u8 (b.toNat : Int)

/-- In the row of cells C of block db the slice value v (not nil) shows the bytes bs. -/
def View (C : Array Value) (db : Nat) (v : Value) (bs : List UInt8) : Prop :=
  ∃ off cap, v = .slice (some ⟨db, off, none⟩) bs.length cap ∧ bs.length ≤ cap ∧ cap ≤ maxLen ∧ ∀ i, i < bs.length → C[off + i]? = some (by8 (bs.getD i 0))

theorem View.take {C : Array Value} {db off cap : Nat} {bs : List UInt8} (n : Nat) (hn : n ≤ bs.length) (hc : bs.length ≤ cap) (hm : cap ≤ maxLen)
    (h : ∀ i, i < bs.length → C[off + i]? = some (by8 (bs.getD i 0))) : View C db (.slice (some ⟨db, off, none⟩) n cap) (bs.take n) := by
  have e : (bs.take n).length = n := by simp; omega
  refine ⟨off, cap, by rw [e], by omega, hm, fun i hi => ?_⟩
  rw [e] at hi
  rw [h i (by omega)]
  simp [hi]

theorem View.drop {C : Array Value} {db off cap : Nat} {bs : List UInt8} (n : Nat) (hn : n ≤ bs.length) (hc : bs.length ≤ cap) (hm : cap ≤ maxLen)
    (h : ∀ i, i < bs.length → C[off + i]? = some (by8 (bs.getD i 0))) : View C db (.slice (some ⟨db, off + n, none⟩) (bs.length - n) (cap - n)) (bs.drop n) := by
  have e : (bs.drop n).length = bs.length - n := by simp
  refine ⟨off + n, cap - n, by rw [e], by omega, by omega, fun i hi => ?_⟩
  rw [e] at hi
  rw [Nat.add_assoc, h (n + i) (by omega)]
  simp [List.getElem?_drop]

theorem View.dropAll {C : Array Value} {db off : Nat} {bs : List UInt8} (n : Nat) (hn : n = bs.length) : View C db (.slice (some ⟨db, off, none⟩) 0 0) (bs.drop n) := by
  subst hn
  have e : bs.drop bs.length = [] := by simp
  rw [e]
  exact ⟨off, 0, rfl, Nat.le_refl _, Nat.zero_le _, fun i hi => by simp at hi⟩

/-- A cell of another block behind a store. -/
theorem cell_past {w : World} {p : Addr} {u : Value} {db o : Nat} (h : ¬ p.block = db) : (w.setCell p u).cell? ⟨db, o, none⟩ = w.cell? ⟨db, o, none⟩ :=
  World.cell?_of_block (w := w) (Below.heap_setCell w p u db (fun e => h e.symm))

theorem cell_of_heap {w : World} {db o : Nat} {C : Array Value} {T : TypeId} {fr : Nat × Nat} (h : w.heap[db]? = some (.cells C T fr)) : w.cell? ⟨db, o, none⟩ = C[o]? := by
  simp [World.cell?, h]

theorem View.slice {C : Array Value} {db : Nat} {v : Value} {bs : List UInt8} (h : View C db v bs) : ∃ off cap, v = .slice (some ⟨db, off, none⟩) bs.length cap ∧ bs.length ≤ 9223372036854775807 := by
  obtain ⟨off, cap, rfl, hc, hm, _⟩ := h
  exact ⟨off, cap, rfl, by unfold maxLen at hm; omega⟩

theorem View.at {C : Array Value} {db off n cap : Nat} {bs : List UInt8} (h : View C db (.slice (some ⟨db, off, none⟩) n cap) bs) : n = bs.length ∧ ∀ i, i < bs.length → C[off + i]? = some (by8 (bs.getD i 0)) := by
  obtain ⟨off', cap', e, _, _, hc⟩ := h
  simp only [Value.slice.injEq, Option.some.injEq, Addr.mk.injEq, and_true, true_and] at e
  obtain ⟨rfl, rfl, rfl⟩ := e
  exact ⟨rfl, hc⟩

/-- A store of what is there turns nothing. -/
theorem setCell_self {w : World} {p : Addr} {v : Value} (h : w.cell? p = some v) : w.setCell p v = w := by
  obtain ⟨b, o, s⟩ := p
  unfold World.cell? at h
  unfold World.setCell
  cases hb : w.heap[b]? with
  | none => rw [hb] at h; simp at h
  | some ob =>
    rw [hb] at h
    cases ob with
    | cells c e fr =>
      cases s with
      | some _ => simp at h
      | none =>
        simp only [Option.isSome_none, Bool.false_eq_true, if_false] at h ⊢
        have hh : w.heap.modify b (fun
            | .cells c elem frozen => .cells (c.setIfInBounds o v) elem frozen
            | ob => ob) = w.heap := by
          apply Array.ext_getElem?
          intro i
          rw [Array.getElem?_modify]
          split
          · rename_i hi
            subst hi
            rw [hb]
            simp only [Option.map_some, Option.some.injEq, Obj.cells.injEq, and_true]
            apply Array.ext_getElem?
            intro j
            rw [Array.getElem?_setIfInBounds]
            split
            · rename_i hj
              subst hj
              rw [h]
              split
              · rfl
              · rename_i hlt
                rw [Array.getElem?_eq_none (by omega)] at h
                cases h
            · rfl
          · rfl
        exact congrArg (fun h => ({ w with heap := h } : World)) hh
    | _ => simp at h

theorem cell_same {w : World} {p : Addr} {u v : Value} (h : w.cell? p = some u) : (w.setCell p v).cell? p = some v := World.cell?_setCell_same _ _ _ h

theorem setCell_twice (w : World) (p : Addr) (a b : Value) : (w.setCell p a).setCell p b = w.setCell p b := by
  unfold World.setCell
  simp only
  congr 1
  apply Array.ext_getElem?
  intro i
  simp only [Array.getElem?_modify]
  split
  · rename_i hi
    subst hi
    cases w.heap[p.block]? with
    | none => rfl
    | some ob =>
      cases ob with
      | cells c e fr => cases p.spot <;> simp
      | _ => rfl
  · rfl

theorem or_mul (a b i m : Nat) (hm : m = 2 ^ i) (h : a < m) : (b * m) ||| a = b * m + a := by
  subst hm
  rw [← Nat.shiftLeft_eq, Nat.shiftLeft_add_eq_or_of_lt h]

/-- 'length << 8 | b' of a uint32. -/
theorem u32_step (n : Nat) (b : UInt8) (h : n < 16777216) : bits BinOp.or IntKind.u32 (((n : Int) * 256) % 4294967296) (((b.toNat : Int)) % 4294967296) = ((n * 256 + b.toNat : Nat) : Int) := by
  have hb := b.toNat_lt
  have e1 : ((n : Int) * 256) % 4294967296 = ((n * 256 : Nat) : Int) := by omega
  have e2 : ((b.toNat : Int)) % 4294967296 = ((b.toNat : Nat) : Int) := by omega
  rw [e1, e2, u32_or_nat _ _ (by omega) (by omega), or_mul _ n 8 256 (by decide) (by omega)]

theorem u16_be (b0 b1 : UInt8) : bits BinOp.or IntKind.u16 (IntKind.u16.wrap (IntKind.u16.wrap (b0.toNat : Int) * 256)) (IntKind.u16.wrap (b1.toNat : Int)) = ((be [b0, b1] : Nat) : Int) := by
  have h0 := b0.toNat_lt
  have h1 := b1.toNat_lt
  have e1 : IntKind.u16.wrap (IntKind.u16.wrap (b0.toNat : Int) * 256) = ((b0.toNat * 256 : Nat) : Int) := by simp [IntKind.wrap, IntKind.signed, IntKind.bits]; omega
  have e2 : IntKind.u16.wrap (b1.toNat : Int) = ((b1.toNat : Nat) : Int) := by simp [IntKind.wrap, IntKind.signed, IntKind.bits]; omega
  rw [e1, e2, u16_or_nat _ _ (by omega) (by omega), or_mul _ b0.toNat 8 256 (by decide) (by omega)]
  simp [be]

theorem u32_be (b0 b1 b2 b3 : UInt8) : bits BinOp.or IntKind.u32 (bits BinOp.or IntKind.u32 (bits BinOp.or IntKind.u32 (((b0.toNat : Int) % 4294967296 * 16777216) % 4294967296) (((b1.toNat : Int) % 4294967296 * 65536) % 4294967296)) (((b2.toNat : Int) % 4294967296 * 256) % 4294967296)) ((b3.toNat : Int) % 4294967296) = ((be [b0, b1, b2, b3] : Nat) : Int) := by
  have h0 := b0.toNat_lt
  have h1 := b1.toNat_lt
  have h2 := b2.toNat_lt
  have h3 := b3.toNat_lt
  have e0 : ((b0.toNat : Int) % 4294967296 * 16777216) % 4294967296 = ((b0.toNat * 16777216 : Nat) : Int) := by omega
  have e1 : ((b1.toNat : Int) % 4294967296 * 65536) % 4294967296 = ((b1.toNat * 65536 : Nat) : Int) := by omega
  have e2 : ((b2.toNat : Int) % 4294967296 * 256) % 4294967296 = ((b2.toNat * 256 : Nat) : Int) := by omega
  have e3 : (b3.toNat : Int) % 4294967296 = ((b3.toNat : Nat) : Int) := by omega
  rw [e0, e1, e2, e3, u32_or_nat _ _ (by omega) (by omega), or_mul _ b0.toNat 24 16777216 (by decide) (by omega)]
  rw [show b0.toNat * 16777216 + b1.toNat * 65536 = (b0.toNat * 256 + b1.toNat) * 65536 by omega, u32_or_nat _ _ (by omega) (by omega), or_mul _ _ 16 65536 (by decide) (by omega)]
  rw [show (b0.toNat * 256 + b1.toNat) * 65536 + b2.toNat * 256 = ((b0.toNat * 256 + b1.toNat) * 256 + b2.toNat) * 256 by omega, u32_or_nat _ _ (by omega) (by omega), or_mul _ _ 8 256 (by decide) (by omega)]
  simp [be]

theorem mixed : Tryz.prog.follows .mixedOrders = true := by kernel_rfl

/-- A region that draws its order, n operations that only read ahead of its tail, in the walk's own spelling of the world. -/
theorem region_tail {id : Nat} {Q : Exit → Act → World → Prop} {a : Act} {w : World} {l : List Oper} (n : Nat) (hB : Region.lexTailB .any l.toArray n = true)
    (h : wpStill Tryz.prog l.toArray w.drew (fun a' => wpList Tryz.prog l.toArray Q (l.drop n) a' w.drew) (l.take n) a) : (Code.region id l.toArray true).wp Tryz.prog Q a w :=
  wp_region_still_tail n mixed hB h

@[go_sem] theorem eqNilBytes (w : World) (a : Option Addr) (n c : Nat) : (binOp .eql 22 (.slice a n c) (.slice none 0 0)).run Tryz.prog w = .ok (.bool a.isNone) w :=
  Lib.run_eql_slice_nil w _ _ a n c 0 0 Tryz.underlying22
@[go_sem] theorem neNilBytes (w : World) (a : Option Addr) (n c : Nat) : (binOp .neq 22 (.slice a n c) (.slice none 0 0)).run Tryz.prog w = .ok (.bool (!a.isNone)) w :=
  run_neq_slice_nil_any w _ _ a n c 0 0 Tryz.underlying22

end Go.Proofs.YtopcljikkdlffaaGreat
