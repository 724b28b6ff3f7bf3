/- Words on bytes in memory that the contracts below share: no statement of the seat is proved here. -/
import Derived.Test.YtopcljikkdlffaaRows
import Derived.Test.YtopcljikkdlffaaPA
import Derived.Test.YtopcljikkdlffaaOrd
import Derived.WalkKit
import Derived.WalkLawsBesides
import Derived.WalkSpells
import Derived.ProofKit
import Derived.OpenShut
import Derived.BigQuiet
import Derived.Deep.QuietTactic
import Derived.StillTailTactics
import Derived.RegionTactic
import Derived.Deep.RegionWith
import Derived.Lib.Hide
import Derived.Laws.BitsAllLaws
import Derived.Laws.AppendOwnNone
import Derived.Deep.RegionHeld3
import Derived.Deep.AppendLies
import Derived.Laws.CopyOwn
import Derived.Laws.EntriesVeiled
namespace Go.Proofs.Ytopcljikkdlffaa
open Go.RowKit

/-- The value of one byte in a cell. -/
abbrev by8 (b : UInt8) : Value := .int .u8 (b.toNat : Int)

/-- In the row of cells C of block db the slice value v (not nil) shows the bytes bs. -/
def View (C : Array Value) (db : Nat) (v : Value) (bs : List UInt8) : Prop :=
  ∃ off cap, v = .slice (some ⟨db, off, none⟩) bs.length cap ∧ bs.length ≤ cap ∧ cap ≤ maxLen ∧ ∀ i, i < bs.length → C[off + i]? = some (by8 (bs.getD i 0))

theorem View.take {C : Array Value} {db off cap : Nat} {bs : List UInt8} (n : Nat) (hn : n ≤ bs.length) (hc : bs.length ≤ cap) (hm : cap ≤ maxLen)
    (h : ∀ i, i < bs.length → C[off + i]? = some (by8 (bs.getD i 0))) : View C db (.slice (some ⟨db, off, none⟩) n cap) (bs.take n) := by
  have e : (bs.take n).length = n := by simp; omega
  refine ⟨off, cap, by rw [e], by omega, hm, fun i hi => ?_⟩
  rw [e] at hi
  rw [h i (by omega)]
  simp [hi]

theorem View.drop {C : Array Value} {db off cap : Nat} {bs : List UInt8} (n : Nat) (hn : n ≤ bs.length) (hc : bs.length ≤ cap) (hm : cap ≤ maxLen)
    (h : ∀ i, i < bs.length → C[off + i]? = some (by8 (bs.getD i 0))) : View C db (.slice (some ⟨db, off + n, none⟩) (bs.length - n) (cap - n)) (bs.drop n) := by
  have e : (bs.drop n).length = bs.length - n := by simp
  refine ⟨off + n, cap - n, by rw [e], by omega, by omega, fun i hi => ?_⟩
  rw [e] at hi
  rw [Nat.add_assoc, h (n + i) (by omega)]
  simp [List.getElem?_drop]

theorem View.dropAll {C : Array Value} {db off : Nat} {bs : List UInt8} (n : Nat) (hn : n = bs.length) : View C db (.slice (some ⟨db, off, none⟩) 0 0) (bs.drop n) := by
  subst hn
  have e : bs.drop bs.length = [] := by simp
  rw [e]
  exact ⟨off, 0, rfl, Nat.le_refl _, Nat.zero_le _, fun i hi => by simp at hi⟩


/-- A cell of another block behind a store. -/
theorem cell_past {w : World} {p : Addr} {u : Value} {db o : Nat} (h : ¬ p.block = db) : (w.setCell p u).cell? ⟨db, o, none⟩ = w.cell? ⟨db, o, none⟩ :=
  World.cell?_of_block (w := w) (Below.heap_setCell w p u db (fun e => h e.symm))

theorem cell_of_heap {w : World} {db o : Nat} {C : Array Value} {T : TypeId} {fr : Nat × Nat} (h : w.heap[db]? = some (.cells C T fr)) : w.cell? ⟨db, o, none⟩ = C[o]? := by
  simp [World.cell?, h]

theorem View.slice {C : Array Value} {db : Nat} {v : Value} {bs : List UInt8} (h : View C db v bs) : ∃ off cap, v = .slice (some ⟨db, off, none⟩) bs.length cap ∧ bs.length ≤ 9223372036854775807 := by
  obtain ⟨off, cap, rfl, hc, hm, _⟩ := h
  exact ⟨off, cap, rfl, by unfold maxLen at hm; omega⟩

theorem View.at {C : Array Value} {db off n cap : Nat} {bs : List UInt8} (h : View C db (.slice (some ⟨db, off, none⟩) n cap) bs) : n = bs.length ∧ ∀ i, i < bs.length → C[off + i]? = some (by8 (bs.getD i 0)) := by
  obtain ⟨off', cap', e, _, _, hc⟩ := h
  simp only [Value.slice.injEq, Option.some.injEq, Addr.mk.injEq, and_true, true_and] at e
  obtain ⟨rfl, rfl, rfl⟩ := e
  exact ⟨rfl, hc⟩

/-- A store of what is there turns nothing. -/
theorem setCell_self {w : World} {p : Addr} {v : Value} (h : w.cell? p = some v) : w.setCell p v = w := by
  obtain ⟨b, o, s⟩ := p
  unfold World.cell? at h
  unfold World.setCell
  cases hb : w.heap[b]? with
  | none => rw [hb] at h; simp at h
  | some ob =>
    rw [hb] at h
    cases ob with
    | cells c e fr =>
      cases s with
      | some _ => simp at h
      | none =>
        simp only [Option.isSome_none, Bool.false_eq_true, if_false] at h ⊢
        have hh : w.heap.modify b (fun
            | .cells c elem frozen => .cells (c.setIfInBounds o v) elem frozen
            | ob => ob) = w.heap := by
          apply Array.ext_getElem?
          intro i
          rw [Array.getElem?_modify]
          split
          · rename_i hi
            subst hi
            rw [hb]
            simp only [Option.map_some, Option.some.injEq, Obj.cells.injEq, and_true]
            apply Array.ext_getElem?
            intro j
            rw [Array.getElem?_setIfInBounds]
            split
            · rename_i hj
              subst hj
              rw [h]
              split
              · rfl
              · rename_i hlt
                rw [Array.getElem?_eq_none (by omega)] at h
                cases h
            · rfl
          · rfl
        exact congrArg (fun h => ({ w with heap := h } : World)) hh
    | _ => simp at h

theorem cell_same {w : World} {p : Addr} {u v : Value} (h : w.cell? p = some u) : (w.setCell p v).cell? p = some v := World.cell?_setCell_same _ _ _ h

theorem setCell_twice (w : World) (p : Addr) (a b : Value) : (w.setCell p a).setCell p b = w.setCell p b := by
  unfold World.setCell
  simp only
  congr 1
  apply Array.ext_getElem?
  intro i
  simp only [Array.getElem?_modify]
  split
  · rename_i hi
    subst hi
    cases w.heap[p.block]? with
    | none => rfl
    | some ob =>
      cases ob with
      | cells c e fr => cases p.spot <;> simp
      | _ => rfl
  · rfl

theorem or_mul (a b i m : Nat) (hm : m = 2 ^ i) (h : a < m) : (b * m) ||| a = b * m + a := by
  subst hm
  rw [← Nat.shiftLeft_eq, Nat.shiftLeft_add_eq_or_of_lt h]

/-- 'length << 8 | b' of a uint32. -/
theorem u32_step (n : Nat) (b : UInt8) (h : n < 16777216) : bits BinOp.or IntKind.u32 (((n : Int) * 256) % 4294967296) (((b.toNat : Int)) % 4294967296) = ((n * 256 + b.toNat : Nat) : Int) := by
  have hb := b.toNat_lt
  have e1 : ((n : Int) * 256) % 4294967296 = ((n * 256 : Nat) : Int) := by omega
  have e2 : ((b.toNat : Int)) % 4294967296 = ((b.toNat : Nat) : Int) := by omega
  rw [e1, e2, u32_or_nat _ _ (by omega) (by omega), or_mul _ n 8 256 (by decide) (by omega)]

theorem u16_be (b0 b1 : UInt8) : bits BinOp.or IntKind.u16 (IntKind.u16.wrap (IntKind.u16.wrap (b0.toNat : Int) * 256)) (IntKind.u16.wrap (b1.toNat : Int)) = ((be [b0, b1] : Nat) : Int) := by
  have h0 := b0.toNat_lt
  have h1 := b1.toNat_lt
  have e1 : IntKind.u16.wrap (IntKind.u16.wrap (b0.toNat : Int) * 256) = ((b0.toNat * 256 : Nat) : Int) := by simp [IntKind.wrap, IntKind.signed, IntKind.bits]; omega
  have e2 : IntKind.u16.wrap (b1.toNat : Int) = ((b1.toNat : Nat) : Int) := by simp [IntKind.wrap, IntKind.signed, IntKind.bits]; omega
  rw [e1, e2, u16_or_nat _ _ (by omega) (by omega), or_mul _ b0.toNat 8 256 (by decide) (by omega)]
  simp [be]

theorem u32_be (b0 b1 b2 b3 : UInt8) : bits BinOp.or IntKind.u32 (bits BinOp.or IntKind.u32 (bits BinOp.or IntKind.u32 (((b0.toNat : Int) % 4294967296 * 16777216) % 4294967296) (((b1.toNat : Int) % 4294967296 * 65536) % 4294967296)) (((b2.toNat : Int) % 4294967296 * 256) % 4294967296)) ((b3.toNat : Int) % 4294967296) = ((be [b0, b1, b2, b3] : Nat) : Int) := by
  have h0 := b0.toNat_lt
  have h1 := b1.toNat_lt
  have h2 := b2.toNat_lt
  have h3 := b3.toNat_lt
  have e0 : ((b0.toNat : Int) % 4294967296 * 16777216) % 4294967296 = ((b0.toNat * 16777216 : Nat) : Int) := by omega
  have e1 : ((b1.toNat : Int) % 4294967296 * 65536) % 4294967296 = ((b1.toNat * 65536 : Nat) : Int) := by omega
  have e2 : ((b2.toNat : Int) % 4294967296 * 256) % 4294967296 = ((b2.toNat * 256 : Nat) : Int) := by omega
  have e3 : (b3.toNat : Int) % 4294967296 = ((b3.toNat : Nat) : Int) := by omega
  rw [e0, e1, e2, e3, u32_or_nat _ _ (by omega) (by omega), or_mul _ b0.toNat 24 16777216 (by decide) (by omega)]
  rw [show b0.toNat * 16777216 + b1.toNat * 65536 = (b0.toNat * 256 + b1.toNat) * 65536 by omega, u32_or_nat _ _ (by omega) (by omega), or_mul _ _ 16 65536 (by decide) (by omega)]
  rw [show (b0.toNat * 256 + b1.toNat) * 65536 + b2.toNat * 256 = ((b0.toNat * 256 + b1.toNat) * 256 + b2.toNat) * 256 by omega, u32_or_nat _ _ (by omega) (by omega), or_mul _ _ 8 256 (by decide) (by omega)]
  simp [be]

theorem mixed : Try.prog.follows .mixedOrders = true := by kernel_rfl

/-- A region that draws its order, n operations that only read ahead of its tail, in the walk's own spelling of the world. -/
theorem region_tail {id : Nat} {Q : Exit → Act → World → Prop} {a : Act} {w : World} {l : List Oper} (n : Nat) (hB : Region.lexTailB .any l.toArray n = true)
    (h : wpStill Try.prog l.toArray w.drew (fun a' => wpList Try.prog l.toArray Q (l.drop n) a' w.drew) (l.take n) a) : (Code.region id l.toArray true).wp Try.prog Q a w :=
  wp_region_still_tail n mixed hB h

@[go_sem] theorem eqNilBytes (w : World) (a : Option Addr) (n c : Nat) : (binOp .eql 22 (.slice a n c) (.slice none 0 0)).run Try.prog w = .ok (.bool a.isNone) w :=
  Lib.run_eql_slice_nil w _ _ a n c 0 0 Try.underlying22
@[go_sem] theorem neNilBytes (w : World) (a : Option Addr) (n c : Nat) : (binOp .neq 22 (.slice a n c) (.slice none 0 0)).run Try.prog w = .ok (.bool (!a.isNone)) w :=
  run_neq_slice_nil_any w _ _ a n c 0 0 Try.underlying22

end Go.Proofs.Ytopcljikkdlffaa
