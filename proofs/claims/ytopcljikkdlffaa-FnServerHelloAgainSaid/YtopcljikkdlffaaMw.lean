/- A struct in memory that is made into bytes: what its cells show, and builders without error. No statement of the seat is proved here. -/
import Derived.Test.YtopcljikkdlffaaGk
namespace Go.Proofs.Ytopcljikkdlffaa
open Go.RowKit

/-- What a cell of a struct that is made shows. -/
inductive SD
  | any
  | val (v : Value)
  | src (l : List UInt8)
  | lst (L : List (List UInt8))

def SRel (w : World) (base : Nat) : SD → Value → Prop
  | .any, _ => True
  | .val u, v => v = u
  | .src l, v => SrcB w base v l
  | .lst L, v => SrcL w base v L

theorem SRel.ks {w w' : World} {base q : Nat} {sd : SD} {v : Value} (h : SRel w base sd v) (hk : Ks base q w w') (hq : base ≤ q) : SRel w' base sd v := by
  cases sd with
  | any => exact h
  | val u => exact h
  | src l => exact SrcB.ks h hk hq
  | lst L => exact SrcL.ks h hk hq

/-- Variable x holds the struct's address m. -/
structure MsgS (w : World) (base x m : Nat) (F : List SD) : Prop where
  hx : ∃ T, (T ≠ 5 ∧ T ≠ 169) ∧ T ≠ 4 ∧ w.heap[x]? = some (.cells #[.pointer (some ⟨m, 0, none⟩)] T (0, 0))
  hm : ∃ D T, (T ≠ 5 ∧ T ≠ 169) ∧ T ≠ 4 ∧ w.heap[m]? = some (.cells D T (0, 0)) ∧ ∀ (i : Nat) (sd : SD), F[i]? = some sd → ∃ v, D[i]? = some v ∧ SRel w base sd v

section
variable {w w' : World} {base x m q c : Nat} {F : List SD}

theorem MsgS.ks (h : MsgS w base x m F) (hk : Ks base q w w') (hq : base ≤ q) (hxq : x ≠ q) (hmq : m ≠ q) : MsgS w' base x m F := by
  obtain ⟨T, hT, hTb, hx⟩ := h.hx
  obtain ⟨D, T2, hT2, hT2b, hm, hr⟩ := h.hm
  refine ⟨⟨T, hT, hTb, hk.other hx hT hxq⟩, D, T2, hT2, hT2b, hk.other hm hT2 hmq, fun i sd hi => ?_⟩
  obtain ⟨v, hv, hs⟩ := hr i sd hi
  exact ⟨v, hv, hs.ks hk hq⟩

theorem MsgS.cell (h : MsgS w base x m F) : w.cell? ⟨x, 0, none⟩ = some (.pointer (some ⟨m, 0, none⟩)) := by
  obtain ⟨T, _, _, hx⟩ := h.hx
  exact cell_head hx

theorem MsgS.at (h : MsgS w base x m F) {i : Nat} {sd : SD} (hi : F[i]? = some sd) : ∃ v, w.cell? ⟨m, i, none⟩ = some v ∧ SRel w base sd v := by
  obtain ⟨D, T2, _, _, hm, hr⟩ := h.hm
  obtain ⟨v, hv, hs⟩ := hr i sd hi
  exact ⟨v, by rw [cell_of_heap hm]; exact hv, hs⟩

theorem MsgS.val (h : MsgS w base x m F) {i : Nat} {v : Value} (hi : F[i]? = some (.val v)) : w.cell? ⟨m, i, none⟩ = some v := by
  obtain ⟨u, hu, e⟩ := h.at hi
  rw [hu]; exact congrArg some e

theorem MsgS.src (h : MsgS w base x m F) {i : Nat} {l : List UInt8} (hi : F[i]? = some (.src l)) : ∃ v, w.cell? ⟨m, i, none⟩ = some v ∧ SrcB w base v l := h.at hi

theorem MsgS.lst (h : MsgS w base x m F) {i : Nat} {L : List (List UInt8)} (hi : F[i]? = some (.lst L)) : ∃ v, w.cell? ⟨m, i, none⟩ = some v ∧ SrcL w base v L := h.at hi

theorem MsgS.ne_flag {b : Bool} (h : MsgS w base x m F) (hq : Flag w q b) : x ≠ q ∧ m ≠ q := by
  obtain ⟨T, _, hTb, hx⟩ := h.hx
  obtain ⟨D, T2, _, hT2b, hm, _⟩ := h.hm
  constructor
  · rintro rfl
    unfold Flag at hq
    rw [hq] at hx
    simp only [Option.some.injEq, Obj.cells.injEq] at hx
    exact hTb hx.2.1.symm
  · rintro rfl
    unfold Flag at hq
    rw [hq] at hm
    simp only [Option.some.injEq, Obj.cells.injEq] at hm
    exact hT2b hm.2.1.symm

theorem MsgS.lt (h : MsgS w base x m F) : x < w.heap.size ∧ m < w.heap.size := by
  obtain ⟨T, _, _, hx⟩ := h.hx
  obtain ⟨D, T2, _, _, hm, _⟩ := h.hm
  exact ⟨lt_of_heap hx, lt_of_heap hm⟩

theorem MsgS.fr (h : MsgS w base x m F) (hf : Fr base c w w') (hc : w.heap.size ≤ c ∨ IsBld w c) : MsgS w' base x m F :=
  h.ks (q := base + x + m + 1) (Ks.of_fr hf hc) (by omega) (by omega) (by omega)

theorem MsgS.alloc (h : MsgS w base x m F) (o : Obj) : MsgS (w.alloc o) base x m F :=
  h.ks (q := base + x + m + 1) ((Ks.refl _ _ _).alloc o) (by omega) (by omega) (by omega)

/-- A builder of its own, without error: its bytes. -/
def BS (w : World) (base c : Nat) (bs : List UInt8) : Prop :=
  ∃ ic, BAt w base c 0 0 ic bs ∧ (ic = .pointer none ∨ ∃ q, ic = .pointer (some ⟨q, 0, none⟩) ∧ Flag w q false ∧ base ≤ q)

theorem BS.isBld {bs : List UInt8} (h : BS w base c bs) : IsBld w c := by
  obtain ⟨ic, hB, rfl | ⟨q, rfl, _⟩⟩ := h
  · exact hB.isBld
  · exact hB.isBld

theorem BS.size {bs : List UInt8} (h : BS w base c bs) : base ≤ w.heap.size := by
  obtain ⟨ic, ⟨_, _, _, h⟩, _⟩ := h
  exact h

theorem BS.alloc {bs : List UInt8} (h : BS w base c bs) (o : Obj) : BS (w.alloc o) base c bs := by
  obtain ⟨ic, hB, h⟩ := h
  exact ⟨ic, hB.alloc o, h.imp id fun ⟨q, e, hf, hq⟩ => ⟨q, e, heap_push hf, hq⟩⟩

theorem BS.new (w : World) {base : Nat} (hb : base ≤ w.heap.size) : BS (w.alloc (.cells (bcells .nilIface (.slice none 0 0) (.pointer none) 0 0 (.pointer none)) 169)) base w.heap.size [] :=
  ⟨_, bat_new w hb, .inl rfl⟩

theorem bs_add16 {bs : List UInt8} (n : Int) (w : World) (h0 : 0 ≤ n) (h1 : n < 65536) (hB : BS w base c bs) (hl : bs.length + 2 ≤ 70368744177664) :
    Calls Try.prog 113 #[.pointer (some ⟨c, 0, none⟩), .int .u16 n] w fun e w' => e = .returned (.tuple #[]) ∧ BS w' base c (bs ++ en 2 n.toNat) ∧ Fr base c w w' := by
  obtain ⟨ic, hB, h⟩ := hB
  refine (add16_ok n w h0 h1 hB hl).mono ?_
  rintro e w1 ⟨rfl, hb, hf⟩
  exact ⟨rfl, ⟨ic, hb, h.imp id fun ⟨q, e, hfl, hq⟩ => ⟨q, e, hf.flag hfl (hB.ne_flag hfl), hq⟩⟩, hf⟩

theorem bs_add8 {bs : List UInt8} (n : Int) (w : World) (h0 : 0 ≤ n) (h1 : n < 256) (hB : BS w base c bs) (hl : bs.length + 1 ≤ 70368744177664) :
    Calls Try.prog 105 #[.pointer (some ⟨c, 0, none⟩), .int .u8 n] w fun e w' => e = .returned (.tuple #[]) ∧ BS w' base c (bs ++ en 1 n.toNat) ∧ Fr base c w w' := by
  obtain ⟨ic, hB, h⟩ := hB
  refine (add8_ok n w h0 h1 hB hl).mono ?_
  rintro e w1 ⟨rfl, hb, hf⟩
  exact ⟨rfl, ⟨ic, hb, h.imp id fun ⟨q, e, hfl, hq⟩ => ⟨q, e, hf.flag hfl (hB.ne_flag hfl), hq⟩⟩, hf⟩

theorem bs_lp2 {k : Nat} {caps : Array Value} {bs out : List UInt8} (w : World) (hout : out.length < 65536) (hB : BS w base c bs) (hl : bs.length + 2 + out.length ≤ 70368744177664)
    (henter : ∀ (args : Array Value) (w : World), (callFunc k args).run Try.prog w = .ok (.enter k args) w) (hem : ∀ q, base ≤ q → (Flag w q false ∨ w.heap.size ≤ q) → Emits base q k caps out w) :
    Calls Try.prog 114 #[.pointer (some ⟨c, 0, none⟩), .func (.func k) #[] caps] w fun e w' => e = .returned (.tuple #[]) ∧ BS w' base c (bs ++ en 2 out.length ++ out) ∧ Fr base c w w' := by
  have hsz := hB.size
  obtain ⟨ic, hB, rfl | ⟨q, rfl, hfl, hq⟩⟩ := hB
  · refine (lp2_new w hout hB hl henter (fun q hq => hem q (by omega) (.inr hq))).mono ?_
    rintro e w1 ⟨q, rfl, hb, hfl, hq, hf⟩
    exact ⟨rfl, ⟨_, hb, .inr ⟨q, rfl, hfl, by omega⟩⟩, hf⟩
  · refine (lp2_flag w hout hB hfl hl henter (hem q hq (.inl hfl))).mono ?_
    rintro e w1 ⟨rfl, hb, hf⟩
    exact ⟨rfl, ⟨_, hb, .inr ⟨q, rfl, hf.flag hfl (hB.ne_flag hfl), hq⟩⟩, hf⟩

theorem bs_lp3 {k : Nat} {caps : Array Value} {bs out : List UInt8} (w : World) (hout : out.length < 16777216) (hB : BS w base c bs) (hl : bs.length + 3 + out.length ≤ 70368744177664)
    (henter : ∀ (args : Array Value) (w : World), (callFunc k args).run Try.prog w = .ok (.enter k args) w) (hem : ∀ q, base ≤ q → (Flag w q false ∨ w.heap.size ≤ q) → Emits base q k caps out w) :
    Calls Try.prog 106 #[.pointer (some ⟨c, 0, none⟩), .func (.func k) #[] caps] w fun e w' => e = .returned (.tuple #[]) ∧ BS w' base c (bs ++ en 3 out.length ++ out) ∧ Fr base c w w' := by
  have hsz := hB.size
  obtain ⟨ic, hB, rfl | ⟨q, rfl, hfl, hq⟩⟩ := hB
  · refine (lp3_new w hout hB hl henter (fun q hq => hem q (by omega) (.inr hq))).mono ?_
    rintro e w1 ⟨q, rfl, hb, hfl, hq, hf⟩
    exact ⟨rfl, ⟨_, hb, .inr ⟨q, rfl, hfl, by omega⟩⟩, hf⟩
  · refine (lp3_flag w hout hB hfl hl henter (hem q hq (.inl hfl))).mono ?_
    rintro e w1 ⟨rfl, hb, hf⟩
    exact ⟨rfl, ⟨_, hb, .inr ⟨q, rfl, hf.flag hfl (hB.ne_flag hfl), hq⟩⟩, hf⟩

theorem bs_bytes {bs : List UInt8} (w : World) (hB : BS w base c bs) :
    Calls Try.prog 109 #[.pointer (some ⟨c, 0, none⟩)] w fun e w' => ∃ v, e = .returned (.tuple #[v, .nilIface]) ∧ w'.ownsRow base 5 1 v bs.length (bs.map by8) ∧ w' = w.drew := by
  obtain ⟨ic, hB, _⟩ := hB
  exact bytes_ok w hB

/-- The struct's continuations, whatever the flag. -/
theorem MsgS.ne_any (h : MsgS w base x m F) {q : Nat} (hq : Flag w q false ∨ w.heap.size ≤ q) : x ≠ q ∧ m ≠ q := by
  rcases hq with hq | hq
  · exact h.ne_flag hq
  · have := h.lt; omega

end

/-- The conditionals of a piece of code, one behind the other. -/
def conds : Code → List Code
  | .cond t a b => [.cond t a b]
  | .seq a b => conds a ++ conds b
  | _ => []

end Go.Proofs.Ytopcljikkdlffaa
