/- A clientHelloMsg in memory that is made into bytes: what its cells show. A ServerHello is made by package tls: its continuations. No statement of the seat is proved here. -/
import Derived.Test.YtopcljikkdlffaaGreatX08
import Derived.Test.YtopcljikkdlffaaGreatX11
import Derived.Test.YtopcljikkdlffaaGreatX09
import Derived.Test.YtopcljikkdlffaaGreatX07
import Derived.Laws.IdiomStrings
namespace Go.Proofs.YtopcljikkdlffaaGreat
open Go.RowKit

/-- Key shares in a row, below base. -/
def ShrS (w : World) (base : Nat) (v : Value) (L : List (Nat × List UInt8)) : Prop :=
  (v = .slice none 0 0 ∧ L = []) ∨ ∃ h cap cur, v = .slice (some ⟨h, 0, none⟩) L.length cap ∧ h < base ∧ w.heap[h]? = some (.cells cur 56 (0, 0)) ∧ ∀ (j : Nat) (x : Nat × List UInt8), L[j]? = some x → cur[2 * j]? = some (.int .u16 (x.1 : Nat)) ∧ ∃ u, cur[2 * j + 1]? = some u ∧ SrcB w base u x.2

/-- Identities of pre-shared keys in a row, below base. -/
def PskS (w : World) (base : Nat) (v : Value) (L : List (List UInt8 × Nat)) : Prop :=
  (v = .slice none 0 0 ∧ L = []) ∨ ∃ h cap cur, v = .slice (some ⟨h, 0, none⟩) L.length cap ∧ h < base ∧ w.heap[h]? = some (.cells cur 59 (0, 0)) ∧ ∀ (j : Nat) (x : List UInt8 × Nat), L[j]? = some x → (∃ u, cur[2 * j]? = some u ∧ SrcB w base u x.1) ∧ cur[2 * j + 1]? = some (.int .u32 (x.2 : Nat))

/-- What a cell of a clientHelloMsg that is made shows. -/
inductive CD
  | any
  | val (v : Value)
  | src (l : List UInt8)
  | num (L : List Nat)
  | txt (L : List (List UInt8))
  | lst (L : List (List UInt8))
  | shr (L : List (Nat × List UInt8))
  | psk (L : List (List UInt8 × Nat))
  | qc (q : Option (List UInt8))

def CRel (w : World) (base : Nat) : CD → Value → Prop
  | .any, _ => True
  | .val u, v => v = u
  | .src l, v => SrcB w base v l
  | .num L, v => RowS w base 23 v (L.map fun n => Value.int .u16 (n : Nat))
  | .txt L, v => RowS w base 9 v (L.map fun s => Value.string ⟨s.toArray⟩)
  | .lst L, v => SrcL w base v L
  | .shr L, v => ShrS w base v L
  | .psk L, v => PskS w base v L
  | .qc q, v => SrcB w base v (q.getD []) ∧ ∃ a n c, v = .slice a n c ∧ a.isSome = q.isSome

section
variable {w w' : World} {base base' x m q c : Nat} {F : List CD}

theorem RowS.ks {e : TypeId} {v : Value} {us : List Value} (h : RowS w base e v us) (he : e ≠ 5 ∧ e ≠ 96) (hk : Ks base q w w') (hq : base ≤ q) : RowS w' base e v us := by
  rcases h with h | ⟨p, cap, cur, ev, hlt, hh, hc⟩
  · exact .inl h
  · exact .inr ⟨p, cap, cur, ev, hlt, hk.other hh he (by omega), hc⟩

theorem CRel.ks {cd : CD} {v : Value} (h : CRel w base cd v) (hk : Ks base q w w') (hq : base ≤ q) : CRel w' base cd v := by
  cases cd with
  | any => exact h
  | val u => exact h
  | src l => exact SrcB.ks h hk hq
  | num L => exact RowS.ks h (by decide) hk hq
  | txt L => exact RowS.ks h (by decide) hk hq
  | lst L => exact SrcL.ks h hk hq
  | shr L =>
    rcases h with h | ⟨p, cap, cur, e, hlt, hh, hc⟩
    · exact .inl h
    · refine .inr ⟨p, cap, cur, e, hlt, hk.other hh (by decide) (by omega), fun j x hj => ?_⟩
      obtain ⟨h1, u, hu, hs⟩ := hc j x hj
      exact ⟨h1, u, hu, hs.ks hk hq⟩
  | psk L =>
    rcases h with h | ⟨p, cap, cur, e, hlt, hh, hc⟩
    · exact .inl h
    · refine .inr ⟨p, cap, cur, e, hlt, hk.other hh (by decide) (by omega), fun j x hj => ?_⟩
      obtain ⟨⟨u, hu, hs⟩, h1⟩ := hc j x hj
      exact ⟨⟨u, hu, hs.ks hk hq⟩, h1⟩
  | qc q => exact ⟨SrcB.ks h.1 hk hq, h.2⟩

theorem CRel.keep {cd : CD} {v : Value} (h : CRel w base cd v) (hb : base ≤ base') (hk : ∀ k, k < base → w'.heap[k]? = w.heap[k]?) : CRel w' base' cd v := by
  cases cd with
  | any => exact h
  | val u => exact h
  | src l => exact SrcB.keep h hb hk
  | num L => exact RowS.keep h hb hk
  | txt L => exact RowS.keep h hb hk
  | lst L => exact SrcL.keep h hb hk
  | shr L =>
    rcases h with h | ⟨p, cap, cur, e, hlt, hh, hc⟩
    · exact .inl h
    · refine .inr ⟨p, cap, cur, e, by omega, (hk p hlt).trans hh, fun j x hj => ?_⟩
      obtain ⟨h1, u, hu, hs⟩ := hc j x hj
      exact ⟨h1, u, hu, hs.keep hb hk⟩
  | psk L =>
    rcases h with h | ⟨p, cap, cur, e, hlt, hh, hc⟩
    · exact .inl h
    · refine .inr ⟨p, cap, cur, e, by omega, (hk p hlt).trans hh, fun j x hj => ?_⟩
      obtain ⟨⟨u, hu, hs⟩, h1⟩ := hc j x hj
      exact ⟨⟨u, hu, hs.keep hb hk⟩, h1⟩
  | qc q => exact ⟨SrcB.keep h.1 hb hk, h.2⟩

/-- Variable x holds the message's address m; both lie below base. -/
structure MsgC (w : World) (base x m : Nat) (F : List CD) : Prop where
  hx : w.heap[x]? = some (.cells #[.pointer (some ⟨m, 0, none⟩)] 50 (0, 0))
  xb : x < base
  mb : m < base
  hm : ∃ D, w.heap[m]? = some (.cells D 54 (0, 0)) ∧ ∀ (i : Nat) (cd : CD), F[i]? = some cd → ∃ v, D[i]? = some v ∧ CRel w base cd v

theorem MsgC.ks (h : MsgC w base x m F) (hk : Ks base q w w') (hq : base ≤ q) : MsgC w' base x m F := by
  have h1 := h.xb
  have h2 := h.mb
  obtain ⟨D, hm, hr⟩ := h.hm
  refine ⟨hk.other h.hx (by decide) (by omega), h1, h2, D, hk.other hm (by decide) (by omega), fun i cd hi => ?_⟩
  obtain ⟨v, hv, hs⟩ := hr i cd hi
  exact ⟨v, hv, hs.ks hk hq⟩

theorem MsgC.keep (h : MsgC w base x m F) (hb : base ≤ base') (hk : ∀ k, k < base → w'.heap[k]? = w.heap[k]?) : MsgC w' base' x m F := by
  have h1 := h.xb
  have h2 := h.mb
  obtain ⟨D, hm, hr⟩ := h.hm
  refine ⟨(hk x h1).trans h.hx, by omega, by omega, D, (hk m h2).trans hm, fun i cd hi => ?_⟩
  obtain ⟨v, hv, hs⟩ := hr i cd hi
  exact ⟨v, hv, hs.keep hb hk⟩

theorem MsgC.cell (h : MsgC w base x m F) : w.cell? ⟨x, 0, none⟩ = some (.pointer (some ⟨m, 0, none⟩)) := cell_head h.hx

theorem MsgC.at (h : MsgC w base x m F) {i : Nat} {cd : CD} (hi : F[i]? = some cd) : ∃ v, w.cell? ⟨m, i, none⟩ = some v ∧ CRel w base cd v := by
  obtain ⟨D, hm, hr⟩ := h.hm
  obtain ⟨v, hv, hs⟩ := hr i cd hi
  exact ⟨v, by rw [cell_of_heap hm]; exact hv, hs⟩

theorem MsgC.val (h : MsgC w base x m F) {i : Nat} {v : Value} (hi : F[i]? = some (.val v)) : w.cell? ⟨m, i, none⟩ = some v := by
  obtain ⟨u, hu, e⟩ := h.at hi
  rw [hu]; exact congrArg some e

theorem MsgC.fr (h : MsgC w base x m F) (hf : Fr base c w w') (hc : w.heap.size ≤ c ∨ IsBld w c) : MsgC w' base x m F :=
  h.ks (q := base) (Ks.of_fr hf hc) (Nat.le_refl _)

theorem MsgC.alloc (h : MsgC w base x m F) (o : Obj) : MsgC (w.alloc o) base x m F := h.ks (q := base) ((Ks.refl _ _ _).alloc o) (Nat.le_refl _)

end

/-- What the cells of a clientHelloMsg that is made show. -/
def chS (f : CH) : List CD := [.any, .val (.int .u16 (f.vers : Nat)), .src f.random, .src f.session, .num f.suites, .src f.comps, .val (.string ⟨f.name.toArray⟩), .val (.bool f.ocsp), .num f.curves, .src f.points, .val (.bool f.ticket), .src f.tickets, .num f.sigs, .num f.sigsC, .val (.bool f.srs), .src f.sr, .val (.bool f.ems), .txt f.alpn, .val (.bool f.scts), .num f.vers13, .src f.cookie, .shr f.shares, .val (.bool f.early), .src f.modes, .psk f.psks, .lst f.binders, .qc f.quic, .src f.ech, .any]

theorem wnums_le {L : List Nat} (j : Nat) : (wnums 2 (L.take j)).length ≤ (wnums 2 L).length := by
  rw [wnums_len, wnums_len, List.length_take]; exact Nat.mul_le_mul_right _ (Nat.min_le_right _ _)
theorem wshr_le {L : List (Nat × List UInt8)} (j : Nat) : (wshr (L.take j)).length ≤ (wshr L).length := by
  have h : wshr L = wshr (L.take j) ++ wshr (L.drop j) := by rw [← wshr_append, List.take_append_drop]
  rw [h]; simp

end Go.Proofs.YtopcljikkdlffaaGreat
namespace Go.Proofs.YtopcljikkdlffaaGreat
open Go.RowKit

/-- '[]byte(s)' of a string. -/
theorem conv_str (w : World) (s : List UInt8) : ∃ u w1, (convert 9 22 (.string ⟨s.toArray⟩)).run Tryz.prog w = .ok u w1 ∧ Src w1 u s ∧
    (∀ (base c off pl : Nat) (ic : Value) (bs : List UInt8), BAt w base c off pl ic bs → BAt w1 base c off pl ic bs) ∧ ∀ base c : Nat, Fr base c w w1 := by
  have h := run_bytes_of_string (P := Tryz.prog) w 9 22 5 ⟨s.toArray⟩ Tryz.underlying9 Tryz.underlying22 Tryz.underlying5
  refine ⟨_, _, h, ?_, fun base c off pl ic bs hB => BAt.alloc (w := w.drew) hB _, fun base c => (Fr.refl base c w).drew.alloc _⟩
  refine .inr ⟨_, _, rfl, fun j u hu => ?_⟩
  rw [add_plain, Nat.zero_add]
  have hn : ∀ (C : Array Value) (f : Nat × Nat), (w.drew.alloc (.cells C 5 f)).cell? ⟨w.heap.size, j, none⟩ = C[j]? := fun C f => cell_of_heap (heap_alloc_new w.drew _)
  rw [hn]
  unfold bytesRow
  have hj : j < (s.map by8).length := (List.getElem?_eq_some_iff.1 hu).1
  rw [Array.getElem?_append_left (by simpa using hj)]
  rw [List.getElem?_map] at hu
  rw [Array.getElem?_map]
  obtain ⟨b, hb, rfl⟩ := Option.map_eq_some_iff.1 hu
  have e : (⟨s.toArray⟩ : ByteArray).data[j]? = some b := by rw [List.getElem?_toArray]; exact hb
  rw [e]
  rfl

end Go.Proofs.YtopcljikkdlffaaGreat
