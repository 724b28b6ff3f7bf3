/- The reference reads a ClientHello: what is found, and what its fields show. No statement of the seat is proved here. -/
import Derived.Test.YtopcljikkdlffaaX33
import Derived.Test.YtopcljikkdlffaaX34
import Derived.Test.YtopcljikkdlffaaX13
import Derived.Deep.DeepCutAuto
namespace Go.Proofs.Ytopcljikkdlffaa
open Go.RowKit

/-- The cells of a ClientHello that nothing was said of. -/
def zero31 : Array Value := #[.int .u16 0, .slice none 0 0, .slice none 0 0, .slice none 0 0, .slice none 0 0, .string ⟨#[]⟩, .bool false, .slice none 0 0, .slice none 0 0, .bool false, .slice none 0 0, .slice none 0 0, .slice none 0 0, .bool false, .slice none 0 0, .bool false, .slice none 0 0, .bool false, .slice none 0 0, .slice none 0 0, .slice none 0 0, .slice none 0 0, .bool false, .slice none 0 0, .slice none 0 0, .slice none 0 0, .slice none 0 0, .bool false, .slice none 0 0, .slice none 0 0, .slice none 0 0]

theorem rV_start {w W : World} {C : Array Value} {g m : Nat} {T Tg : TypeId} {fr : Nat × Nat} (hfs : Fs [m] w W) (hgm : g ≠ m) (hg : w.heap[g]? = some (.cells C Tg fr)) (hm : W.heap[m]? = some (.cells zero31 T (0, 0))) : Bn w C g m [(m, rV C g (.vn []) {})] none W := by
  refine Bn.start hfs hgm hg hm rfl fun i fd hi => ?_
  match i, hi with
  | 0, hi => cases hi; exact ⟨_, rfl, rfl, fun h => by cases h⟩
  | 1, hi => cases hi; exact ⟨_, rfl, .inl ⟨rfl, rfl⟩, fun h => by cases h⟩
  | 2, hi => cases hi; exact ⟨_, rfl, .inl ⟨rfl, rfl⟩, fun h => by cases h⟩
  | 3, hi => cases hi; exact ⟨_, rfl, ⟨[], World.ownsRow_nil _ _ _ _, rfl⟩, fun _ => rfl⟩
  | 4, hi => cases hi; exact ⟨_, rfl, .inl ⟨rfl, rfl⟩, fun h => by cases h⟩
  | 5, hi => cases hi; exact ⟨_, rfl, rfl, fun h => by cases h⟩
  | 6, hi => cases hi; exact ⟨_, rfl, rfl, fun h => by cases h⟩
  | 7, hi => cases hi; exact ⟨_, rfl, ⟨[], World.ownsRow_nil _ _ _ _, rfl⟩, fun _ => rfl⟩
  | 8, hi => cases hi; exact ⟨_, rfl, .inl ⟨rfl, rfl⟩, fun h => by cases h⟩
  | 9, hi => cases hi; exact ⟨_, rfl, rfl, fun h => by cases h⟩
  | 10, hi => cases hi; exact ⟨_, rfl, .inl ⟨rfl, rfl⟩, fun h => by cases h⟩
  | 11, hi => cases hi; exact ⟨_, rfl, ⟨[], World.ownsRow_nil _ _ _ _, rfl⟩, fun _ => rfl⟩
  | 12, hi => cases hi; exact ⟨_, rfl, ⟨[], World.ownsRow_nil _ _ _ _, rfl⟩, fun _ => rfl⟩
  | 13, hi => cases hi; exact ⟨_, rfl, rfl, fun h => by cases h⟩
  | 14, hi => cases hi; exact ⟨_, rfl, .inl ⟨rfl, rfl⟩, fun h => by cases h⟩
  | 15, hi => cases hi; exact ⟨_, rfl, rfl, fun h => by cases h⟩
  | 16, hi => cases hi; exact ⟨_, rfl, ⟨[], World.ownsRow_nil _ _ _ _, rfl⟩, fun _ => rfl⟩
  | 17, hi => cases hi; exact ⟨_, rfl, rfl, fun h => by cases h⟩
  | 18, hi => cases hi; exact ⟨_, rfl, ⟨[], World.ownsRow_nil _ _ _ _, rfl⟩, fun _ => rfl⟩
  | 19, hi => cases hi; exact ⟨_, rfl, .inl ⟨rfl, rfl⟩, fun h => by cases h⟩
  | 20, hi => cases hi; exact ⟨_, rfl, ⟨[], World.ownsRow_nil _ _ _ _, rfl⟩, fun _ => rfl⟩
  | 21, hi => cases hi; exact ⟨_, rfl, ⟨[], World.ownsRow_nil _ _ _ _, (fun j x h => by simp at h)⟩, fun _ => rfl⟩
  | 22, hi => cases hi; exact ⟨_, rfl, rfl, fun h => by cases h⟩
  | 23, hi => cases hi; exact ⟨_, rfl, .inl ⟨rfl, rfl⟩, fun h => by cases h⟩
  | 24, hi => cases hi; exact ⟨_, rfl, ⟨[], World.ownsRow_nil _ _ _ _, (fun j x h => by simp at h)⟩, fun _ => rfl⟩
  | 25, hi => cases hi; exact ⟨_, rfl, ⟨[], World.ownsRow_nil _ _ _ _, rfl⟩, fun _ => rfl⟩
  | 26, hi => cases hi; exact ⟨_, rfl, ⟨[], World.ownsRow_nil _ _ _ _, (fun j x h => by simp at h)⟩, fun _ => rfl⟩
  | 27, hi => cases hi; exact ⟨_, rfl, rfl, fun h => by cases h⟩
  | 28, hi => cases hi; exact ⟨_, rfl, .inl ⟨rfl, rfl⟩, fun h => by cases h⟩
  | 29, hi => cases hi; exact ⟨_, rfl, .inl ⟨rfl, rfl⟩, fun h => by cases h⟩
  | 30, hi => cases hi; exact ⟨_, rfl, ⟨[], World.ownsRow_nil _ _ _ _, rfl⟩, fun _ => rfl⟩

/-- What a ClientHello by value shows. -/
structure CHV (w : World) (base : Nat) (C : Array Value) (g : Nat) (f : CH) (D : Array Value) : Prop where
  size : D.size = 31
  one : D.all (·.oneCell') = true
  data : ∃ T fr, w.heap[g]? = some (.cells C T fr)
  rel : ∀ (i : Nat) (fd : FD), (rV C g (.vn f.random) f)[i]? = some fd → ∃ v, D[i]? = some v ∧ FRel w base C g fd v

/-- What such a cell shows is one cell. -/
def fdOne : FD → Bool
  | .val u => u.oneCell'
  | .any => false
  | _ => true

theorem FRel.one {w : World} {base : Nat} {C : Array Value} {g : Nat} {fd : FD} {v : Value} (h : FRel w base C g fd v) (hf : fdOne fd = true) : v.oneCell' = true := by
  cases fd with
  | any => cases hf
  | val u => rw [h]; exact hf
  | vw l => obtain ⟨off, cap, rfl, _⟩ := View.slice h; rfl
  | vn l => obtain ⟨a, cap, rfl, _⟩ := VN.len h; rfl
  | vz l =>
    rcases h with ⟨_, rfl⟩ | ⟨_, h⟩
    · rfl
    · obtain ⟨off, cap, rfl, _⟩ := View.slice h; rfl
  | own e size n R =>
    obtain ⟨us, h1, _⟩ := h
    obtain ⟨a, c, rfl⟩ := row_slice h1
    rfl

theorem rV_one {C : Array Value} {g : Nat} {rnd : FD} {f : CH} (h : fdOne rnd = true) : (rV C g rnd f).all fdOne = true := by
  simp only [rV, List.all_cons, List.all_nil, h]
  simp [fdOne, Value.oneCell']

/-- The block of a ClientHello whose cells show fields. -/
theorem Bn.cells {w0 w : World} {C : Array Value} {g m : Nat} {rnd : FD} {f : CH} (h : Bn w0 C g m [(m, rV C g rnd f)] none w) (hr : fdOne rnd = true) : ∃ (D : Array Value) (T : TypeId), w.heap[m]? = some (.cells D T (0, 0)) ∧ D.size = 31 ∧ D.all (·.oneCell') = true ∧
    ∀ (i : Nat) (fd : FD), (rV C g rnd f)[i]? = some fd → ∃ v, D[i]? = some v ∧ FRel w w0.heap.size C g fd v := by
  obtain ⟨D, T, hh, hs⟩ := h.blk 0 m _ rfl
  have hs31 : D.size = 31 := hs
  have hrel : ∀ (i : Nat) (fd : FD), (rV C g rnd f)[i]? = some fd → ∃ v, D[i]? = some v ∧ FRel w w0.heap.size C g fd v := fun i fd hi => by
    obtain ⟨v, hv, hf⟩ := h.rel 0 m _ i fd rfl hi
    rw [cell_of_heap hh] at hv
    exact ⟨v, hv, hf⟩
  refine ⟨D, T, hh, hs31, ?_, hrel⟩
  rw [Array.all_eq_true]
  intro i hi
  have hl : (rV C g rnd f).length = 31 := rfl
  obtain ⟨v, hv, hf⟩ := hrel i _ (List.getElem?_eq_getElem (show i < (rV C g rnd f).length by omega))
  have h1 := hf.one (List.all_eq_true.1 (rV_one hr) _ (List.getElem_mem _))
  rw [Array.getElem?_eq_getElem hi] at hv
  cases hv
  exact h1

/-- What is found of the random's bytes; nothing where there are too few. -/
def rndF (st : Nat × List UInt8) (v : Value) : FD := if st.2.length < 32 then .val v else .vn (st.2.take 32)

theorem rndF_one (st : Nat × List UInt8) (v : Value) (hv : v.oneCell' = true) : fdOne (rndF st v) = true := by
  unfold rndF
  split
  · exact hv
  · rfl

theorem rndF_own (st : Nat × List UInt8) (v : Value) : (rndF st v).isOwn = false := by unfold rndF; split <;> rfl

theorem take_rnd {c g : Nat} {C : Array Value} {T : TypeId} {fr : Nat × Nat} {st : Nat × List UInt8} (w : World) (hg : w.heap[g]? = some (.cells C T fr)) (hgc : g ≠ c) (hR : RAt w c C g st) (base : Nat) :
    Calls Try.prog 50 #[.pointer (some ⟨c, 0, none⟩), .int .i64 32] w fun e w' => ∃ a cap, e = .returned (.slice a 32 cap) ∧ FRel w' base C g (rndF st (.slice a 32 cap)) (.slice a 32 cap) ∧ RAt w' c C g (rnum 32 st).2 ∧ Fm c w w' := by
  by_cases hs : st.2.length < 32
  · have HH : ∀ v, rndF st v = .val v := fun v => if_pos hs
    have HN : Hid ((rnum 32 st).2 = rfail 3 st) := Lib.hid (by unfold rnum; rw [if_pos hs])
    refine (take_no 32 w hs (by omega) hR).mono ?_
    rintro e w' ⟨h, rfl, _, _, hr, hf⟩
    exact ⟨_, _, rfl, by rw [HH]; rfl, by rw [HN.out]; exact hr, hf⟩
  · have HH : ∀ v, rndF st v = .vn (st.2.take 32) := fun v => if_neg hs
    have HN : Hid ((rnum 32 st).2 = (st.1, st.2.drop 32)) := Lib.hid (by unfold rnum; rw [if_neg hs])
    obtain ⟨code, bs⟩ := st
    simp only at hs
    refine (take_yes 32 w (by omega) hR).mono ?_
    rintro e w' ⟨u, rfl, hv, hr, hf⟩
    obtain ⟨a, cap, rfl, _, _⟩ := hv.len
    have hl : (bs.take 32).length = 32 := by simp; omega
    rw [hl] at hv ⊢
    exact ⟨a, cap, rfl, by rw [HH]; exact hv, by rw [HN.out]; exact hr, hf⟩

/-- The head of a message: where its bytes lie. -/
theorem body_at {v : Value} {bs : List UInt8} {gx lo : Nat} {Cx : Array Value} {Tx : TypeId} {frx : Nat × Nat} (w : World) (hIn : InB w lo v bs) (hx : w.heap[gx]? = some (.cells Cx Tx frx)) :
    Calls Try.prog 48 #[.int .i64 1, v] w fun e w' => e = .returned (.pointer (some ⟨w.heap.size, 0, none⟩)) ∧ Fs [] w w' ∧
      ∃ (C : Array Value) (g : Nat) (T : TypeId) (fr : Nat × Nat), RAt w' w.heap.size C g (rbody0 1 bs) ∧ w'.heap[g]? = some (.cells C T fr) ∧ g < w.heap.size ∧ ((bs.length < 4 ∧ g = gx) ∨ (4 ≤ bs.length ∧ g < lo)) := by
  rcases hIn with ⟨a, cap, rfl, h4⟩ | ⟨h4, C, g, T, fr, hlo, hg, hV⟩
  · refine (body_short (C := Cx) (g := gx) 1 w h4).mono ?_
    rintro e w' ⟨rfl, hr, hf⟩
    exact ⟨rfl, hf, Cx, gx, Tx, frx, by unfold rbody0; rw [if_pos h4]; exact hr, (hf.keep gx (lt_of_heap hx) (by simp)).trans hx, lt_of_heap hx, .inl ⟨h4, rfl⟩⟩
  · refine (body_ok 1 w h4 hg hV).mono ?_
    rintro e w' ⟨rfl, hr, hf⟩
    exact ⟨rfl, hf, C, g, T, fr, by unfold rbody0; rw [if_neg (by omega)]; exact hr, (hf.keep g (lt_of_heap hg) (by simp)).trans hg, lt_of_heap hg, .inr ⟨h4, hlo⟩⟩

theorem rch_short {bs : List UInt8} (h : bs.length < 4) : (rch bs).2 = 1 := by
  have h0 : rbody0 1 bs = (1, []) := if_pos h
  have h1 : rhS bs = (1, []) := bad1 (by decide) (by unfold rh0; rw [h0, ca_rnumx 2 (by decide) (by decide)])
  unfold rch
  rw [h1, if_pos (.inl (by decide))]

/-- Few extensions, and none of them long. -/
theorem rexts_few : ∀ (n : Nat) (out : List (Nat × List UInt8)) (sp : Nat × List UInt8), (rexts n out sp).1.length ≤ out.length + sp.2.length ∧ ((∀ x ∈ out, x.2.length ≤ 65535) → ∀ x ∈ (rexts n out sp).1, x.2.length ≤ 65535)
  | 0, out, sp => ⟨by simp [rexts], fun h => h⟩
  | n + 1, out, sp => by
    by_cases h : sp.2 = []
    · rw [rexts_nil _ _ _ h]
      exact ⟨Nat.le_add_right _ _, fun h => h⟩
    · rw [rexts_succ _ _ _ h]
      have h1 := rnum_rest (k := 2) (st := sp) (by omega) h
      have h2 := rvec_le (k := 2) (low := 0) (high := 65535) (st := (rnum 2 sp).2)
      have h3 := rvec_len (k := 2) (low := 0) (high := 65535) (st := (rnum 2 sp).2)
      have h4 : ∀ (b : Bool), (if b = true then rfail 4 (rvec 2 0 65535 (rnum 2 sp).2).2 else (rvec 2 0 65535 (rnum 2 sp).2).2).2.length ≤ (rvec 2 0 65535 (rnum 2 sp).2).2.2.length := fun b => by
        cases b
        · exact Nat.le_refl _
        · exact Nat.zero_le _
      obtain ⟨k1, k2⟩ := rexts_few n (out ++ [((rnum 2 sp).1, (rvec 2 0 65535 (rnum 2 sp).2).1)]) (if (out.any fun x => x.1 == (rnum 2 sp).1) = true then rfail 4 (rvec 2 0 65535 (rnum 2 sp).2).2 else (rvec 2 0 65535 (rnum 2 sp).2).2)
      have h5 := h4 (out.any fun x => x.1 == (rnum 2 sp).1)
      refine ⟨by simp only [List.length_append, List.length_cons, List.length_nil] at k1; omega, fun hx => k2 fun x hm => ?_⟩
      rcases List.mem_append.1 hm with hm | hm
      · exact hx x hm
      · simp only [List.mem_singleton] at hm
        subst hm
        simp only
        omega

theorem rextensions_few (st : Nat × List UInt8) : (rextensions st).1.length ≤ 65535 ∧ ∀ x ∈ (rextensions st).1, x.2.length ≤ 65535 := by
  have e : (rextensions st).1 = (rexts (rvec 2 0 65535 st).1.length [] (rin (rvec 2 0 65535 st).2 (rvec 2 0 65535 st).1)).1 := rfl
  obtain ⟨k1, k2⟩ := rexts_few (rvec 2 0 65535 st).1.length [] (rin (rvec 2 0 65535 st).2 (rvec 2 0 65535 st).1)
  have h3 := rvec_len (k := 2) (low := 0) (high := 65535) (st := st)
  have h4 : (rin (rvec 2 0 65535 st).2 (rvec 2 0 65535 st).1).2.length ≤ (rvec 2 0 65535 st).1.length := by
    unfold rin
    dsimp only
    split <;> simp
  rw [e]
  exact ⟨by simp only [List.length_nil] at k1; omega, k2 (by simp)⟩

theorem rsh_few : ∀ (n : Nat) (sp : Nat × List UInt8), (rsh n sp).1.length ≤ sp.2.length
  | 0, sp => by simp [rsh]
  | n + 1, sp => by
    by_cases h : sp.2 = []
    · rw [rsh_nil _ _ h]; simp
    · rw [rsh_succ _ _ h]
      have h1 := rnum_rest (k := 2) (st := sp) (by omega) h
      have h2 := rvec_le (k := 2) (low := 1) (high := 65535) (st := (rnum 2 sp).2)
      have h3 := rsh_few n (rvec 2 1 65535 (rnum 2 sp).2).2
      simp only [List.length_cons]
      omega
theorem rid_few : ∀ (n : Nat) (sp : Nat × List UInt8), (rid n sp).1.length ≤ sp.2.length
  | 0, sp => by simp [rid]
  | n + 1, sp => by
    by_cases h : sp.2 = []
    · rw [rid_nil _ _ h]; simp
    · rw [rid_succ _ _ h]
      have h1 := rvec_rest (k := 2) (low := 1) (high := 65535) (st := sp) (by omega) h
      have h2 : (rnum 4 (rvec 2 1 65535 sp).2).2.2.length ≤ (rvec 2 1 65535 sp).2.2.length := by
        unfold rnum
        split
        · simp [rfail]
        · simp
      have h3 := rid_few n (rnum 4 (rvec 2 1 65535 sp).2).2
      simp only [List.length_cons]
      omega
theorem rin_le (st : Nat × List UInt8) (bx : List UInt8) : (rin st bx).2.length ≤ bx.length := by
  unfold rin
  dsimp only
  split <;> simp

theorem rw16_few : ∀ (n : Nat) (sp : Nat × List UInt8), (rw16 n sp).1.length ≤ sp.2.length
  | 0, sp => by simp [rw16]
  | n + 1, sp => by
    by_cases h : sp.2 = []
    · rw [rw16_nil _ _ h]; simp
    · rw [rw16_succ _ _ h]
      have h1 := rnum_rest (k := 2) (st := sp) (by omega) h
      have h3 := rw16_few n (rnum 2 sp).2
      simp only [List.length_cons]
      omega

theorem rwords_few (st : Nat × List UInt8) (bx : List UInt8) : (rwords st bx).1.length ≤ bx.length := by
  unfold rwords
  have h := rw16_few bx.length (rin st bx)
  have h2 := rin_le st bx
  simp only
  omega

theorem rcext_few (ty : Nat) (f : CH) (st : Nat × List UInt8) : (rcext ty f st).1.shares.length ≤ f.shares.length + 65535 ∧ (rcext ty f st).1.psks.length ≤ f.psks.length + 65535 := by
  by_cases h51 : ty = 51
  · subst h51
    have e : rcext 51 f st = ({ f with shares := f.shares ++ (rshares st).1 }, (rshares st).2) := rfl
    have h1 : (rshares st).1.length ≤ 65535 := by
      have h2 := rsh_few (rvec 2 0 65535 st).1.length (rin (rvec 2 0 65535 st).2 (rvec 2 0 65535 st).1)
      have h3 := rvec_len (k := 2) (low := 0) (high := 65535) (st := st)
      have h4 := rin_le (rvec 2 0 65535 st).2 (rvec 2 0 65535 st).1
      show (rsh _ _).1.length ≤ _
      omega
    rw [e]
    exact ⟨by simp; omega, by simp⟩
  by_cases h41 : ty = 41
  · subst h41
    have e : rcext 41 f st = ({ f with psks := f.psks ++ (rids st).1, binders := (rbind (f.psks ++ (rids st).1).length (rids st).2).1 }, (rbind (f.psks ++ (rids st).1).length (rids st).2).2) := rfl
    have h1 : (rids st).1.length ≤ 65535 := by
      have h2 := rid_few (rvec 2 7 65535 st).1.length (rin (rvec 2 7 65535 st).2 (rvec 2 7 65535 st).1)
      have h3 := rvec_len (k := 2) (low := 7) (high := 65535) (st := st)
      have h4 := rin_le (rvec 2 7 65535 st).2 (rvec 2 7 65535 st).1
      show (rid _ _).1.length ≤ _
      omega
    rw [e]
    exact ⟨by simp, by simp; omega⟩
  by_cases h43 : ty = 43
  · subst h43
    have e : rcext 43 f st = ({ f with vers13 := (rvw 1 255 st).1 }, (rvw 1 255 st).2) := rfl
    rw [e]
    exact ⟨Nat.le_add_right _ _, Nat.le_add_right _ _⟩
  by_cases h44 : ty = 44
  · subst h44
    have e : rcext 44 f st = ({ f with cookie := (rvec 2 1 65535 st).1 }, (rvec 2 1 65535 st).2) := rfl
    rw [e]
    exact ⟨Nat.le_add_right _ _, Nat.le_add_right _ _⟩
  by_cases h42 : ty = 42
  · subst h42
    have e : rcext 42 f st = ({ f with early := true }, st) := rfl
    rw [e]
    exact ⟨Nat.le_add_right _ _, Nat.le_add_right _ _⟩
  by_cases h45 : ty = 45
  · subst h45
    have e : rcext 45 f st = ({ f with modes := (rvec 1 0 255 st).1 }, rmodes st) := rfl
    rw [e]
    exact ⟨Nat.le_add_right _ _, Nat.le_add_right _ _⟩
  by_cases h57 : ty = 57
  · subst h57
    have e : rcext 57 f st = ({ f with quic := some st.2 }, (st.1, [])) := rfl
    rw [e]
    exact ⟨Nat.le_add_right _ _, Nat.le_add_right _ _⟩
  by_cases h65037 : ty = 65037
  · subst h65037
    have e : rcext 65037 f st = ({ f with ech := (rrest st).1 }, (rrest st).2) := rfl
    rw [e]
    exact ⟨Nat.le_add_right _ _, Nat.le_add_right _ _⟩
  by_cases h0 : ty = 0
  · subst h0
    have e : rcext 0 f st = ({ f with name := (rname st).1 }, (rname st).2) := rfl
    rw [e]
    exact ⟨Nat.le_add_right _ _, Nat.le_add_right _ _⟩
  by_cases h5 : ty = 5
  · subst h5
    have e : rcext 5 f st = ({ f with ocsp := true }, (rvec 2 0 65535 (rvec 2 0 65535 (rkind 1 st)).2).2) := rfl
    rw [e]
    exact ⟨Nat.le_add_right _ _, Nat.le_add_right _ _⟩
  by_cases h10 : ty = 10
  · subst h10
    have e : rcext 10 f st = ({ f with curves := (rvw 2 65535 st).1 }, (rvw 2 65535 st).2) := rfl
    rw [e]
    exact ⟨Nat.le_add_right _ _, Nat.le_add_right _ _⟩
  by_cases h11 : ty = 11
  · subst h11
    have e : rcext 11 f st = ({ f with points := (rvec 1 1 255 st).1 }, (rvec 1 1 255 st).2) := rfl
    rw [e]
    exact ⟨Nat.le_add_right _ _, Nat.le_add_right _ _⟩
  by_cases h35 : ty = 35
  · subst h35
    have e : rcext 35 f st = ({ f with ticket := true, tickets := st.2 }, (st.1, [])) := rfl
    rw [e]
    exact ⟨Nat.le_add_right _ _, Nat.le_add_right _ _⟩
  by_cases h13 : ty = 13
  · subst h13
    have e : rcext 13 f st = ({ f with sigs := (rvw 2 65535 st).1 }, (rvw 2 65535 st).2) := rfl
    rw [e]
    exact ⟨Nat.le_add_right _ _, Nat.le_add_right _ _⟩
  by_cases h50 : ty = 50
  · subst h50
    have e : rcext 50 f st = ({ f with sigsC := (rvw 2 65535 st).1 }, (rvw 2 65535 st).2) := rfl
    rw [e]
    exact ⟨Nat.le_add_right _ _, Nat.le_add_right _ _⟩
  by_cases h65281 : ty = 65281
  · subst h65281
    have e : rcext 65281 f st = ({ f with srs := true, sr := (rvec 1 0 255 st).1 }, (rvec 1 0 255 st).2) := rfl
    rw [e]
    exact ⟨Nat.le_add_right _ _, Nat.le_add_right _ _⟩
  by_cases h23 : ty = 23
  · subst h23
    have e : rcext 23 f st = ({ f with ems := true }, st) := rfl
    rw [e]
    exact ⟨Nat.le_add_right _ _, Nat.le_add_right _ _⟩
  by_cases h16 : ty = 16
  · subst h16
    have e : rcext 16 f st = ({ f with alpn := (rvv st).1 }, (rvv st).2) := rfl
    rw [e]
    exact ⟨Nat.le_add_right _ _, Nat.le_add_right _ _⟩
  by_cases h18 : ty = 18
  · subst h18
    have e : rcext 18 f st = ({ f with scts := true }, st) := rfl
    rw [e]
    exact ⟨Nat.le_add_right _ _, Nat.le_add_right _ _⟩
  unfold rcext rcext13
  simp only [if_neg h43, if_neg h44, if_neg h51, if_neg h42, if_neg h45, if_neg h57, if_neg h65037, if_neg h41, if_neg h0, if_neg h5, if_neg h10, if_neg h11, if_neg h35, if_neg h13, if_neg h50, if_neg h65281, if_neg h23, if_neg h16, if_neg h18]
  exact ⟨Nat.le_add_right _ _, Nat.le_add_right _ _⟩

theorem rcext_random (ty : Nat) (f : CH) (st : Nat × List UInt8) : (rcext ty f st).1.random = f.random := by
  by_cases h43 : ty = 43
  · subst h43
    have e : rcext 43 f st = ({ f with vers13 := (rvw 1 255 st).1 }, (rvw 1 255 st).2) := rfl
    rw [e]
  by_cases h44 : ty = 44
  · subst h44
    have e : rcext 44 f st = ({ f with cookie := (rvec 2 1 65535 st).1 }, (rvec 2 1 65535 st).2) := rfl
    rw [e]
  by_cases h51 : ty = 51
  · subst h51
    have e : rcext 51 f st = ({ f with shares := f.shares ++ (rshares st).1 }, (rshares st).2) := rfl
    rw [e]
  by_cases h42 : ty = 42
  · subst h42
    have e : rcext 42 f st = ({ f with early := true }, st) := rfl
    rw [e]
  by_cases h45 : ty = 45
  · subst h45
    have e : rcext 45 f st = ({ f with modes := (rvec 1 0 255 st).1 }, rmodes st) := rfl
    rw [e]
  by_cases h57 : ty = 57
  · subst h57
    have e : rcext 57 f st = ({ f with quic := some st.2 }, (st.1, [])) := rfl
    rw [e]
  by_cases h65037 : ty = 65037
  · subst h65037
    have e : rcext 65037 f st = ({ f with ech := (rrest st).1 }, (rrest st).2) := rfl
    rw [e]
  by_cases h41 : ty = 41
  · subst h41
    have e : rcext 41 f st = ({ f with psks := f.psks ++ (rids st).1, binders := (rbind (f.psks ++ (rids st).1).length (rids st).2).1 }, (rbind (f.psks ++ (rids st).1).length (rids st).2).2) := rfl
    rw [e]
  by_cases h0 : ty = 0
  · subst h0
    have e : rcext 0 f st = ({ f with name := (rname st).1 }, (rname st).2) := rfl
    rw [e]
  by_cases h5 : ty = 5
  · subst h5
    have e : rcext 5 f st = ({ f with ocsp := true }, (rvec 2 0 65535 (rvec 2 0 65535 (rkind 1 st)).2).2) := rfl
    rw [e]
  by_cases h10 : ty = 10
  · subst h10
    have e : rcext 10 f st = ({ f with curves := (rvw 2 65535 st).1 }, (rvw 2 65535 st).2) := rfl
    rw [e]
  by_cases h11 : ty = 11
  · subst h11
    have e : rcext 11 f st = ({ f with points := (rvec 1 1 255 st).1 }, (rvec 1 1 255 st).2) := rfl
    rw [e]
  by_cases h35 : ty = 35
  · subst h35
    have e : rcext 35 f st = ({ f with ticket := true, tickets := st.2 }, (st.1, [])) := rfl
    rw [e]
  by_cases h13 : ty = 13
  · subst h13
    have e : rcext 13 f st = ({ f with sigs := (rvw 2 65535 st).1 }, (rvw 2 65535 st).2) := rfl
    rw [e]
  by_cases h50 : ty = 50
  · subst h50
    have e : rcext 50 f st = ({ f with sigsC := (rvw 2 65535 st).1 }, (rvw 2 65535 st).2) := rfl
    rw [e]
  by_cases h65281 : ty = 65281
  · subst h65281
    have e : rcext 65281 f st = ({ f with srs := true, sr := (rvec 1 0 255 st).1 }, (rvec 1 0 255 st).2) := rfl
    rw [e]
  by_cases h23 : ty = 23
  · subst h23
    have e : rcext 23 f st = ({ f with ems := true }, st) := rfl
    rw [e]
  by_cases h16 : ty = 16
  · subst h16
    have e : rcext 16 f st = ({ f with alpn := (rvv st).1 }, (rvv st).2) := rfl
    rw [e]
  by_cases h18 : ty = 18
  · subst h18
    have e : rcext 18 f st = ({ f with scts := true }, st) := rfl
    rw [e]
  unfold rcext rcext13
  simp only [if_neg h43, if_neg h44, if_neg h51, if_neg h42, if_neg h45, if_neg h57, if_neg h65037, if_neg h41, if_neg h0, if_neg h5, if_neg h10, if_neg h11, if_neg h35, if_neg h13, if_neg h50, if_neg h65281, if_neg h23, if_neg h16, if_neg h18]

theorem rcloop_random : ∀ (L : List (Nat × List UInt8)) (f : CH) (r : Nat × List UInt8), (rcloop L f r).1.random = f.random
  | [], _, _ => rfl
  | e :: L, f, r => by
    show (rcloop L (rcext e.1 f (rin r e.2)).1 _).1.random = _
    rw [rcloop_random L, rcext_random]

theorem rch_random (bs : List UInt8) : (rch bs).1.random = (rh0 bs).2.2.take 32 := by
  unfold rch
  split
  · rfl
  · rw [rcloop_random]; rfl

theorem rch_long {bs : List UInt8} (h : (rch bs).2 = 0) : 32 ≤ (rh0 bs).2.2.length := by
  rcases rch_head bs with ⟨r, _, _, h3⟩ | ⟨c, h0, h1, _⟩ | h1
  · exact h3
  · unfold rch at h
    rw [h1, if_pos (.inl h0)] at h
    exact absurd h h0
  · unfold rch at h
    rw [h1, if_pos (.inl (by decide))] at h
    cases h

end Go.Proofs.Ytopcljikkdlffaa
