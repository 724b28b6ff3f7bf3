/- A ServerHello in package tls's memory; the switch of its unmarshal. No statement of the seat is proved here. -/
import Derived.Test.YtopcljikkdlffaaSa
import Derived.Test.YtopcljikkdlffaaSr
namespace Go.Proofs.Ytopcljikkdlffaa
open Go.RowKit

/-- Bytes in a row of their own; or nil. -/
def RowB (w : World) (base : Nat) (v : Value) (bs : List UInt8) : Prop :=
  (v = .slice none 0 0 ∧ bs = []) ∨ ∃ h, v = .slice (some ⟨h, 0, none⟩) bs.length bs.length ∧ base ≤ h ∧ w.heap[h]? = some (.cells (bs.map by8).toArray 5 (0, 0))

theorem RowB.slice {w : World} {base : Nat} {v : Value} {bs : List UInt8} (h : RowB w base v bs) : ∃ a n c, v = .slice a n c := by
  rcases h with ⟨h, _⟩ | ⟨h, hv, _⟩
  · exact ⟨_, _, _, h⟩
  · exact ⟨_, _, _, hv⟩
theorem OutL.slice {w : World} {base : Nat} {C : Array Value} {g : Nat} {v : Value} {L : List (List UInt8)} (h : OutL w base C g v L) : ∃ a n c, v = .slice a n c := by
  obtain ⟨us, ho, _⟩ := h
  obtain ⟨a, c, rfl⟩ := row_slice ho
  exact ⟨_, _, _, rfl⟩
theorem VN.slice {C : Array Value} {g : Nat} {v : Value} {bs : List UInt8} (h : VN C g v bs) : ∃ a n c, v = .slice a n c := by
  obtain ⟨a, c, hv, _⟩ := h.len
  exact ⟨_, _, _, hv⟩

/-- Slices over the data in a row of their own; nil where there is none. -/
def OutN (w : World) (base : Nat) (C : Array Value) (g : Nat) (v : Value) (L : List (List UInt8)) : Prop :=
  (L = [] ∧ v = .slice none 0 0) ∨ (L ≠ [] ∧ OutL w base C g v L)
theorem OutN.slice {w : World} {base : Nat} {C : Array Value} {g : Nat} {v : Value} {L : List (List UInt8)} (h : OutN w base C g v L) : ∃ a n c, v = .slice a n c := by
  rcases h with ⟨_, h⟩ | ⟨_, h⟩
  · exact ⟨_, _, _, h⟩
  · exact h.slice
theorem OutN.out {w : World} {base : Nat} {C : Array Value} {g : Nat} {v : Value} {L : List (List UInt8)} (h : OutN w base C g v L) : OutL w base C g v L := by
  rcases h with ⟨rfl, rfl⟩ | ⟨_, h⟩
  · exact ⟨[], World.ownsRow_nil _ _ _ _, fun j s hj => by simp at hj⟩
  · exact h

/-- Blocks of a list are rows of cells of other types than those of rows that were made. -/
def Odd (w : World) (l : List Nat) : Prop := ∀ p ∈ l, w.heap.size ≤ p ∨ (∃ (D : Array Value) (T : TypeId) (fr : Nat × Nat), w.heap[p]? = some (.cells D T fr) ∧ T ≠ 5 ∧ T ≠ 22) ∨ ∃ es k, w.heap[p]? = some (.map es k)

theorem Odd.nil (w : World) : Odd w [] := fun p hp => by simp at hp
theorem Odd.cons {w : World} {l : List Nat} {p : Nat} {D : Array Value} {T : TypeId} {fr : Nat × Nat} (h : w.heap[p]? = some (.cells D T fr)) (h1 : T ≠ 5) (h2 : T ≠ 22) (hl : Odd w l) : Odd w (p :: l) := fun q hq => by
  rcases List.mem_cons.1 hq with rfl | hq
  · exact .inr (.inl ⟨D, T, fr, h, h1, h2⟩)
  · exact hl q hq
theorem Odd.map {w : World} {l : List Nat} {p : Nat} {es : Array MapEntry} {k : Nat} (h : w.heap[p]? = some (.map es k)) (hl : Odd w l) : Odd w (p :: l) := fun q hq => by
  rcases List.mem_cons.1 hq with rfl | hq
  · exact .inr (.inr ⟨es, k, h⟩)
  · exact hl q hq

theorem Odd.apart {w : World} {l : List Nat} (h : Odd w l) {p : Nat} {D : Array Value} {T : TypeId} {fr : Nat × Nat} (hp : w.heap[p]? = some (.cells D T fr)) (hT : T = 5 ∨ T = 22) : p ∉ l := by
  intro hm
  rcases h p hm with h | ⟨D', T', fr', h, h1, h2⟩ | ⟨es, k, h⟩
  · exact absurd (lt_of_heap hp) (by omega)
  · rw [hp] at h
    simp only [Option.some.injEq, Obj.cells.injEq] at h
    obtain ⟨_, rfl, _⟩ := h
    rcases hT with e | e
    · exact h1 e
    · exact h2 e
  · rw [hp] at h; cases h

theorem RowB.fs {w w' : World} {base : Nat} {v : Value} {bs : List UInt8} {l : List Nat} (h : RowB w base v bs) (hf : Fs l w w') (ho : Odd w l) : RowB w' base v bs := by
  rcases h with h | ⟨p, hv, hb, hh⟩
  · exact .inl h
  · exact .inr ⟨p, hv, hb, (hf.keep p (lt_of_heap hh) (ho.apart hh (.inl rfl))).trans hh⟩
theorem OutL.fs {w w' : World} {base : Nat} {C : Array Value} {g : Nat} {v : Value} {L : List (List UInt8)} {l : List Nat} (h : OutL w base C g v L) (hf : Fs l w w') (ho : Odd w l) : OutL w' base C g v L := by
  obtain ⟨us, hown, hus⟩ := h
  refine ⟨us, ⟨hown.1, ?_⟩, hus⟩
  rcases hown.2 with h2 | ⟨p, cap, cur, hv, hb, hh, r⟩
  · exact .inl h2
  · exact .inr ⟨p, cap, cur, hv, hb, (hf.keep p (lt_of_heap hh) (ho.apart hh (.inr rfl))).trans hh, r⟩
theorem OutN.fs {w w' : World} {base : Nat} {C : Array Value} {g : Nat} {v : Value} {L : List (List UInt8)} {l : List Nat} (h : OutN w base C g v L) (hf : Fs l w w') (ho : Odd w l) : OutN w' base C g v L := by
  rcases h with h | ⟨h1, h2⟩
  · exact .inl h
  · exact .inr ⟨h1, h2.fs hf ho⟩

/-- A ServerHello in block m. -/
def SHAt (w : World) (base : Nat) (C : Array Value) (g m : Nat) (f : SH) : Prop :=
  ∃ (v_orig v_random v_session v_sr v_scts v_sdata v_pts v_ech v_cookie : Value), w.heap[m]? = some (.cells #[v_orig, .int .u16 (f.vers : Nat), v_random, v_session, .int .u16 (f.cipher : Nat), .int .u8 (f.comp : Nat), .bool f.ocsp, .bool f.ticket, .bool f.srs, v_sr, .bool f.ems, .string ⟨f.alpn.toArray⟩, v_scts, .int .u16 (f.sver : Nat), .int .u16 (f.sgroup : Nat), v_sdata, .bool f.sip, .int .u16 (f.sid : Nat), v_pts, v_ech, .bool f.sna, v_cookie, .int .u16 (f.selg : Nat)] 131 (0, 0)) ∧ (∃ a n c, v_orig = .slice a n c) ∧ VN C g v_random f.random ∧ VN C g v_session f.session ∧ VN C g v_sr f.sr ∧ OutN w base C g v_scts f.scts ∧ VN C g v_sdata f.sdata ∧ VN C g v_pts f.pts ∧ RowB w base v_ech f.ech ∧ VN C g v_cookie f.cookie

theorem SHAt.lt {w : World} {base : Nat} {C : Array Value} {g m : Nat} {f : SH} (h : SHAt w base C g m f) : m < w.heap.size := by
  obtain ⟨v_orig, v_random, v_session, v_sr, v_scts, v_sdata, v_pts, v_ech, v_cookie, hh, h_orig, h_random, h_session, h_sr, h_scts, h_sdata, h_pts, h_ech, h_cookie⟩ := h
  exact lt_of_heap hh
theorem SHAt.frozen {w : World} {base : Nat} {C : Array Value} {g m : Nat} {f : SH} (h : SHAt w base C g m f) (k : Nat) : w.frozen? ⟨m, k, none⟩ = false := by
  obtain ⟨v_orig, v_random, v_session, v_sr, v_scts, v_sdata, v_pts, v_ech, v_cookie, hh, h_orig, h_random, h_session, h_sr, h_scts, h_sdata, h_pts, h_ech, h_cookie⟩ := h
  exact frozen_of_heap hh
theorem SHAt.odd {w : World} {base : Nat} {C : Array Value} {g m : Nat} {f : SH} {l : List Nat} (h : SHAt w base C g m f) (hl : Odd w l) : Odd w (m :: l) := by
  obtain ⟨v_orig, v_random, v_session, v_sr, v_scts, v_sdata, v_pts, v_ech, v_cookie, hh, h_orig, h_random, h_session, h_sr, h_scts, h_sdata, h_pts, h_ech, h_cookie⟩ := h
  exact Odd.cons hh (by decide) (by decide) hl

theorem SHAt.fs {w w' : World} {base : Nat} {C : Array Value} {g m : Nat} {f : SH} {l : List Nat} (h : SHAt w base C g m f) (hf : Fs l w w') (hm : m ∉ l) (ho : Odd w l) : SHAt w' base C g m f := by
  obtain ⟨v_orig, v_random, v_session, v_sr, v_scts, v_sdata, v_pts, v_ech, v_cookie, hh, h_orig, h_random, h_session, h_sr, h_scts, h_sdata, h_pts, h_ech, h_cookie⟩ := h
  exact ⟨v_orig, v_random, v_session, v_sr, v_scts, v_sdata, v_pts, v_ech, v_cookie, (hf.keep m (lt_of_heap hh) hm).trans hh, h_orig, h_random, h_session, h_sr, h_scts.fs hf ho, h_sdata, h_pts, h_ech.fs hf ho, h_cookie⟩
theorem SHAt.at_vers {w : World} {base : Nat} {C : Array Value} {g m : Nat} {f : SH} (h : SHAt w base C g m f) : w.cell? ⟨m, 1, none⟩ = some (.int .u16 (f.vers : Nat)) := by
  obtain ⟨v_orig, v_random, v_session, v_sr, v_scts, v_sdata, v_pts, v_ech, v_cookie, hh, h_orig, h_random, h_session, h_sr, h_scts, h_sdata, h_pts, h_ech, h_cookie⟩ := h
  rw [cell_of_heap hh]; rfl
theorem SHAt.set_vers {w : World} {base : Nat} {C : Array Value} {g m : Nat} {f : SH} (h : SHAt w base C g m f) (x : Nat) : SHAt (w.setCell ⟨m, 1, none⟩ (.int .u16 (x : Nat))) base C g m { f with vers := x } := by
  have ho := h.odd (Odd.nil w)
  have hf : Fs [m] w (w.setCell ⟨m, 1, none⟩ (.int .u16 (x : Nat))) := (Fs.refl [m] w).setCell m 1 _ (by simp)
  obtain ⟨v_orig, v_random, v_session, v_sr, v_scts, v_sdata, v_pts, v_ech, v_cookie, hh, h_orig, h_random, h_session, h_sr, h_scts, h_sdata, h_pts, h_ech, h_cookie⟩ := h
  exact ⟨v_orig, v_random, v_session, v_sr, v_scts, v_sdata, v_pts, v_ech, v_cookie, (heap_set_same hh).trans rfl, h_orig, h_random, h_session, h_sr, h_scts.fs hf ho, h_sdata, h_pts, h_ech.fs hf ho, h_cookie⟩
theorem SHAt.at_random {w : World} {base : Nat} {C : Array Value} {g m : Nat} {f : SH} (h : SHAt w base C g m f) : ∃ v_random, w.cell? ⟨m, 2, none⟩ = some v_random ∧ VN C g v_random f.random := by
  obtain ⟨v_orig, v_random, v_session, v_sr, v_scts, v_sdata, v_pts, v_ech, v_cookie, hh, h_orig, h_random, h_session, h_sr, h_scts, h_sdata, h_pts, h_ech, h_cookie⟩ := h
  exact ⟨v_random, by rw [cell_of_heap hh]; rfl, h_random⟩
theorem SHAt.set_random {w : World} {base : Nat} {C : Array Value} {g m : Nat} {f : SH} (h : SHAt w base C g m f) {u : Value} {x : List UInt8} (hu : VN C g u x) : SHAt (w.setCell ⟨m, 2, none⟩ (u)) base C g m { f with random := x } := by
  have ho := h.odd (Odd.nil w)
  have hf : Fs [m] w (w.setCell ⟨m, 2, none⟩ (u)) := (Fs.refl [m] w).setCell m 2 _ (by simp)
  obtain ⟨v_orig, v_random, v_session, v_sr, v_scts, v_sdata, v_pts, v_ech, v_cookie, hh, h_orig, h_random, h_session, h_sr, h_scts, h_sdata, h_pts, h_ech, h_cookie⟩ := h
  exact ⟨v_orig, u, v_session, v_sr, v_scts, v_sdata, v_pts, v_ech, v_cookie, (heap_set_same hh).trans rfl, h_orig, hu, h_session, h_sr, h_scts.fs hf ho, h_sdata, h_pts, h_ech.fs hf ho, h_cookie⟩
theorem SHAt.at_session {w : World} {base : Nat} {C : Array Value} {g m : Nat} {f : SH} (h : SHAt w base C g m f) : ∃ v_session, w.cell? ⟨m, 3, none⟩ = some v_session ∧ VN C g v_session f.session := by
  obtain ⟨v_orig, v_random, v_session, v_sr, v_scts, v_sdata, v_pts, v_ech, v_cookie, hh, h_orig, h_random, h_session, h_sr, h_scts, h_sdata, h_pts, h_ech, h_cookie⟩ := h
  exact ⟨v_session, by rw [cell_of_heap hh]; rfl, h_session⟩
theorem SHAt.set_session {w : World} {base : Nat} {C : Array Value} {g m : Nat} {f : SH} (h : SHAt w base C g m f) {u : Value} {x : List UInt8} (hu : VN C g u x) : SHAt (w.setCell ⟨m, 3, none⟩ (u)) base C g m { f with session := x } := by
  have ho := h.odd (Odd.nil w)
  have hf : Fs [m] w (w.setCell ⟨m, 3, none⟩ (u)) := (Fs.refl [m] w).setCell m 3 _ (by simp)
  obtain ⟨v_orig, v_random, v_session, v_sr, v_scts, v_sdata, v_pts, v_ech, v_cookie, hh, h_orig, h_random, h_session, h_sr, h_scts, h_sdata, h_pts, h_ech, h_cookie⟩ := h
  exact ⟨v_orig, v_random, u, v_sr, v_scts, v_sdata, v_pts, v_ech, v_cookie, (heap_set_same hh).trans rfl, h_orig, h_random, hu, h_sr, h_scts.fs hf ho, h_sdata, h_pts, h_ech.fs hf ho, h_cookie⟩
theorem SHAt.at_cipher {w : World} {base : Nat} {C : Array Value} {g m : Nat} {f : SH} (h : SHAt w base C g m f) : w.cell? ⟨m, 4, none⟩ = some (.int .u16 (f.cipher : Nat)) := by
  obtain ⟨v_orig, v_random, v_session, v_sr, v_scts, v_sdata, v_pts, v_ech, v_cookie, hh, h_orig, h_random, h_session, h_sr, h_scts, h_sdata, h_pts, h_ech, h_cookie⟩ := h
  rw [cell_of_heap hh]; rfl
theorem SHAt.set_cipher {w : World} {base : Nat} {C : Array Value} {g m : Nat} {f : SH} (h : SHAt w base C g m f) (x : Nat) : SHAt (w.setCell ⟨m, 4, none⟩ (.int .u16 (x : Nat))) base C g m { f with cipher := x } := by
  have ho := h.odd (Odd.nil w)
  have hf : Fs [m] w (w.setCell ⟨m, 4, none⟩ (.int .u16 (x : Nat))) := (Fs.refl [m] w).setCell m 4 _ (by simp)
  obtain ⟨v_orig, v_random, v_session, v_sr, v_scts, v_sdata, v_pts, v_ech, v_cookie, hh, h_orig, h_random, h_session, h_sr, h_scts, h_sdata, h_pts, h_ech, h_cookie⟩ := h
  exact ⟨v_orig, v_random, v_session, v_sr, v_scts, v_sdata, v_pts, v_ech, v_cookie, (heap_set_same hh).trans rfl, h_orig, h_random, h_session, h_sr, h_scts.fs hf ho, h_sdata, h_pts, h_ech.fs hf ho, h_cookie⟩
theorem SHAt.at_comp {w : World} {base : Nat} {C : Array Value} {g m : Nat} {f : SH} (h : SHAt w base C g m f) : w.cell? ⟨m, 5, none⟩ = some (.int .u8 (f.comp : Nat)) := by
  obtain ⟨v_orig, v_random, v_session, v_sr, v_scts, v_sdata, v_pts, v_ech, v_cookie, hh, h_orig, h_random, h_session, h_sr, h_scts, h_sdata, h_pts, h_ech, h_cookie⟩ := h
  rw [cell_of_heap hh]; rfl
theorem SHAt.set_comp {w : World} {base : Nat} {C : Array Value} {g m : Nat} {f : SH} (h : SHAt w base C g m f) (x : Nat) : SHAt (w.setCell ⟨m, 5, none⟩ (.int .u8 (x : Nat))) base C g m { f with comp := x } := by
  have ho := h.odd (Odd.nil w)
  have hf : Fs [m] w (w.setCell ⟨m, 5, none⟩ (.int .u8 (x : Nat))) := (Fs.refl [m] w).setCell m 5 _ (by simp)
  obtain ⟨v_orig, v_random, v_session, v_sr, v_scts, v_sdata, v_pts, v_ech, v_cookie, hh, h_orig, h_random, h_session, h_sr, h_scts, h_sdata, h_pts, h_ech, h_cookie⟩ := h
  exact ⟨v_orig, v_random, v_session, v_sr, v_scts, v_sdata, v_pts, v_ech, v_cookie, (heap_set_same hh).trans rfl, h_orig, h_random, h_session, h_sr, h_scts.fs hf ho, h_sdata, h_pts, h_ech.fs hf ho, h_cookie⟩
theorem SHAt.at_ocsp {w : World} {base : Nat} {C : Array Value} {g m : Nat} {f : SH} (h : SHAt w base C g m f) : w.cell? ⟨m, 6, none⟩ = some (.bool f.ocsp) := by
  obtain ⟨v_orig, v_random, v_session, v_sr, v_scts, v_sdata, v_pts, v_ech, v_cookie, hh, h_orig, h_random, h_session, h_sr, h_scts, h_sdata, h_pts, h_ech, h_cookie⟩ := h
  rw [cell_of_heap hh]; rfl
theorem SHAt.set_ocsp {w : World} {base : Nat} {C : Array Value} {g m : Nat} {f : SH} (h : SHAt w base C g m f) (x : Bool) : SHAt (w.setCell ⟨m, 6, none⟩ (.bool x)) base C g m { f with ocsp := x } := by
  have ho := h.odd (Odd.nil w)
  have hf : Fs [m] w (w.setCell ⟨m, 6, none⟩ (.bool x)) := (Fs.refl [m] w).setCell m 6 _ (by simp)
  obtain ⟨v_orig, v_random, v_session, v_sr, v_scts, v_sdata, v_pts, v_ech, v_cookie, hh, h_orig, h_random, h_session, h_sr, h_scts, h_sdata, h_pts, h_ech, h_cookie⟩ := h
  exact ⟨v_orig, v_random, v_session, v_sr, v_scts, v_sdata, v_pts, v_ech, v_cookie, (heap_set_same hh).trans rfl, h_orig, h_random, h_session, h_sr, h_scts.fs hf ho, h_sdata, h_pts, h_ech.fs hf ho, h_cookie⟩
theorem SHAt.at_ticket {w : World} {base : Nat} {C : Array Value} {g m : Nat} {f : SH} (h : SHAt w base C g m f) : w.cell? ⟨m, 7, none⟩ = some (.bool f.ticket) := by
  obtain ⟨v_orig, v_random, v_session, v_sr, v_scts, v_sdata, v_pts, v_ech, v_cookie, hh, h_orig, h_random, h_session, h_sr, h_scts, h_sdata, h_pts, h_ech, h_cookie⟩ := h
  rw [cell_of_heap hh]; rfl
theorem SHAt.set_ticket {w : World} {base : Nat} {C : Array Value} {g m : Nat} {f : SH} (h : SHAt w base C g m f) (x : Bool) : SHAt (w.setCell ⟨m, 7, none⟩ (.bool x)) base C g m { f with ticket := x } := by
  have ho := h.odd (Odd.nil w)
  have hf : Fs [m] w (w.setCell ⟨m, 7, none⟩ (.bool x)) := (Fs.refl [m] w).setCell m 7 _ (by simp)
  obtain ⟨v_orig, v_random, v_session, v_sr, v_scts, v_sdata, v_pts, v_ech, v_cookie, hh, h_orig, h_random, h_session, h_sr, h_scts, h_sdata, h_pts, h_ech, h_cookie⟩ := h
  exact ⟨v_orig, v_random, v_session, v_sr, v_scts, v_sdata, v_pts, v_ech, v_cookie, (heap_set_same hh).trans rfl, h_orig, h_random, h_session, h_sr, h_scts.fs hf ho, h_sdata, h_pts, h_ech.fs hf ho, h_cookie⟩
theorem SHAt.at_srs {w : World} {base : Nat} {C : Array Value} {g m : Nat} {f : SH} (h : SHAt w base C g m f) : w.cell? ⟨m, 8, none⟩ = some (.bool f.srs) := by
  obtain ⟨v_orig, v_random, v_session, v_sr, v_scts, v_sdata, v_pts, v_ech, v_cookie, hh, h_orig, h_random, h_session, h_sr, h_scts, h_sdata, h_pts, h_ech, h_cookie⟩ := h
  rw [cell_of_heap hh]; rfl
theorem SHAt.set_srs {w : World} {base : Nat} {C : Array Value} {g m : Nat} {f : SH} (h : SHAt w base C g m f) (x : Bool) : SHAt (w.setCell ⟨m, 8, none⟩ (.bool x)) base C g m { f with srs := x } := by
  have ho := h.odd (Odd.nil w)
  have hf : Fs [m] w (w.setCell ⟨m, 8, none⟩ (.bool x)) := (Fs.refl [m] w).setCell m 8 _ (by simp)
  obtain ⟨v_orig, v_random, v_session, v_sr, v_scts, v_sdata, v_pts, v_ech, v_cookie, hh, h_orig, h_random, h_session, h_sr, h_scts, h_sdata, h_pts, h_ech, h_cookie⟩ := h
  exact ⟨v_orig, v_random, v_session, v_sr, v_scts, v_sdata, v_pts, v_ech, v_cookie, (heap_set_same hh).trans rfl, h_orig, h_random, h_session, h_sr, h_scts.fs hf ho, h_sdata, h_pts, h_ech.fs hf ho, h_cookie⟩
theorem SHAt.at_sr {w : World} {base : Nat} {C : Array Value} {g m : Nat} {f : SH} (h : SHAt w base C g m f) : ∃ v_sr, w.cell? ⟨m, 9, none⟩ = some v_sr ∧ VN C g v_sr f.sr := by
  obtain ⟨v_orig, v_random, v_session, v_sr, v_scts, v_sdata, v_pts, v_ech, v_cookie, hh, h_orig, h_random, h_session, h_sr, h_scts, h_sdata, h_pts, h_ech, h_cookie⟩ := h
  exact ⟨v_sr, by rw [cell_of_heap hh]; rfl, h_sr⟩
theorem SHAt.set_sr {w : World} {base : Nat} {C : Array Value} {g m : Nat} {f : SH} (h : SHAt w base C g m f) {u : Value} {x : List UInt8} (hu : VN C g u x) : SHAt (w.setCell ⟨m, 9, none⟩ (u)) base C g m { f with sr := x } := by
  have ho := h.odd (Odd.nil w)
  have hf : Fs [m] w (w.setCell ⟨m, 9, none⟩ (u)) := (Fs.refl [m] w).setCell m 9 _ (by simp)
  obtain ⟨v_orig, v_random, v_session, v_sr, v_scts, v_sdata, v_pts, v_ech, v_cookie, hh, h_orig, h_random, h_session, h_sr, h_scts, h_sdata, h_pts, h_ech, h_cookie⟩ := h
  exact ⟨v_orig, v_random, v_session, u, v_scts, v_sdata, v_pts, v_ech, v_cookie, (heap_set_same hh).trans rfl, h_orig, h_random, h_session, hu, h_scts.fs hf ho, h_sdata, h_pts, h_ech.fs hf ho, h_cookie⟩
theorem SHAt.at_ems {w : World} {base : Nat} {C : Array Value} {g m : Nat} {f : SH} (h : SHAt w base C g m f) : w.cell? ⟨m, 10, none⟩ = some (.bool f.ems) := by
  obtain ⟨v_orig, v_random, v_session, v_sr, v_scts, v_sdata, v_pts, v_ech, v_cookie, hh, h_orig, h_random, h_session, h_sr, h_scts, h_sdata, h_pts, h_ech, h_cookie⟩ := h
  rw [cell_of_heap hh]; rfl
theorem SHAt.set_ems {w : World} {base : Nat} {C : Array Value} {g m : Nat} {f : SH} (h : SHAt w base C g m f) (x : Bool) : SHAt (w.setCell ⟨m, 10, none⟩ (.bool x)) base C g m { f with ems := x } := by
  have ho := h.odd (Odd.nil w)
  have hf : Fs [m] w (w.setCell ⟨m, 10, none⟩ (.bool x)) := (Fs.refl [m] w).setCell m 10 _ (by simp)
  obtain ⟨v_orig, v_random, v_session, v_sr, v_scts, v_sdata, v_pts, v_ech, v_cookie, hh, h_orig, h_random, h_session, h_sr, h_scts, h_sdata, h_pts, h_ech, h_cookie⟩ := h
  exact ⟨v_orig, v_random, v_session, v_sr, v_scts, v_sdata, v_pts, v_ech, v_cookie, (heap_set_same hh).trans rfl, h_orig, h_random, h_session, h_sr, h_scts.fs hf ho, h_sdata, h_pts, h_ech.fs hf ho, h_cookie⟩
theorem SHAt.at_alpn {w : World} {base : Nat} {C : Array Value} {g m : Nat} {f : SH} (h : SHAt w base C g m f) : w.cell? ⟨m, 11, none⟩ = some (.string ⟨f.alpn.toArray⟩) := by
  obtain ⟨v_orig, v_random, v_session, v_sr, v_scts, v_sdata, v_pts, v_ech, v_cookie, hh, h_orig, h_random, h_session, h_sr, h_scts, h_sdata, h_pts, h_ech, h_cookie⟩ := h
  rw [cell_of_heap hh]; rfl
theorem SHAt.set_alpn {w : World} {base : Nat} {C : Array Value} {g m : Nat} {f : SH} (h : SHAt w base C g m f) (x : List UInt8) : SHAt (w.setCell ⟨m, 11, none⟩ (.string ⟨x.toArray⟩)) base C g m { f with alpn := x } := by
  have ho := h.odd (Odd.nil w)
  have hf : Fs [m] w (w.setCell ⟨m, 11, none⟩ (.string ⟨x.toArray⟩)) := (Fs.refl [m] w).setCell m 11 _ (by simp)
  obtain ⟨v_orig, v_random, v_session, v_sr, v_scts, v_sdata, v_pts, v_ech, v_cookie, hh, h_orig, h_random, h_session, h_sr, h_scts, h_sdata, h_pts, h_ech, h_cookie⟩ := h
  exact ⟨v_orig, v_random, v_session, v_sr, v_scts, v_sdata, v_pts, v_ech, v_cookie, (heap_set_same hh).trans rfl, h_orig, h_random, h_session, h_sr, h_scts.fs hf ho, h_sdata, h_pts, h_ech.fs hf ho, h_cookie⟩
theorem SHAt.at_scts {w : World} {base : Nat} {C : Array Value} {g m : Nat} {f : SH} (h : SHAt w base C g m f) : ∃ v_scts, w.cell? ⟨m, 12, none⟩ = some v_scts ∧ OutN w base C g v_scts f.scts := by
  obtain ⟨v_orig, v_random, v_session, v_sr, v_scts, v_sdata, v_pts, v_ech, v_cookie, hh, h_orig, h_random, h_session, h_sr, h_scts, h_sdata, h_pts, h_ech, h_cookie⟩ := h
  exact ⟨v_scts, by rw [cell_of_heap hh]; rfl, h_scts⟩
theorem SHAt.set_scts {w : World} {base : Nat} {C : Array Value} {g m : Nat} {f : SH} (h : SHAt w base C g m f) {u : Value} {x : List (List UInt8)} (hu : OutN w base C g u x) : SHAt (w.setCell ⟨m, 12, none⟩ (u)) base C g m { f with scts := x } := by
  have ho := h.odd (Odd.nil w)
  have hf : Fs [m] w (w.setCell ⟨m, 12, none⟩ (u)) := (Fs.refl [m] w).setCell m 12 _ (by simp)
  obtain ⟨v_orig, v_random, v_session, v_sr, v_scts, v_sdata, v_pts, v_ech, v_cookie, hh, h_orig, h_random, h_session, h_sr, h_scts, h_sdata, h_pts, h_ech, h_cookie⟩ := h
  exact ⟨v_orig, v_random, v_session, v_sr, u, v_sdata, v_pts, v_ech, v_cookie, (heap_set_same hh).trans rfl, h_orig, h_random, h_session, h_sr, hu.fs hf ho, h_sdata, h_pts, h_ech.fs hf ho, h_cookie⟩
theorem SHAt.at_sver {w : World} {base : Nat} {C : Array Value} {g m : Nat} {f : SH} (h : SHAt w base C g m f) : w.cell? ⟨m, 13, none⟩ = some (.int .u16 (f.sver : Nat)) := by
  obtain ⟨v_orig, v_random, v_session, v_sr, v_scts, v_sdata, v_pts, v_ech, v_cookie, hh, h_orig, h_random, h_session, h_sr, h_scts, h_sdata, h_pts, h_ech, h_cookie⟩ := h
  rw [cell_of_heap hh]; rfl
theorem SHAt.set_sver {w : World} {base : Nat} {C : Array Value} {g m : Nat} {f : SH} (h : SHAt w base C g m f) (x : Nat) : SHAt (w.setCell ⟨m, 13, none⟩ (.int .u16 (x : Nat))) base C g m { f with sver := x } := by
  have ho := h.odd (Odd.nil w)
  have hf : Fs [m] w (w.setCell ⟨m, 13, none⟩ (.int .u16 (x : Nat))) := (Fs.refl [m] w).setCell m 13 _ (by simp)
  obtain ⟨v_orig, v_random, v_session, v_sr, v_scts, v_sdata, v_pts, v_ech, v_cookie, hh, h_orig, h_random, h_session, h_sr, h_scts, h_sdata, h_pts, h_ech, h_cookie⟩ := h
  exact ⟨v_orig, v_random, v_session, v_sr, v_scts, v_sdata, v_pts, v_ech, v_cookie, (heap_set_same hh).trans rfl, h_orig, h_random, h_session, h_sr, h_scts.fs hf ho, h_sdata, h_pts, h_ech.fs hf ho, h_cookie⟩
theorem SHAt.at_sgroup {w : World} {base : Nat} {C : Array Value} {g m : Nat} {f : SH} (h : SHAt w base C g m f) : w.cell? ⟨m, 14, none⟩ = some (.int .u16 (f.sgroup : Nat)) := by
  obtain ⟨v_orig, v_random, v_session, v_sr, v_scts, v_sdata, v_pts, v_ech, v_cookie, hh, h_orig, h_random, h_session, h_sr, h_scts, h_sdata, h_pts, h_ech, h_cookie⟩ := h
  rw [cell_of_heap hh]; rfl
theorem SHAt.set_sgroup {w : World} {base : Nat} {C : Array Value} {g m : Nat} {f : SH} (h : SHAt w base C g m f) (x : Nat) : SHAt (w.setCell ⟨m, 14, none⟩ (.int .u16 (x : Nat))) base C g m { f with sgroup := x } := by
  have ho := h.odd (Odd.nil w)
  have hf : Fs [m] w (w.setCell ⟨m, 14, none⟩ (.int .u16 (x : Nat))) := (Fs.refl [m] w).setCell m 14 _ (by simp)
  obtain ⟨v_orig, v_random, v_session, v_sr, v_scts, v_sdata, v_pts, v_ech, v_cookie, hh, h_orig, h_random, h_session, h_sr, h_scts, h_sdata, h_pts, h_ech, h_cookie⟩ := h
  exact ⟨v_orig, v_random, v_session, v_sr, v_scts, v_sdata, v_pts, v_ech, v_cookie, (heap_set_same hh).trans rfl, h_orig, h_random, h_session, h_sr, h_scts.fs hf ho, h_sdata, h_pts, h_ech.fs hf ho, h_cookie⟩
theorem SHAt.at_sdata {w : World} {base : Nat} {C : Array Value} {g m : Nat} {f : SH} (h : SHAt w base C g m f) : ∃ v_sdata, w.cell? ⟨m, 15, none⟩ = some v_sdata ∧ VN C g v_sdata f.sdata := by
  obtain ⟨v_orig, v_random, v_session, v_sr, v_scts, v_sdata, v_pts, v_ech, v_cookie, hh, h_orig, h_random, h_session, h_sr, h_scts, h_sdata, h_pts, h_ech, h_cookie⟩ := h
  exact ⟨v_sdata, by rw [cell_of_heap hh]; rfl, h_sdata⟩
theorem SHAt.set_sdata {w : World} {base : Nat} {C : Array Value} {g m : Nat} {f : SH} (h : SHAt w base C g m f) {u : Value} {x : List UInt8} (hu : VN C g u x) : SHAt (w.setCell ⟨m, 15, none⟩ (u)) base C g m { f with sdata := x } := by
  have ho := h.odd (Odd.nil w)
  have hf : Fs [m] w (w.setCell ⟨m, 15, none⟩ (u)) := (Fs.refl [m] w).setCell m 15 _ (by simp)
  obtain ⟨v_orig, v_random, v_session, v_sr, v_scts, v_sdata, v_pts, v_ech, v_cookie, hh, h_orig, h_random, h_session, h_sr, h_scts, h_sdata, h_pts, h_ech, h_cookie⟩ := h
  exact ⟨v_orig, v_random, v_session, v_sr, v_scts, u, v_pts, v_ech, v_cookie, (heap_set_same hh).trans rfl, h_orig, h_random, h_session, h_sr, h_scts.fs hf ho, hu, h_pts, h_ech.fs hf ho, h_cookie⟩
theorem SHAt.at_sip {w : World} {base : Nat} {C : Array Value} {g m : Nat} {f : SH} (h : SHAt w base C g m f) : w.cell? ⟨m, 16, none⟩ = some (.bool f.sip) := by
  obtain ⟨v_orig, v_random, v_session, v_sr, v_scts, v_sdata, v_pts, v_ech, v_cookie, hh, h_orig, h_random, h_session, h_sr, h_scts, h_sdata, h_pts, h_ech, h_cookie⟩ := h
  rw [cell_of_heap hh]; rfl
theorem SHAt.set_sip {w : World} {base : Nat} {C : Array Value} {g m : Nat} {f : SH} (h : SHAt w base C g m f) (x : Bool) : SHAt (w.setCell ⟨m, 16, none⟩ (.bool x)) base C g m { f with sip := x } := by
  have ho := h.odd (Odd.nil w)
  have hf : Fs [m] w (w.setCell ⟨m, 16, none⟩ (.bool x)) := (Fs.refl [m] w).setCell m 16 _ (by simp)
  obtain ⟨v_orig, v_random, v_session, v_sr, v_scts, v_sdata, v_pts, v_ech, v_cookie, hh, h_orig, h_random, h_session, h_sr, h_scts, h_sdata, h_pts, h_ech, h_cookie⟩ := h
  exact ⟨v_orig, v_random, v_session, v_sr, v_scts, v_sdata, v_pts, v_ech, v_cookie, (heap_set_same hh).trans rfl, h_orig, h_random, h_session, h_sr, h_scts.fs hf ho, h_sdata, h_pts, h_ech.fs hf ho, h_cookie⟩
theorem SHAt.at_sid {w : World} {base : Nat} {C : Array Value} {g m : Nat} {f : SH} (h : SHAt w base C g m f) : w.cell? ⟨m, 17, none⟩ = some (.int .u16 (f.sid : Nat)) := by
  obtain ⟨v_orig, v_random, v_session, v_sr, v_scts, v_sdata, v_pts, v_ech, v_cookie, hh, h_orig, h_random, h_session, h_sr, h_scts, h_sdata, h_pts, h_ech, h_cookie⟩ := h
  rw [cell_of_heap hh]; rfl
theorem SHAt.set_sid {w : World} {base : Nat} {C : Array Value} {g m : Nat} {f : SH} (h : SHAt w base C g m f) (x : Nat) : SHAt (w.setCell ⟨m, 17, none⟩ (.int .u16 (x : Nat))) base C g m { f with sid := x } := by
  have ho := h.odd (Odd.nil w)
  have hf : Fs [m] w (w.setCell ⟨m, 17, none⟩ (.int .u16 (x : Nat))) := (Fs.refl [m] w).setCell m 17 _ (by simp)
  obtain ⟨v_orig, v_random, v_session, v_sr, v_scts, v_sdata, v_pts, v_ech, v_cookie, hh, h_orig, h_random, h_session, h_sr, h_scts, h_sdata, h_pts, h_ech, h_cookie⟩ := h
  exact ⟨v_orig, v_random, v_session, v_sr, v_scts, v_sdata, v_pts, v_ech, v_cookie, (heap_set_same hh).trans rfl, h_orig, h_random, h_session, h_sr, h_scts.fs hf ho, h_sdata, h_pts, h_ech.fs hf ho, h_cookie⟩
theorem SHAt.at_pts {w : World} {base : Nat} {C : Array Value} {g m : Nat} {f : SH} (h : SHAt w base C g m f) : ∃ v_pts, w.cell? ⟨m, 18, none⟩ = some v_pts ∧ VN C g v_pts f.pts := by
  obtain ⟨v_orig, v_random, v_session, v_sr, v_scts, v_sdata, v_pts, v_ech, v_cookie, hh, h_orig, h_random, h_session, h_sr, h_scts, h_sdata, h_pts, h_ech, h_cookie⟩ := h
  exact ⟨v_pts, by rw [cell_of_heap hh]; rfl, h_pts⟩
theorem SHAt.set_pts {w : World} {base : Nat} {C : Array Value} {g m : Nat} {f : SH} (h : SHAt w base C g m f) {u : Value} {x : List UInt8} (hu : VN C g u x) : SHAt (w.setCell ⟨m, 18, none⟩ (u)) base C g m { f with pts := x } := by
  have ho := h.odd (Odd.nil w)
  have hf : Fs [m] w (w.setCell ⟨m, 18, none⟩ (u)) := (Fs.refl [m] w).setCell m 18 _ (by simp)
  obtain ⟨v_orig, v_random, v_session, v_sr, v_scts, v_sdata, v_pts, v_ech, v_cookie, hh, h_orig, h_random, h_session, h_sr, h_scts, h_sdata, h_pts, h_ech, h_cookie⟩ := h
  exact ⟨v_orig, v_random, v_session, v_sr, v_scts, v_sdata, u, v_ech, v_cookie, (heap_set_same hh).trans rfl, h_orig, h_random, h_session, h_sr, h_scts.fs hf ho, h_sdata, hu, h_ech.fs hf ho, h_cookie⟩
theorem SHAt.at_ech {w : World} {base : Nat} {C : Array Value} {g m : Nat} {f : SH} (h : SHAt w base C g m f) : ∃ v_ech, w.cell? ⟨m, 19, none⟩ = some v_ech ∧ RowB w base v_ech f.ech := by
  obtain ⟨v_orig, v_random, v_session, v_sr, v_scts, v_sdata, v_pts, v_ech, v_cookie, hh, h_orig, h_random, h_session, h_sr, h_scts, h_sdata, h_pts, h_ech, h_cookie⟩ := h
  exact ⟨v_ech, by rw [cell_of_heap hh]; rfl, h_ech⟩
theorem SHAt.set_ech {w : World} {base : Nat} {C : Array Value} {g m : Nat} {f : SH} (h : SHAt w base C g m f) {u : Value} {x : List UInt8} (hu : RowB w base u x) : SHAt (w.setCell ⟨m, 19, none⟩ (u)) base C g m { f with ech := x } := by
  have ho := h.odd (Odd.nil w)
  have hf : Fs [m] w (w.setCell ⟨m, 19, none⟩ (u)) := (Fs.refl [m] w).setCell m 19 _ (by simp)
  obtain ⟨v_orig, v_random, v_session, v_sr, v_scts, v_sdata, v_pts, v_ech, v_cookie, hh, h_orig, h_random, h_session, h_sr, h_scts, h_sdata, h_pts, h_ech, h_cookie⟩ := h
  exact ⟨v_orig, v_random, v_session, v_sr, v_scts, v_sdata, v_pts, u, v_cookie, (heap_set_same hh).trans rfl, h_orig, h_random, h_session, h_sr, h_scts.fs hf ho, h_sdata, h_pts, hu.fs hf ho, h_cookie⟩
theorem SHAt.at_sna {w : World} {base : Nat} {C : Array Value} {g m : Nat} {f : SH} (h : SHAt w base C g m f) : w.cell? ⟨m, 20, none⟩ = some (.bool f.sna) := by
  obtain ⟨v_orig, v_random, v_session, v_sr, v_scts, v_sdata, v_pts, v_ech, v_cookie, hh, h_orig, h_random, h_session, h_sr, h_scts, h_sdata, h_pts, h_ech, h_cookie⟩ := h
  rw [cell_of_heap hh]; rfl
theorem SHAt.set_sna {w : World} {base : Nat} {C : Array Value} {g m : Nat} {f : SH} (h : SHAt w base C g m f) (x : Bool) : SHAt (w.setCell ⟨m, 20, none⟩ (.bool x)) base C g m { f with sna := x } := by
  have ho := h.odd (Odd.nil w)
  have hf : Fs [m] w (w.setCell ⟨m, 20, none⟩ (.bool x)) := (Fs.refl [m] w).setCell m 20 _ (by simp)
  obtain ⟨v_orig, v_random, v_session, v_sr, v_scts, v_sdata, v_pts, v_ech, v_cookie, hh, h_orig, h_random, h_session, h_sr, h_scts, h_sdata, h_pts, h_ech, h_cookie⟩ := h
  exact ⟨v_orig, v_random, v_session, v_sr, v_scts, v_sdata, v_pts, v_ech, v_cookie, (heap_set_same hh).trans rfl, h_orig, h_random, h_session, h_sr, h_scts.fs hf ho, h_sdata, h_pts, h_ech.fs hf ho, h_cookie⟩
theorem SHAt.at_cookie {w : World} {base : Nat} {C : Array Value} {g m : Nat} {f : SH} (h : SHAt w base C g m f) : ∃ v_cookie, w.cell? ⟨m, 21, none⟩ = some v_cookie ∧ VN C g v_cookie f.cookie := by
  obtain ⟨v_orig, v_random, v_session, v_sr, v_scts, v_sdata, v_pts, v_ech, v_cookie, hh, h_orig, h_random, h_session, h_sr, h_scts, h_sdata, h_pts, h_ech, h_cookie⟩ := h
  exact ⟨v_cookie, by rw [cell_of_heap hh]; rfl, h_cookie⟩
theorem SHAt.set_cookie {w : World} {base : Nat} {C : Array Value} {g m : Nat} {f : SH} (h : SHAt w base C g m f) {u : Value} {x : List UInt8} (hu : VN C g u x) : SHAt (w.setCell ⟨m, 21, none⟩ (u)) base C g m { f with cookie := x } := by
  have ho := h.odd (Odd.nil w)
  have hf : Fs [m] w (w.setCell ⟨m, 21, none⟩ (u)) := (Fs.refl [m] w).setCell m 21 _ (by simp)
  obtain ⟨v_orig, v_random, v_session, v_sr, v_scts, v_sdata, v_pts, v_ech, v_cookie, hh, h_orig, h_random, h_session, h_sr, h_scts, h_sdata, h_pts, h_ech, h_cookie⟩ := h
  exact ⟨v_orig, v_random, v_session, v_sr, v_scts, v_sdata, v_pts, v_ech, u, (heap_set_same hh).trans rfl, h_orig, h_random, h_session, h_sr, h_scts.fs hf ho, h_sdata, h_pts, h_ech.fs hf ho, hu⟩
theorem SHAt.at_selg {w : World} {base : Nat} {C : Array Value} {g m : Nat} {f : SH} (h : SHAt w base C g m f) : w.cell? ⟨m, 22, none⟩ = some (.int .u16 (f.selg : Nat)) := by
  obtain ⟨v_orig, v_random, v_session, v_sr, v_scts, v_sdata, v_pts, v_ech, v_cookie, hh, h_orig, h_random, h_session, h_sr, h_scts, h_sdata, h_pts, h_ech, h_cookie⟩ := h
  rw [cell_of_heap hh]; rfl
theorem SHAt.set_selg {w : World} {base : Nat} {C : Array Value} {g m : Nat} {f : SH} (h : SHAt w base C g m f) (x : Nat) : SHAt (w.setCell ⟨m, 22, none⟩ (.int .u16 (x : Nat))) base C g m { f with selg := x } := by
  have ho := h.odd (Odd.nil w)
  have hf : Fs [m] w (w.setCell ⟨m, 22, none⟩ (.int .u16 (x : Nat))) := (Fs.refl [m] w).setCell m 22 _ (by simp)
  obtain ⟨v_orig, v_random, v_session, v_sr, v_scts, v_sdata, v_pts, v_ech, v_cookie, hh, h_orig, h_random, h_session, h_sr, h_scts, h_sdata, h_pts, h_ech, h_cookie⟩ := h
  exact ⟨v_orig, v_random, v_session, v_sr, v_scts, v_sdata, v_pts, v_ech, v_cookie, (heap_set_same hh).trans rfl, h_orig, h_random, h_session, h_sr, h_scts.fs hf ho, h_sdata, h_pts, h_ech.fs hf ho, h_cookie⟩

/-- The row of the encrypted_client_hello was made, laid and filled. -/
theorem SHAt.put_ech {w w' : World} {base : Nat} {C : Array Value} {g m : Nat} {f : SH} {l : List Nat} {u : Value} {x : List UInt8} (h : SHAt w base C g m f) (hf : Fs (m :: l) w w') (ho : Odd w l)
    (hm : ∀ (D : Array Value) (T : TypeId) (fr : Nat × Nat), w.heap[m]? = some (.cells D T fr) → w'.heap[m]? = some (.cells (D.setIfInBounds 19 u) T fr)) (hu : RowB w' base u x) : SHAt w' base C g m { f with ech := x } := by
  have ho := h.odd ho
  obtain ⟨v_orig, v_random, v_session, v_sr, v_scts, v_sdata, v_pts, v_ech, v_cookie, hh, h_orig, h_random, h_session, h_sr, h_scts, h_sdata, h_pts, h_ech, h_cookie⟩ := h
  exact ⟨v_orig, v_random, v_session, v_sr, v_scts, v_sdata, v_pts, u, v_cookie, (hm _ _ _ hh).trans rfl, h_orig, h_random, h_session, h_sr, h_scts.fs hf ho, h_sdata, h_pts, hu, h_cookie⟩

/-- The row of the timestamps has grown, and was laid into its cell. -/
theorem SHAt.put_scts {w w' : World} {base : Nat} {C : Array Value} {g m : Nat} {f : SH} {u : Value} {x : List (List UInt8)} (h : SHAt w base C g m f)
    (hm : ∀ (D : Array Value) (T : TypeId) (fr : Nat × Nat), w.heap[m]? = some (.cells D T fr) → w'.heap[m]? = some (.cells (D.setIfInBounds 12 u) T fr)) (he : ∀ v bs, RowB w base v bs → RowB w' base v bs) (hu : OutN w' base C g u x) : SHAt w' base C g m { f with scts := x } := by
  obtain ⟨v_orig, v_random, v_session, v_sr, v_scts, v_sdata, v_pts, v_ech, v_cookie, hh, h_orig, h_random, h_session, h_sr, h_scts, h_sdata, h_pts, h_ech, h_cookie⟩ := h
  exact ⟨v_orig, v_random, v_session, v_sr, u, v_sdata, v_pts, v_ech, v_cookie, (hm _ _ _ hh).trans rfl, h_orig, h_random, h_session, h_sr, hu, h_sdata, h_pts, he _ _ h_ech, h_cookie⟩

/-- The block of a number in a piece of code. -/
def blk (n : Nat) : Code → Option Code
  | .block k c => if k = n then some (.block k c) else blk n c
  | .seq a b => match blk n a with
    | some c => some c
    | none => blk n b
  | .cond _ a b => match blk n a with
    | some c => some c
    | none => blk n b
  | .loop c => blk n c
  | .scope c => blk n c
  | _ => none

/-- The switch of a ServerHello's unmarshal. -/
noncomputable def shSwitch : Code := ((Try.f84.body.bind (blk 2)).getD .skip)

/-- What later code reads of the frame of a ServerHello's unmarshal. -/
def ShFrame (s : Array Value) (m dB : Nat) (k5 k6 k7 : Value) : Prop :=
  s.size = 254 ∧ s[0]? = some (.pointer (some ⟨m, 0, none⟩)) ∧ s[5]? = some k5 ∧ s[6]? = some k6 ∧ s[7]? = some k7 ∧ s[9]? = some (.pointer (some ⟨dB, 0, none⟩))

/-- What the switch leaves of one extension. -/
def SwOut (w : World) (base : Nat) (C : Array Value) (g m dB : Nat) (k5 k6 k7 : Value) (f : SH) (ty : Nat) (d : List UInt8) (e : Exit) (a : Act) (w' : World) : Prop :=
  a.defers = [] ∧ Fs [m, dB] w w' ∧
    ((e = .ret ∧ shExt f ty d = none ∧ a.tmps[4]? = some (.bool false) ∧ a.tmps.size = 254) ∨
     ∃ f' r, shExt f ty d = some (f', r) ∧ ShFrame a.tmps m dB k5 k6 k7 ∧ SHAt w' base C g m f' ∧ ((e = .exit 1 ∧ r = []) ∨ e = .normal ∧ ∃ v, w'.heap[dB]? = some (.cells #[v] 152 (0, 0)) ∧ View C g v r))

theorem SwOut_panic {w w' : World} {base : Nat} {C : Array Value} {g m dB : Nat} {k5 k6 k7 : Value} {f : SH} {ty : Nat} {d : List UInt8} {c : List PanicEntry} {a : Act} (h : SwOut w base C g m dB k5 k6 k7 f ty d (.panic c) a w') : False := by
  obtain ⟨_, _, ⟨h, _⟩ | ⟨_, _, _, _, _, ⟨h, _⟩ | ⟨h, _⟩⟩⟩ := h <;> cases h

end Go.Proofs.Ytopcljikkdlffaa
