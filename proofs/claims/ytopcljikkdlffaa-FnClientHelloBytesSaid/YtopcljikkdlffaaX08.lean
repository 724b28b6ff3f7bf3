/- A Certificate up to TLS 1.2 is read (whole), and the walk of its statement. The reference's reader: what its methods leave. The reference's reader: parts within a reader. No statement of the seat is proved here. -/
import Derived.Test.YtopcljikkdlffaaX07
namespace Go.Proofs.Ytopcljikkdlffaa
open Go.RowKit

set_option maxRecDepth 100000 in
set_option maxHeartbeats 1000000 in
theorem cert_unmarshal_nil {C : Array Value} {m g : Nat} {T : TypeId} {fr : Nat × Nat} {v : Value} (w : World) (hm : w.heap[m]? = some (.cells #[.slice none 0 0] 122 (0, 0))) (hg : w.heap[g]? = some (.cells C T fr))
    (hV : View C g v (wcert [])) :
    Calls Try.prog 80 #[.pointer (some ⟨m, 0, none⟩), v] w fun e w' => ∃ (cs : Array Value) (h : Nat), e = .returned (.bool true) ∧ w'.heap[m]? = some (.cells #[.slice (some ⟨h, 0, none⟩) 0 0] 122 (0, 0)) ∧
      w'.heap[h]? = some (.cells cs 22 (0, 0)) ∧ w.heap.size ≤ h ∧ Fm m w w' := by
  obtain ⟨off, cap, rfl, hcl, hcm, hcell⟩ := id hV
  have hl7 : (wcert []).length = 7 := rfl
  rw [hl7] at hcl hV hcell ⊢
  have f0 : w.cell? ⟨m, 0, none⟩ = some (.slice none 0 0) := by rw [cell_of_heap hm]; rfl
  have mfz : w.frozen? ⟨m, 0, none⟩ = false := frozen_of_heap hm
  have g4 : w.cell? ⟨g, off + 4, none⟩ = some (.int .u8 0) := by rw [cell_of_heap hg, hcell 4 (by omega)]; rfl
  have g5 : w.cell? ⟨g, off + 5, none⟩ = some (.int .u8 0) := by rw [cell_of_heap hg, hcell 5 (by omega)]; rfl
  have g6 : w.cell? ⟨g, off + 6, none⟩ = some (.int .u8 0) := by rw [cell_of_heap hg, hcell 6 (by omega)]; rfl
  have hor : bits BinOp.or IntKind.u32 0 0 = 0 := by decide
  have hcm' : cap ≤ 9223372036854775807 := hcm
  have hml := lt_of_heap hm
  have HM := Lib.hid hm
  have hmk : ∀ wx : World, wx.heap.size = w.heap.size → (Instr.makeSlice 29 (.int .i64 0) (.int .i64 0)).run Try.prog wx = .ok (.slice (some ⟨w.heap.size, 0, none⟩) 0 0) (wx.alloc (.cells #[] 22)) := fun wx h => by rw [← h]; exact make_rows wx 0 (by omega)
  clear hm hg hV hcell hcm
  by_cases hcap : 7 = cap
  · go_enter Try.func80, Try.ntmps80
    go_wp2_with fail
    go_quiet (fail)
    have hmk2 := hmk (w.drewN nq) rfl
    have q1 : ((w.drewN nq).alloc (.cells #[] 22)).frozen? ⟨m, 0, none⟩ = false := frozen_of_heap ((Below.heap_alloc (w.drewN nq) _ _ hml).trans HM.out)
    have q2 : ((w.drewN nq).alloc (.cells #[] 22)).cell? ⟨m, 0, none⟩ = some (.slice none 0 0) := by rw [cell_of_heap ((Below.heap_alloc (w.drewN nq) _ _ hml).trans HM.out)]; rfl
    go_wp2_with fail
    go_loop [5, 6] (fun cl nc => cl = .int .u32 0 ∧ nc = .int .i64 0) (fun _ _ => 0)
    case atStart => exact ⟨rfl, rfl⟩
    case round =>
      obtain ⟨rfl, rfl⟩ := hrel
      go_wp2_with fail
      go_loop [9] (fun i => i = .int .i64 0) (fun _ => 0)
      case atStart => rfl
      case round =>
        obtain rfl := hrel
        go_wp2_with fail
        go_ret
        refine ⟨rfl, #[], w.heap.size, ?_, ?_, Nat.le_refl _, ?_⟩
        · exact (heap_set_same ((Below.heap_alloc (w.drewN nq) _ _ hml).trans HM.out)).trans rfl
        · exact (Below.heap_setCell _ _ _ _ (by show w.heap.size ≠ m; omega)).trans (heap_alloc_new (w.drewN nq) _)
        · refine ⟨rfl, rfl, rfl, by simp [World.setCell], fun k hk hkm => ?_⟩
          exact (Below.heap_setCell _ _ _ _ hkm).trans (Below.heap_alloc (w.drewN nq) _ _ hk)
  · go_enter Try.func80, Try.ntmps80
    go_wp2_with fail
    go_quiet (fail)
    have hmk2 := hmk (w.drewN nq) rfl
    have q1 : ((w.drewN nq).alloc (.cells #[] 22)).frozen? ⟨m, 0, none⟩ = false := frozen_of_heap ((Below.heap_alloc (w.drewN nq) _ _ hml).trans HM.out)
    have q2 : ((w.drewN nq).alloc (.cells #[] 22)).cell? ⟨m, 0, none⟩ = some (.slice none 0 0) := by rw [cell_of_heap ((Below.heap_alloc (w.drewN nq) _ _ hml).trans HM.out)]; rfl
    go_wp2_with fail
    go_loop [5, 6] (fun cl nc => cl = .int .u32 0 ∧ nc = .int .i64 0) (fun _ _ => 0)
    case atStart => exact ⟨rfl, rfl⟩
    case round =>
      obtain ⟨rfl, rfl⟩ := hrel
      go_wp2_with fail
      go_loop [9] (fun i => i = .int .i64 0) (fun _ => 0)
      case atStart => rfl
      case round =>
        obtain rfl := hrel
        go_wp2_with fail
        go_ret
        refine ⟨rfl, #[], w.heap.size, ?_, ?_, Nat.le_refl _, ?_⟩
        · exact (heap_set_same ((Below.heap_alloc (w.drewN nq) _ _ hml).trans HM.out)).trans rfl
        · exact (Below.heap_setCell _ _ _ _ (by show w.heap.size ≠ m; omega)).trans (heap_alloc_new (w.drewN nq) _)
        · refine ⟨rfl, rfl, rfl, by simp [World.setCell], fun k hk hkm => ?_⟩
          exact (Below.heap_setCell _ _ _ _ hkm).trans (Below.heap_alloc (w.drewN nq) _ _ hk)

theorem cert_unmarshal {C : Array Value} {m g : Nat} {T : TypeId} {fr : Nat × Nat} {v : Value} {L : List (List UInt8)} (w : World) (hm : w.heap[m]? = some (.cells #[.slice none 0 0] 122 (0, 0))) (hg : w.heap[g]? = some (.cells C T fr)) (hgm : g ≠ m)
    (hV : View C g v (wcert L)) (hne : ∀ s ∈ L, s ≠ []) (hT : (vecs 3 L).length + 7 ≤ 16777216) :
    Calls Try.prog 80 #[.pointer (some ⟨m, 0, none⟩), v] w fun e w' => ∃ (cs : Array Value) (h : Nat), e = .returned (.bool true) ∧ w'.heap[m]? = some (.cells #[.slice (some ⟨h, 0, none⟩) L.length L.length] 122 (0, 0)) ∧
      w'.heap[h]? = some (.cells cs 22 (0, 0)) ∧ w.heap.size ≤ h ∧ (∀ (j : Nat) (s : List UInt8), L[j]? = some s → ∃ u, cs[j]? = some u ∧ View C g u s) ∧ Fm m w w' := by
  cases L with
  | nil =>
    refine (cert_unmarshal_nil w hm hg hV).mono ?_
    rintro e w1 ⟨cs, h, he, h1, h2, h3, h4⟩
    exact ⟨cs, h, he, h1, h2, h3, fun j s hj => by simp at hj, h4⟩
  | cons s L => exact cert_unmarshal_cons w hm hg hgm hV hne hT (by simp)

set_option maxRecDepth 100000 in
set_option maxHeartbeats 400000 in
theorem certu_tls {C : Array Value} {g : Nat} {T : TypeId} {fr : Nat × Nat} {v : Value} {L : List (List UInt8)} (w : World) (hg : w.heap[g]? = some (.cells C T fr)) (hV : View C g v (wcert L)) (hne : ∀ s ∈ L, s ≠ []) (hT : (vecs 3 L).length + 7 ≤ 16777216) :
    Calls Try.prog 47 #[v] w fun e w' => ∃ u, e = .returned (.tuple #[u, .bool true]) ∧ LstB w' w'.heap.size u L ∧ Below w.heap.size w w' := by
  have HV := Lib.hid hV
  have HG := Lib.hid hg
  have hgl := lt_of_heap hg
  clear hV hg
  go_enter Try.func47, Try.ntmps47
  go_wp2_with fail
  refine (cert_unmarshal (m := w.heap.size) (g := g) _ (heap_alloc_new _ _) ((Below.heap_alloc _ _ _ hgl).trans HG.out) (by omega) HV.out hne hT).mono ?_
  rintro e w1 ⟨cs, h, rfl, hm1, hh1, hle, hall, hF⟩
  have m0 : w1.cell? ⟨w.heap.size, 0, none⟩ = some (.slice (some ⟨h, 0, none⟩) L.length L.length) := by rw [cell_of_heap hm1]; rfl
  have HH := Lib.hid hh1
  have HALL := Lib.hid hall
  have HF := Lib.hid hF
  clear hm1 hh1 hall hF
  go_wp2_with fail
  go_ret2
  refine ⟨_, rfl, .inr ⟨⟨h, 0, none⟩, L.length, rfl, fun _ => lt_of_heap HH.out, fun j s hj => ?_⟩, ?_⟩
  · obtain ⟨u, hu, hv⟩ := HALL.out j s hj
    have hgk : w1.heap[g]? = some (.cells C T fr) := by
      rw [HF.out.keep g (by simp; omega) (by omega), Below.heap_alloc _ _ _ hgl, HG.out]
    exact ⟨u, by rw [add_plain, Nat.zero_add, cell_of_heap HH.out]; exact hu, view_src hv hgk⟩
  · refine ⟨HF.out.os, HF.out.tape, HF.out.output, by have h := HF.out.size; simp at h; omega, fun k hk => ?_⟩
    rw [HF.out.keep k (by simp; omega) (by omega), Below.heap_alloc _ _ _ hk]

set_option maxRecDepth 100000 in
set_option maxHeartbeats 400000 in
theorem certu_impl {C : Array Value} {g : Nat} {T : TypeId} {fr : Nat × Nat} {v : Value} {L : List (List UInt8)} (w : World) (hg : w.heap[g]? = some (.cells C T fr)) (hV : View C g v (wcert L)) (hne : ∀ s ∈ L, s ≠ []) (hT : (vecs 3 L).length + 7 ≤ 16777216) :
    Calls Try.prog 22 #[v] w fun e w' => ∃ u, e = .returned (.tuple #[u, .bool true]) ∧ LstB w' w'.heap.size u L ∧ Below w.heap.size w w' := by
  have HV := Lib.hid hV
  have HG := Lib.hid hg
  clear hV hg
  go_enter Try.func22, Try.ntmps22
  go_wp2_with fail
  refine (certu_tls w HG.out HV.out hne hT).mono ?_
  rintro e w1 ⟨u, rfl, hl, hb⟩
  have HL := Lib.hid hl
  have HB := Lib.hid hb
  clear hl hb
  go_wp2_with fail
  go_ret2
  exact ⟨u, rfl, HL.out, HB.out⟩

set_option maxRecDepth 100000 in
set_option maxHeartbeats 400000 in
theorem certMade_walk {L : List (List UInt8)} {v : Value} (w : World) (hL : LstB w w.heap.size v L) (hn : L.length ≤ 1048576) (hT : lens L ≤ 1048576) :
    Calls Try.prog 5 #[v] w fun e w' => e = .returned (.bool true) ∧ Below w.heap.size w w' := by
  obtain ⟨ad, cap, rfl, _⟩ := hL.len
  have hvl := vecs_len 3 L
  have hs : ∀ s ∈ L, s.length ≤ 1048576 := fun s hs => by
    have : s.length ≤ lens L := by
      obtain ⟨i, hi, rfl⟩ := List.mem_iff_getElem.1 hs
      have h1 := lens_take_succ hi
      have h2 := lens_take_le L (i + 1)
      omega
    omega
  have HL := Lib.hid hL
  clear hL
  go_enter Try.func5, Try.ntmps5
  go_wp2_with fail
  refine (fits2_ok w HL.out (by omega) (fun s h => by have := hs s h; omega)).mono ?_
  rintro e w1 ⟨rfl, rfl⟩
  go_wp2_with fail
  refine (rightCert_ok w1 HL.out (by omega) (fun s h => by have := hs s h; omega)).mono ?_
  rintro e w2 ⟨rfl, rfl⟩
  cases hall : (L.all fun s => !s.isEmpty) with
  | false =>
    go_wp2_with fail
    go_ret
    exact ⟨rfl, Below.refl _ _⟩
  | true =>
    have hne : ∀ s ∈ L, s ≠ [] := fun s h => by
      have := List.all_eq_true.1 hall s h
      simpa using this
    clear hall
    go_wp2_with fail
    refine (writeCert_ok w2 HL.out (by omega) (fun s h => by have := hs s h; omega) (by omega)).mono ?_
    rintro e w3 ⟨u3, rfl, hown3, hB3⟩
    have HT3 := Lib.hid (src_own (base := w3.heap.size) hown3 (Nat.le_refl _))
    have HB3 := Lib.hid hB3
    have HL3 := Lib.hid (HL.out.keep (w' := w3) hB3.size hB3.block)
    clear hown3 hB3
    go_wp2_with fail
    refine (cert_impl w3 HL3.out hne (by omega)).mono ?_
    rintro e w4 ⟨u4, rfl, hown4, hB4⟩
    obtain ⟨C, g, hV, hg, hgb⟩ := view_own hown4 (by simp [wcert, en1])
    have HV := Lib.hid hV
    have HG := Lib.hid hg
    have HS4 := Lib.hid (src_own (base := w4.heap.size) hown4 (Nat.le_refl _))
    have HB4 := Lib.hid hB4
    clear hV hg hown4 hB4
    go_wp2_with fail
    refine (certu_impl w4 HG.out HV.out hne (by omega)).mono ?_
    rintro e w5 ⟨u5, rfl, hl5, hB5⟩
    have HL5 := Lib.hid hl5
    have HS5 := Lib.hid (HS4.out.below hB5)
    have HT5 := Lib.hid ((HT3.out.below HB4.out).keep (w' := w5) HB4.out.size (fun k hk => hB5.block k (Nat.lt_of_lt_of_le hk HB4.out.size)))
    have HLL5 := Lib.hid ((HL3.out.keep (w' := w4) HB4.out.size HB4.out.block).keep (w' := w5) hB5.size hB5.block)
    have HB := Lib.hid (HB3.out.trans ((HB4.out.mono HB3.out.size).trans (hB5.mono (Nat.le_trans HB3.out.size HB4.out.size))))
    clear hl5 hB5
    go_wp2_with fail
    refine (Same_ok w5 HS5.out.src HT5.out.src).mono ?_
    rintro e w6 ⟨rfl, rfl⟩
    rw [decide_eq_true rfl]
    go_wp2_with fail
    refine (sameLists_ok w6 HL5.out HLL5.out (by omega)).mono ?_
    rintro e w7 ⟨rfl, rfl⟩
    go_wp2_with fail
    go_ret
    exact ⟨rfl, HB.out⟩

end Go.Proofs.Ytopcljikkdlffaa
namespace Go.Proofs.Ytopcljikkdlffaa
open Go.RowKit

/-- In the row of cells C of block g the slice v shows bs; or v is nil and bs is empty. -/
def VN (C : Array Value) (g : Nat) (v : Value) (bs : List UInt8) : Prop := (v = .slice none 0 0 ∧ bs = []) ∨ View C g v bs

/-- A reader in block c: what was found so far, and what is left. -/
def RAt (w : World) (c : Nat) (C : Array Value) (g : Nat) (st : Nat × List UInt8) : Prop :=
  ∃ v, w.heap[c]? = some (.cells #[v, .int .i64 st.1] 80 (0, 0)) ∧ VN C g v st.2

/-- The reader fails. -/
def rfail (k : Nat) (st : Nat × List UInt8) : Nat × List UInt8 := (if st.1 = 0 then k else st.1, [])

/-- A number of k bytes. -/
def rnum (k : Nat) (st : Nat × List UInt8) : Nat × (Nat × List UInt8) := if st.2.length < k then (0, rfail 3 st) else (be (st.2.take k), (st.1, st.2.drop k))

/-- A vector. -/
def rvec (k low high : Nat) (st : Nat × List UInt8) : List UInt8 × (Nat × List UInt8) :=
  if (rnum k st).2.1 ≠ 0 then ([], (rnum k st).2)
  else if (rnum k st).2.2.length < (rnum k st).1 then ([], (3, []))
  else if (rnum k st).1 < low ∨ high < (rnum k st).1 then ((rnum k st).2.2.take (rnum k st).1, (2, []))
  else ((rnum k st).2.2.take (rnum k st).1, (0, (rnum k st).2.2.drop (rnum k st).1))

theorem Fm.refl (m : Nat) (w : World) : Fm m w w := ⟨rfl, rfl, rfl, Nat.le_refl _, fun _ _ _ => rfl⟩
theorem Fm.trans {m : Nat} {a b d : World} (h : Fm m a b) (k : Fm m b d) : Fm m a d :=
  ⟨k.os.trans h.os, k.tape.trans h.tape, k.output.trans h.output, Nat.le_trans h.size k.size, fun i hi hm => (k.keep i (Nat.lt_of_lt_of_le hi h.size) hm).trans (h.keep i hi hm)⟩
theorem Fm.setCell {m : Nat} {a w : World} (h : Fm m a w) (o : Nat) (u : Value) : Fm m a (w.setCell ⟨m, o, none⟩ u) :=
  h.trans ⟨rfl, rfl, rfl, by simp [World.setCell], fun _ _ hc => Below.heap_setCell _ _ _ _ hc⟩
theorem Fm.alloc {m : Nat} {a w : World} (h : Fm m a w) (o : Obj) : Fm m a (w.alloc o) :=
  h.trans ⟨rfl, rfl, rfl, by simp, fun _ hk _ => Below.heap_alloc _ _ _ hk⟩

theorem VN.len {C : Array Value} {g : Nat} {v : Value} {bs : List UInt8} (h : VN C g v bs) : ∃ a cap, v = .slice a bs.length cap ∧ bs.length ≤ cap ∧ cap ≤ maxLen := by
  rcases h with ⟨rfl, rfl⟩ | ⟨off, cap, rfl, h1, h2, _⟩
  · exact ⟨none, 0, rfl, Nat.le_refl _, Nat.zero_le _⟩
  · exact ⟨_, cap, rfl, h1, h2⟩

set_option maxRecDepth 100000 in
set_option maxHeartbeats 400000 in
theorem fail_ok {c g : Nat} {C : Array Value} {st : Nat × List UInt8} (k : Nat) (w : World) (hR : RAt w c C g st) :
    Calls Try.prog 52 #[.pointer (some ⟨c, 0, none⟩), .int .i64 k] w fun e w' => e = .returned (.tuple #[]) ∧ RAt w' c C g (rfail k st) ∧ Fm c w w' := by
  obtain ⟨v, hh, hv⟩ := hR
  obtain ⟨code, bs⟩ := st
  obtain ⟨a, cap, rfl, _, _⟩ := hv.len
  have f0 : w.cell? ⟨c, 0, none⟩ = some (.slice a bs.length cap) := by rw [cell_of_heap hh]; rfl
  have f1 : w.cell? ⟨c, 1, none⟩ = some (.int .i64 code) := by rw [cell_of_heap hh]; rfl
  have hfz : ∀ o, w.frozen? ⟨c, o, none⟩ = false := fun o => frozen_of_heap hh
  have HH := Lib.hid hh
  clear hh hv
  by_cases h0 : code = 0
  · subst h0
    go_enter Try.func52, Try.ntmps52
    go_wp2_with fail
    go_end0
    refine ⟨rfl, ⟨.slice none 0 0, ?_, .inl ⟨rfl, rfl⟩⟩, ((Fm.refl c w).setCell 1 _).setCell 0 _⟩
    exact (heap_set_same (heap_set_same HH.out)).trans rfl
  · have h1 : ¬ ((code : Nat) : Int) = 0 := by omega
    go_enter Try.func52, Try.ntmps52
    go_wp2_with fail
    go_end0
    refine ⟨rfl, ⟨.slice none 0 0, ?_, .inl ⟨rfl, rfl⟩⟩, (Fm.refl c w).setCell 0 _⟩
    rw [heap_set_same HH.out]
    simp [rfail, h0]

set_option maxRecDepth 100000 in
set_option maxHeartbeats 1000000 in
theorem take_yes {c g : Nat} {C : Array Value} {code : Nat} {bs : List UInt8} (n : Nat) (w : World) (hn : n ≤ bs.length) (hR : RAt w c C g (code, bs)) :
    Calls Try.prog 50 #[.pointer (some ⟨c, 0, none⟩), .int .i64 n] w fun e w' => ∃ u, e = .returned u ∧ VN C g u (bs.take n) ∧ RAt w' c C g (code, bs.drop n) ∧ Fm c w w' := by
  obtain ⟨v, hh, hv⟩ := hR
  have hfz : ∀ o, w.frozen? ⟨c, o, none⟩ = false := fun o => frozen_of_heap hh
  rcases hv with ⟨rfl, e⟩ | hV
  · simp only at e
    subst e
    obtain rfl : n = 0 := by simpa using hn
    have f0 : w.cell? ⟨c, 0, none⟩ = some (.slice none 0 0) := by rw [cell_of_heap hh]; rfl
    have HH := Lib.hid hh
    clear hh
    go_enter Try.func50, Try.ntmps50
    go_wp2_with fail
    go_ret
    exact ⟨_, rfl, .inl ⟨rfl, rfl⟩, ⟨.slice none 0 0, (heap_set_same HH.out).trans rfl, .inl ⟨rfl, rfl⟩⟩, (Fm.refl c w).setCell 0 _⟩
  · obtain ⟨off, cap, rfl, hcl, hcm, hcc⟩ := hV
    simp only at hcl hcc
    have f0 : w.cell? ⟨c, 0, none⟩ = some (.slice (some ⟨g, off, none⟩) bs.length cap) := by rw [cell_of_heap hh]; rfl
    have HH := Lib.hid hh
    have hcm' : cap ≤ 9223372036854775807 := hcm
    have hnc : (n : Int) ≤ (cap : Int) := by omega
    have hnl : ¬ ((bs.length : Nat) : Int) < (n : Int) := by omega
    have V1 : Hid (View C g (.slice (some ⟨g, off, none⟩) n n) (bs.take n)) := by
      have e : (bs.take n).length = n := by simp; omega
      refine ⟨off, n, by rw [e], by omega, by omega, fun i hi => ?_⟩
      rw [e] at hi
      rw [hcc i (by omega)]
      simp [hi]
    have V2 := Lib.hid (View.drop (db := g) n hn hcl hcm hcc)
    have V3 : Hid (n = bs.length → View C g (.slice (some ⟨g, off, none⟩) 0 0) (bs.drop n)) := fun h => View.dropAll n h
    clear hh hcc hcm
    by_cases hcap : n = cap
    · subst hcap
      go_enter Try.func50, Try.ntmps50
      go_wp2_with fail
      go_ret
      exact ⟨_, rfl, .inr V1.out, ⟨_, (heap_set_same HH.out).trans rfl, .inr (V3.out (by omega))⟩, (Fm.refl c w).setCell 0 _⟩
    · go_enter Try.func50, Try.ntmps50
      go_wp2_with fail
      go_ret
      exact ⟨_, rfl, .inr V1.out, ⟨_, (heap_set_same HH.out).trans rfl, .inr V2.out⟩, (Fm.refl c w).setCell 0 _⟩

set_option maxRecDepth 100000 in
set_option maxHeartbeats 1000000 in
theorem take_no {c g : Nat} {C : Array Value} {st : Nat × List UInt8} (n : Nat) (w : World) (hn : st.2.length < n) (hn2 : n ≤ 16777216) (hR : RAt w c C g st) :
    Calls Try.prog 50 #[.pointer (some ⟨c, 0, none⟩), .int .i64 n] w fun e w' => ∃ h, e = .returned (.slice (some ⟨h, 0, none⟩) n n) ∧ w'.heap[h]? = some (.cells (List.replicate n (Value.int .u8 0)).toArray 5 (0, 0)) ∧ w.heap.size ≤ h ∧ RAt w' c C g (rfail 3 st) ∧ Fm c w w' := by
  have HR := Lib.hid hR
  obtain ⟨v, hh, hv⟩ := hR
  obtain ⟨code, bs⟩ := st
  obtain ⟨a, cap, rfl, hcl, hcm⟩ := hv.len
  simp only at hn hcl
  have f0 : w.cell? ⟨c, 0, none⟩ = some (.slice a bs.length cap) := by rw [cell_of_heap hh]; rfl
  have hc := lt_of_heap hh
  have hl : ((bs.length : Nat) : Int) < (n : Int) := by omega
  clear hh hv
  go_enter Try.func50, Try.ntmps50
  go_wp2_with fail
  refine (fail_ok 3 w HR.out).mono ?_
  rintro e w1 ⟨rfl, hR1, hF1⟩
  have HR1 := Lib.hid hR1
  have HF1 := Lib.hid hF1
  have hmk := make_row w1 n (by omega)
  obtain ⟨Z, hZ⟩ : ∃ Z, Z = (List.replicate n (Value.int .u8 0)).toArray := ⟨_, rfl⟩
  rw [← hZ] at hmk
  have HZ := Lib.hid hZ
  clear hR1 hF1 hZ
  go_wp2_with fail
  go_ret
  refine ⟨w1.heap.size, rfl, by rw [← HZ.out]; exact heap_alloc_new _ _, HF1.out.size, ?_, HF1.out.alloc _⟩
  obtain ⟨v1, hh1, hv1⟩ := HR1.out
  exact ⟨v1, (Below.heap_alloc _ _ _ (lt_of_heap hh1)).trans hh1, hv1⟩

theorem vn_src {w : World} {C : Array Value} {g : Nat} {v : Value} {s : List UInt8} {T : TypeId} {fr : Nat × Nat} (h : VN C g v s) (hh : w.heap[g]? = some (.cells C T fr)) : SrcB w w.heap.size v s := by
  rcases h with h | h
  · exact .inl h
  · exact view_src h hh

theorem be_zeros (n : Nat) : be (List.replicate n 0) = 0 := by
  induction n with
  | zero => rfl
  | succ n ih => rw [List.replicate_succ, be_cons, ih]; simp

/-- So many bytes are taken; zeros where there are too few. -/
theorem take_any {c g : Nat} {C : Array Value} {T : TypeId} {fr : Nat × Nat} {st : Nat × List UInt8} (n : Nat) (w : World) (hn2 : n ≤ 16777216) (hg : w.heap[g]? = some (.cells C T fr)) (hgc : g ≠ c) (hR : RAt w c C g st) :
    Calls Try.prog 50 #[.pointer (some ⟨c, 0, none⟩), .int .i64 n] w fun e w' => ∃ u bx, e = .returned u ∧ bx.length = n ∧ SrcB w' w'.heap.size u bx ∧ be bx = (rnum n st).1 ∧ RAt w' c C g (rnum n st).2 ∧ Fm c w w' := by
  obtain ⟨code, bs⟩ := st
  unfold rnum
  by_cases h : bs.length < n
  · refine (take_no n w h hn2 hR).mono ?_
    rintro e w' ⟨hb, rfl, hh, hs, hr, hf⟩
    refine ⟨_, List.replicate n 0, rfl, by simp, .inr ⟨_, n, by rw [List.length_replicate], fun _ => lt_of_heap hh, fun j u hu => ?_⟩, ?_, ?_, hf⟩
    · rw [add_plain, Nat.zero_add, cell_of_heap hh, List.getElem?_toArray]
      rw [List.map_replicate] at hu
      exact hu
    · rw [if_pos h, be_zeros]
    · rw [if_pos h]; exact hr
  · refine (take_yes n w (by omega) hR).mono ?_
    rintro e w' ⟨u, rfl, hv, hr, hf⟩
    have hg' : w'.heap[g]? = some (.cells C T fr) := (hf.keep g (lt_of_heap hg) hgc).trans hg
    refine ⟨u, bs.take n, rfl, by simp; omega, vn_src hv hg', ?_, ?_, hf⟩
    · rw [if_neg h]
    · rw [if_neg h]; exact hr

theorem i64_step (n : Nat) (b : UInt8) (h : n < 16777216) : bits BinOp.or IntKind.i64 ((n : Int) * 256) ((b.toNat : Nat) : Int) = ((n * 256 + b.toNat : Nat) : Int) := by
  have hb := b.toNat_lt
  rw [show ((n : Int) * 256) = ((n * 256 : Nat) : Int) by omega, i64_or_nat _ _ (by omega) (by omega), or_mul _ n 8 256 (by decide) (by omega)]

set_option maxRecDepth 100000 in
set_option maxHeartbeats 1000000 in
theorem num_ok {c g : Nat} {C : Array Value} {T : TypeId} {fr : Nat × Nat} {st : Nat × List UInt8} (k : Nat) (w : World) (hk : k ≤ 4) (hg : w.heap[g]? = some (.cells C T fr)) (hgc : g ≠ c) (hR : RAt w c C g st) :
    Calls Try.prog 49 #[.pointer (some ⟨c, 0, none⟩), .int .i64 k] w fun e w' => e = .returned (.int .i64 ((rnum k st).1 : Nat)) ∧ RAt w' c C g (rnum k st).2 ∧ Fm c w w' := by
  have HR := Lib.hid hR
  have HG := Lib.hid hg
  clear hR hg
  go_enter Try.func49, Try.ntmps49
  go_wp2_with fail
  refine (take_any k w (by omega) HG.out hgc HR.out).mono ?_
  rintro e w1 ⟨u, bx, rfl, hbl, hs, hbe, hr, hf⟩
  obtain ⟨ad, cap, rfl⟩ := hs.len
  have HS := Lib.hid hs
  have HBE := Lib.hid hbe
  have HR1 := Lib.hid hr
  have HF := Lib.hid hf
  clear hs hbe hr hf
  go_wp2_with fail
  go_loop [5, 12] (fun n i => ∃ j : Nat, j ≤ bx.length ∧ i = .int .i64 j ∧ n = .int .i64 (be (bx.take j) : Nat)) (fun _ i => bx.length - (intOf i).toNat)
  case atStart => exact ⟨0, by omega, rfl, rfl⟩
  case round =>
    obtain ⟨j, hj, rfl, rfl⟩ := hrel
    by_cases hjn : j < bx.length
    · obtain ⟨B, hB⟩ : ∃ B, B = be (bx.take j) := ⟨_, rfl⟩
      have hBl : B < 16777216 := by
        have h := be_lt (bx.take j)
        rw [← hB, List.length_take, Nat.min_eq_left (by omega)] at h
        exact Nat.lt_of_lt_of_le h (Nat.pow_le_pow_right (by omega) (by omega : j ≤ 3))
      have hB2 : be (bx.take (j + 1)) = B * 256 + (bx[j]).toNat := by
        rw [List.take_add_one, List.getElem?_eq_getElem hjn, hB]
        show be (bx.take j ++ [bx[j]]) = _
        unfold be
        rw [List.foldl_append]
        rfl
      obtain ⟨x, rfl, hcx⟩ : ∃ x, ad = some x ∧ w1.cell? (x.add j) = some (by8 bx[j]) := by
        rcases HS.out with ⟨e, h⟩ | ⟨x, c', e, _, hc⟩
        · subst h; simp at hjn
        · simp only [Value.slice.injEq] at e
          exact ⟨x, e.1, hc j _ (by simp [List.getElem?_map, List.getElem?_eq_getElem hjn])⟩
      obtain ⟨b, hb⟩ : ∃ b, b = bx[j] := ⟨_, rfl⟩
      rw [← hb] at hcx hB2
      rw [← hB]
      have hst := i64_step B b (by omega)
      have hbl := b.toNat_lt
      have HST := Lib.hid hst
      have HB2 := Lib.hid hB2
      clear hst hB2 hB hb
      go_wp2_with fail
      exact ⟨⟨j + 1, by omega, by simp, by rw [HST.out, HB2.out]⟩, by simp [intOf]; omega⟩
    · have hjn' : j = bx.length := by omega
      subst hjn'
      rw [List.take_length, HBE.out]
      go_wp2_with fail
      go_ret
      exact ⟨rfl, HR1.out, HF.out⟩

/-- The code stays small: a reader's code is one of five. -/
theorem rnum_lt {k : Nat} {st : Nat × List UInt8} : (rnum k st).1 < 256 ^ k ∨ (rnum k st).1 = 0 := by
  unfold rnum
  split
  · exact .inr rfl
  · left
    have h := be_lt (st.2.take k)
    rw [List.length_take, Nat.min_eq_left (by omega)] at h
    exact h

set_option maxRecDepth 100000 in
set_option maxHeartbeats 2000000 in
theorem vec_ok {c g : Nat} {C : Array Value} {T : TypeId} {fr : Nat × Nat} {st : Nat × List UInt8} (k low high : Nat) (w : World) (hk : k ≤ 3) (hg : w.heap[g]? = some (.cells C T fr)) (hgc : g ≠ c) (hR : RAt w c C g st) :
    Calls Try.prog 51 #[.pointer (some ⟨c, 0, none⟩), .int .i64 k, .int .i64 low, .int .i64 high] w fun e w' => ∃ u, e = .returned u ∧ VN C g u (rvec k low high st).1 ∧ RAt w' c C g (rvec k low high st).2 ∧ Fm c w w' := by
  have HR := Lib.hid hR
  have HG := Lib.hid hg
  clear hR hg
  go_enter Try.func51, Try.ntmps51
  go_wp2_with fail
  refine (num_ok k w (by omega) HG.out hgc HR.out).mono ?_
  rintro e w1 ⟨rfl, hr, hf⟩
  obtain ⟨n, hn⟩ : ∃ n, n = (rnum k st).1 := ⟨_, rfl⟩
  obtain ⟨code, bs, hst⟩ : ∃ code bs, (rnum k st).2 = (code, bs) := ⟨_, _, rfl⟩
  rw [hst] at hr
  rw [← hn]
  obtain ⟨v, hh, hv⟩ := id hr
  obtain ⟨ad, cap, rfl, hcl, hcm⟩ := hv.len
  simp only at hh hv hcl
  have f0 : w1.cell? ⟨c, 0, none⟩ = some (.slice ad bs.length cap) := by rw [cell_of_heap hh]; rfl
  have f1 : w1.cell? ⟨c, 1, none⟩ = some (.int .i64 code) := by rw [cell_of_heap hh]; rfl
  have hv1 : rvec k low high st = if code ≠ 0 then ([], (code, bs)) else if bs.length < n then ([], (3, [])) else if n < low ∨ high < n then (bs.take n, (2, [])) else (bs.take n, (0, bs.drop n)) := by
    unfold rvec; rw [hst, ← hn]
  have HV := Lib.hid hv1
  have HR1 := Lib.hid hr
  have HF := Lib.hid hf
  have hg1 := (hf.keep g (lt_of_heap HG.out) hgc).trans HG.out
  have HG1 := Lib.hid hg1
  clear hv1 hr hf hg1 hh hv hst hn
  by_cases h0 : code = 0
  · subst h0
    by_cases h1 : (bs.length : Int) < (n : Int)
    · have e : rvec k low high st = ([], (3, [])) := by rw [HV.out, if_neg (by simp), if_pos (by omega)]
      go_wp2_with fail
      refine (fail_ok 3 w1 HR1.out).mono ?_
      rintro e w2 ⟨rfl, hr2, hf2⟩
      obtain ⟨v2, hh2, _⟩ := id hr2
      have f3 : w2.cell? ⟨c, 1, none⟩ = some (.int .i64 3) := by rw [cell_of_heap hh2]; rfl
      have HR2 := Lib.hid hr2
      have HF2 := Lib.hid (HF.out.trans hf2)
      have HE := Lib.hid e
      clear hr2 hf2 hh2 e
      go_wp2_with fail
      go_ret
      rw [HE.out]
      exact ⟨_, rfl, .inl ⟨rfl, rfl⟩, HR2.out, HF2.out⟩
    · go_wp2_with fail
      refine (take_yes n w1 (by omega) HR1.out).mono ?_
      rintro e w2 ⟨u, rfl, hv2, hr2, hf2⟩
      obtain ⟨au, cu, hu, _, _⟩ := hv2.len
      rw [show (bs.take n).length = n by simp; omega] at hu
      subst hu
      have HV2 := Lib.hid hv2
      have HR2 := Lib.hid hr2
      have HF2 := Lib.hid (HF.out.trans hf2)
      clear hv2 hr2 hf2
      by_cases h2 : (n : Int) < (low : Int)
      · have e : rvec k low high st = (bs.take n, (2, [])) := by rw [HV.out, if_neg (by simp), if_neg (by omega), if_pos (by omega)]
        have HE := Lib.hid e
        clear e
        go_wp2_with fail
        refine (fail_ok 2 w2 HR2.out).mono ?_
        rintro e w3 ⟨rfl, hr3, hf3⟩
        have HR3 := Lib.hid hr3
        have HF3 := Lib.hid (HF2.out.trans hf3)
        clear hr3 hf3
        go_wp2_with fail
        go_ret
        rw [HE.out]
        exact ⟨_, rfl, HV2.out, HR3.out, HF3.out⟩
      · by_cases h3 : (n : Int) > (high : Int)
        · have e : rvec k low high st = (bs.take n, (2, [])) := by rw [HV.out, if_neg (by simp), if_neg (by omega), if_pos (by omega)]
          have HE := Lib.hid e
          clear e
          go_wp2_with fail
          refine (fail_ok 2 w2 HR2.out).mono ?_
          rintro e w3 ⟨rfl, hr3, hf3⟩
          have HR3 := Lib.hid hr3
          have HF3 := Lib.hid (HF2.out.trans hf3)
          clear hr3 hf3
          go_wp2_with fail
          go_ret
          rw [HE.out]
          exact ⟨_, rfl, HV2.out, HR3.out, HF3.out⟩
        · have e : rvec k low high st = (bs.take n, (0, bs.drop n)) := by rw [HV.out, if_neg (by simp), if_neg (by omega), if_neg (by omega)]
          have HE := Lib.hid e
          clear e
          go_wp2_with fail
          go_ret
          rw [HE.out]
          exact ⟨_, rfl, HV2.out, HR2.out, HF2.out⟩
  · have h0' : ¬ ((code : Nat) : Int) = 0 := by omega
    have e : rvec k low high st = ([], (code, bs)) := by rw [HV.out, if_pos h0]
    have HE := Lib.hid e
    clear e
    go_wp2_with fail
    go_ret
    rw [HE.out]
    exact ⟨_, rfl, .inl ⟨rfl, rfl⟩, HR1.out, HF.out⟩

end Go.Proofs.Ytopcljikkdlffaa
namespace Go.Proofs.Ytopcljikkdlffaa
open Go.RowKit

/-- What is left alone: every block that was there but those listed. -/
structure Fs (l : List Nat) (w w' : World) : Prop where
  os : w'.os = w.os
  tape : w'.tape = w.tape
  output : w'.output = w.output
  size : w.heap.size ≤ w'.heap.size
  keep : ∀ k, k < w.heap.size → k ∉ l → w'.heap[k]? = w.heap[k]?

theorem Fs.refl (l : List Nat) (w : World) : Fs l w w := ⟨rfl, rfl, rfl, Nat.le_refl _, fun _ _ _ => rfl⟩
theorem Fs.trans {l : List Nat} {a b d : World} (h : Fs l a b) (k : Fs l b d) : Fs l a d :=
  ⟨k.os.trans h.os, k.tape.trans h.tape, k.output.trans h.output, Nat.le_trans h.size k.size, fun i hi hm => (k.keep i (Nat.lt_of_lt_of_le hi h.size) hm).trans (h.keep i hi hm)⟩
theorem Fs.mono {l l' : List Nat} {a b : World} (h : Fs l a b) (hl : ∀ x ∈ l, x ∈ l') : Fs l' a b := ⟨h.os, h.tape, h.output, h.size, fun k hk hn => h.keep k hk fun hm => hn (hl k hm)⟩
theorem Fm.fs {m : Nat} {l : List Nat} {a b : World} (h : Fm m a b) (hl : m ∈ l) : Fs l a b := ⟨h.os, h.tape, h.output, h.size, fun k hk hn => h.keep k hk fun e => hn (e ▸ hl)⟩
theorem Fs.fresh {l : List Nat} {a b : World} {p : Nat} (h : Fs (p :: l) a b) (hp : a.heap.size ≤ p) : Fs l a b :=
  ⟨h.os, h.tape, h.output, h.size, fun k hk hn => h.keep k hk fun hm => by
    rcases List.mem_cons.1 hm with e | e
    · omega
    · exact hn e⟩

theorem RAt.fs {w w' : World} {c g : Nat} {C : Array Value} {st : Nat × List UInt8} {l : List Nat} (h : RAt w c C g st) (hf : Fs l w w') (hc : c ∉ l) : RAt w' c C g st := by
  obtain ⟨v, hh, hv⟩ := h
  exact ⟨v, (hf.keep c (lt_of_heap hh) hc).trans hh, hv⟩

/-- Nothing may be left. -/
def rend (st : Nat × List UInt8) : Nat × List UInt8 := if st.2 = [] then st else rfail 3 st

/-- A part is done. -/
def rdone (st p : Nat × List UInt8) : Nat × List UInt8 := if (rend p).1 = 0 then st else rfail (rend p).1 st

set_option maxRecDepth 100000 in
set_option maxHeartbeats 400000 in
theorem end_ok {c g : Nat} {C : Array Value} {st : Nat × List UInt8} (w : World) (hR : RAt w c C g st) :
    Calls Try.prog 54 #[.pointer (some ⟨c, 0, none⟩)] w fun e w' => e = .returned (.tuple #[]) ∧ RAt w' c C g (rend st) ∧ Fm c w w' := by
  have HR := Lib.hid hR
  obtain ⟨v, hh, hv⟩ := hR
  obtain ⟨code, bs⟩ := st
  obtain ⟨a, cap, rfl, _, _⟩ := hv.len
  simp only at hh hv
  have f0 : w.cell? ⟨c, 0, none⟩ = some (.slice a bs.length cap) := by rw [cell_of_heap hh]; rfl
  clear hh hv
  unfold rend
  by_cases h0 : bs = []
  · subst h0
    go_enter Try.func54, Try.ntmps54
    go_wp2_with fail
    go_end0
    exact ⟨rfl, HR.out, Fm.refl _ _⟩
  · have h1 : (bs.length : Int) > 0 := by have := List.length_pos_iff.2 h0; omega
    go_enter Try.func54, Try.ntmps54
    go_wp2_with fail
    refine (fail_ok 3 w HR.out).mono ?_
    rintro e w1 ⟨rfl, hr, hf⟩
    have HR1 := Lib.hid hr
    have HF1 := Lib.hid hf
    clear hr hf
    go_wp2_with fail
    go_end0
    exact ⟨rfl, HR1.out, HF1.out⟩

set_option maxRecDepth 100000 in
set_option maxHeartbeats 400000 in
theorem within_ok {c g : Nat} {C : Array Value} {st : Nat × List UInt8} {u : Value} {bx : List UInt8} (w : World) (hu : VN C g u bx) (hR : RAt w c C g st) :
    Calls Try.prog 55 #[.pointer (some ⟨c, 0, none⟩), u] w fun e w' => e = .returned (.pointer (some ⟨w.heap.size, 0, none⟩)) ∧ RAt w' w.heap.size C g (st.1, if st.1 = 0 then bx else []) ∧ Fs [] w w' := by
  obtain ⟨v, hh, hv⟩ := hR
  obtain ⟨code, bs⟩ := st
  simp only at hh hv
  have f1 : w.cell? ⟨c, 1, none⟩ = some (.int .i64 code) := by rw [cell_of_heap hh]; rfl
  have HU := Lib.hid hu
  obtain ⟨a, cap, rfl, _, _⟩ := hu.len
  have hfs : ∀ o : Obj, Fs [] w (w.alloc o) := fun o => ⟨rfl, rfl, rfl, by simp, fun k hk _ => Below.heap_alloc _ _ _ hk⟩
  clear hh hv hu
  by_cases h0 : code = 0
  · subst h0
    go_enter Try.func55, Try.ntmps55
    go_wp2_with fail
    go_ret
    exact ⟨rfl, ⟨_, heap_alloc_new _ _, by simpa using HU.out⟩, hfs _⟩
  · have h0' : ¬ ((code : Nat) : Int) = 0 := by omega
    go_enter Try.func55, Try.ntmps55
    go_wp2_with fail
    go_ret
    exact ⟨rfl, ⟨_, heap_alloc_new _ _, .inl ⟨rfl, by simp [h0]⟩⟩, hfs _⟩

set_option maxRecDepth 100000 in
set_option maxHeartbeats 400000 in
theorem done_ok {c p g : Nat} {C : Array Value} {st sp : Nat × List UInt8} (w : World) (hcp : c ≠ p) (hR : RAt w c C g st) (hP : RAt w p C g sp) :
    Calls Try.prog 57 #[.pointer (some ⟨c, 0, none⟩), .pointer (some ⟨p, 0, none⟩)] w fun e w' => e = .returned (.tuple #[]) ∧ RAt w' c C g (rdone st sp) ∧ Fs [c, p] w w' := by
  have HR := Lib.hid hR
  have HP := Lib.hid hP
  clear hR hP
  go_enter Try.func57, Try.ntmps57
  go_wp2_with fail
  refine (end_ok w HP.out).mono ?_
  rintro e w1 ⟨rfl, hp1, hf1⟩
  have hr1 := HR.out.fs (hf1.fs (l := [p]) (by simp)) (by simpa using hcp)
  obtain ⟨v, hh, _⟩ := id hp1
  obtain ⟨code, hcode⟩ : ∃ code, code = (rend sp).1 := ⟨_, rfl⟩
  rw [← hcode] at hh
  have f1 : w1.cell? ⟨p, 1, none⟩ = some (.int .i64 code) := by rw [cell_of_heap hh]; rfl
  have HR1 := Lib.hid hr1
  have HF1 := Lib.hid (hf1.fs (l := [c, p]) (by simp))
  have HC := Lib.hid hcode
  clear hp1 hf1 hr1 hh hcode
  by_cases h0 : code = 0
  · subst h0
    go_wp2_with fail
    go_end0
    exact ⟨rfl, by unfold rdone; rw [← HC.out, if_pos rfl]; exact HR1.out, HF1.out⟩
  · have h0' : ¬ ((code : Nat) : Int) = 0 := by omega
    go_wp2_with fail
    refine (fail_ok code w1 HR1.out).mono ?_
    rintro e w2 ⟨rfl, hr2, hf2⟩
    have HR2 := Lib.hid hr2
    have HF2 := Lib.hid (HF1.out.trans (hf2.fs (by simp)))
    clear hr2 hf2
    go_wp2_with fail
    go_end0
    exact ⟨rfl, by unfold rdone; rw [← HC.out, if_neg h0]; exact HR2.out, HF2.out⟩

/-- All that is left. -/
def rrest (st : Nat × List UInt8) : List UInt8 × (Nat × List UInt8) := if st.2 = [] then ([], rfail 1 st) else (st.2, (st.1, []))

set_option maxRecDepth 100000 in
set_option maxHeartbeats 400000 in
theorem rest_ok {c g : Nat} {C : Array Value} {st : Nat × List UInt8} (w : World) (hR : RAt w c C g st) :
    Calls Try.prog 83 #[.pointer (some ⟨c, 0, none⟩)] w fun e w' => ∃ u, e = .returned u ∧ VN C g u (rrest st).1 ∧ RAt w' c C g (rrest st).2 ∧ Fm c w w' := by
  have HR := Lib.hid hR
  obtain ⟨v, hh, hv⟩ := hR
  obtain ⟨code, bs⟩ := st
  obtain ⟨a, cap, rfl, _, _⟩ := hv.len
  simp only at hh hv
  have f0 : w.cell? ⟨c, 0, none⟩ = some (.slice a bs.length cap) := by rw [cell_of_heap hh]; rfl
  clear hh hv
  by_cases h0 : bs = []
  · subst h0
    have e : rrest (code, []) = ([], rfail 1 (code, [])) := rfl
    rw [e]
    go_enter Try.func83, Try.ntmps83
    go_wp2_with fail
    refine (fail_ok 1 w HR.out).mono ?_
    rintro e w1 ⟨rfl, hr, hf⟩
    obtain ⟨v1, hh1, hv1⟩ := id hr
    have hnil : v1 = .slice none 0 0 ∨ ∃ x cap1, v1 = .slice (some x) 0 cap1 := by
      rcases hv1 with ⟨rfl, _⟩ | ⟨off, cap1, rfl, _⟩
      · exact .inl rfl
      · exact .inr ⟨_, cap1, rfl⟩
    obtain ⟨a1, cap1, rfl⟩ : ∃ a1 cap1, v1 = .slice a1 0 cap1 := by
      rcases hnil with rfl | ⟨x, cap1, rfl⟩
      · exact ⟨none, 0, rfl⟩
      · exact ⟨_, _, rfl⟩
    have f3 : w1.cell? ⟨c, 0, none⟩ = some (.slice a1 0 cap1) := by rw [cell_of_heap hh1]; rfl
    have HR1 := Lib.hid hr
    have HF1 := Lib.hid hf
    clear hr hf hh1 hv1 hnil
    go_wp2_with fail
    refine (take_yes 0 w1 (Nat.zero_le _) HR1.out).mono ?_
    rintro e w2 ⟨u, rfl, hu, hr2, hf2⟩
    have HU := Lib.hid hu
    have HR2 := Lib.hid hr2
    have HF2 := Lib.hid (HF1.out.trans hf2)
    clear hu hr2 hf2
    go_wp2_with fail
    go_ret
    exact ⟨_, rfl, HU.out, HR2.out, HF2.out⟩
  · have hl : ¬ ((bs.length : Nat) : Int) = 0 := by have := List.length_pos_iff.2 h0; omega
    have e : rrest (code, bs) = (bs, (code, [])) := by unfold rrest; rw [if_neg h0]
    rw [e]
    go_enter Try.func83, Try.ntmps83
    go_wp2_with fail
    refine (take_yes bs.length w (Nat.le_refl _) HR.out).mono ?_
    rintro e w2 ⟨u, rfl, hu, hr2, hf2⟩
    rw [List.take_length] at hu
    rw [List.drop_length] at hr2
    have HU := Lib.hid hu
    have HR2 := Lib.hid hr2
    have HF2 := Lib.hid hf2
    clear hu hr2 hf2
    go_wp2_with fail
    go_ret
    exact ⟨_, rfl, HU.out, HR2.out, HF2.out⟩

/-- A part: what was found, and its bytes. -/
def rin (st : Nat × List UInt8) (bx : List UInt8) : Nat × List UInt8 := (st.1, if st.1 = 0 then bx else [])

/-- A list of one protocol name. -/
def rprot (st : Nat × List UInt8) : List UInt8 × (Nat × List UInt8) :=
  ((rvec 1 1 255 (rin (rvec 2 2 65535 st).2 (rvec 2 2 65535 st).1)).1,
    rdone (rvec 2 2 65535 st).2 (if (rvec 1 1 255 (rin (rvec 2 2 65535 st).2 (rvec 2 2 65535 st).1)).2.1 = 0 ∧ (rvec 1 1 255 (rin (rvec 2 2 65535 st).2 (rvec 2 2 65535 st).1)).2.2 ≠ []
      then rfail 1 (rvec 1 1 255 (rin (rvec 2 2 65535 st).2 (rvec 2 2 65535 st).1)).2 else (rvec 1 1 255 (rin (rvec 2 2 65535 st).2 (rvec 2 2 65535 st).1)).2))

set_option maxRecDepth 100000 in
set_option maxHeartbeats 1000000 in
theorem prot_ok {c g : Nat} {C : Array Value} {T : TypeId} {fr : Nat × Nat} {st : Nat × List UInt8} (w : World) (hg : w.heap[g]? = some (.cells C T fr)) (hgc : g ≠ c) (hR : RAt w c C g st) :
    Calls Try.prog 81 #[.pointer (some ⟨c, 0, none⟩)] w fun e w' => e = .returned (.string ⟨(rprot st).1.toArray⟩) ∧ RAt w' c C g (rprot st).2 ∧ Fs [c] w w' := by
  have HR := Lib.hid hR
  have HG := Lib.hid hg
  have hcl : c < w.heap.size := by obtain ⟨v, hh, _⟩ := hR; exact lt_of_heap hh
  have hgl := lt_of_heap hg
  clear hR hg
  go_enter Try.func81, Try.ntmps81
  go_wp2_with fail
  refine (vec_ok 2 2 65535 w (by omega) HG.out hgc HR.out).mono ?_
  rintro e w1 ⟨u1, rfl, hv1, hr1, hf1⟩
  have HV1 := Lib.hid hv1
  obtain ⟨a1, c1, rfl, _, _⟩ := hv1.len
  have HR1 := Lib.hid hr1
  have HF1 := Lib.hid (hf1.fs (l := [c]) (by simp))
  have hs1 := hf1.size
  clear hv1 hr1 hf1
  go_wp2_with fail
  refine (within_ok w1 HV1.out HR1.out).mono ?_
  rintro e w2 ⟨rfl, hp2, hf2⟩
  have HP2 : Hid (RAt w2 w1.heap.size C g (rin (rvec 2 2 65535 st).2 (rvec 2 2 65535 st).1)) := hp2
  have hr2 := HR1.out.fs hf2 (by simp)
  have HR2 := Lib.hid hr2
  have HF2 := Lib.hid (HF1.out.trans (hf2.mono (l' := [c]) (by simp)))
  have HG2 := Lib.hid ((HF2.out.keep g hgl (by simpa using hgc)).trans HG.out)
  have hs2 := hf2.size
  clear hp2 hf2 hr2
  go_wp2_with fail
  refine (vec_ok 1 1 255 w2 (by omega) HG2.out (by omega) HP2.out).mono ?_
  rintro e w3 ⟨u3, rfl, hv3, hp3, hf3⟩
  obtain ⟨Y, hY⟩ : ∃ Y, Y = rvec 1 1 255 (rin (rvec 2 2 65535 st).2 (rvec 2 2 65535 st).1) := ⟨_, rfl⟩
  rw [← hY] at hv3 hp3
  have hprot : rprot st = (Y.1, rdone (rvec 2 2 65535 st).2 (if Y.2.1 = 0 ∧ Y.2.2 ≠ [] then rfail 1 Y.2 else Y.2)) := by unfold rprot; rw [← hY]
  have HPR := Lib.hid hprot
  clear hprot hY
  obtain ⟨nm, code, bs⟩ := Y
  simp only at hv3 hp3
  obtain ⟨a3, c3, rfl, _, _⟩ := hv3.len
  obtain ⟨v3, hh3, hx3⟩ := id hp3
  obtain ⟨a4, c4, rfl, _, _⟩ := hx3.len
  simp only at hh3
  have f0 : w3.cell? ⟨w1.heap.size, 0, none⟩ = some (.slice a4 bs.length c4) := by rw [cell_of_heap hh3]; rfl
  have f1 : w3.cell? ⟨w1.heap.size, 1, none⟩ = some (.int .i64 code) := by rw [cell_of_heap hh3]; rfl
  have HV3 := Lib.hid hv3
  have HP3 := Lib.hid hp3
  have hcp : c ≠ w1.heap.size := by omega
  have HR3 := Lib.hid (HR2.out.fs (hf3.fs (l := [w1.heap.size]) (by simp)) (by simpa using hcp))
  have HF3 := Lib.hid ((HF2.out.mono (l' := [w1.heap.size, c]) (by simp)).trans (hf3.fs (by simp)))
  clear hv3 hp3 hh3 hx3 hf3
  have hend : ∀ (w4 : World) (sp : Nat × List UInt8), RAt w4 c C g (rvec 2 2 65535 st).2 → RAt w4 w1.heap.size C g sp → Fs [w1.heap.size, c] w w4 → sp = (if code = 0 ∧ bs ≠ [] then rfail 1 (code, bs) else (code, bs)) →
      Calls Try.prog 57 #[.pointer (some ⟨c, 0, none⟩), .pointer (some ⟨w1.heap.size, 0, none⟩)] w4 fun e w5 => e = .returned (.tuple #[]) ∧ RAt w5 c C g (rprot st).2 ∧ Fs [c] w w5 ∧ (convert 22 9 (.slice a3 nm.length c3)).run Try.prog w5 = .ok (.string ⟨nm.toArray⟩) w5 := by
    intro w4 sp hr hp hf hsp
    refine (done_ok w4 hcp hr hp).mono ?_
    rintro e w5 ⟨rfl, hr5, hf5⟩
    have hf6 : Fs [c] w w5 := ((hf.trans (hf5.mono (by simp))).fresh hs1)
    refine ⟨rfl, by rw [HPR.out, ← hsp]; exact hr5, hf6, ?_⟩
    exact conv_ok (vn_src HV3.out ((hf6.keep g hgl (by simpa using hgc)).trans HG.out)).src
  have HEND := Lib.hid hend
  clear hend
  by_cases h0 : code = 0
  · subst h0
    by_cases h1 : bs = []
    · subst h1
      go_wp2_with fail
      refine (HEND.out w3 _ HR3.out HP3.out HF3.out (by simp)).mono ?_
      rintro e w5 ⟨rfl, hr5, hf5, hcv⟩
      have HR5 := Lib.hid hr5
      have HF5 := Lib.hid hf5
      clear hr5 hf5
      go_wp2_with fail
      go_ret
      exact ⟨by rw [HPR.out]; rfl, HR5.out, HF5.out⟩
    · have hl : ((bs.length : Nat) : Int) > 0 := by have := List.length_pos_iff.2 h1; omega
      go_wp2_with fail
      refine (fail_ok 1 w3 HP3.out).mono ?_
      rintro e w4 ⟨rfl, hp4, hf4⟩
      have HP4 := Lib.hid hp4
      have HR4 := Lib.hid (HR3.out.fs (hf4.fs (l := [w1.heap.size]) (by simp)) (by simpa using hcp))
      have HF4 := Lib.hid (HF3.out.trans (hf4.fs (by simp)))
      clear hp4 hf4
      go_wp2_with fail
      refine (HEND.out w4 _ HR4.out HP4.out HF4.out (by rw [if_pos ⟨trivial, h1⟩])).mono ?_
      rintro e w5 ⟨rfl, hr5, hf5, hcv⟩
      have HR5 := Lib.hid hr5
      have HF5 := Lib.hid hf5
      clear hr5 hf5
      go_wp2_with fail
      go_ret
      exact ⟨by rw [HPR.out]; rfl, HR5.out, HF5.out⟩
  · have h0' : ¬ ((code : Nat) : Int) = 0 := by omega
    go_wp2_with fail
    refine (HEND.out w3 _ HR3.out HP3.out HF3.out (by rw [if_neg (fun h => h0 h.1)])).mono ?_
    rintro e w5 ⟨rfl, hr5, hf5, hcv⟩
    have HR5 := Lib.hid hr5
    have HF5 := Lib.hid hf5
    clear hr5 hf5
    go_wp2_with fail
    go_ret
    exact ⟨by rw [HPR.out]; rfl, HR5.out, HF5.out⟩

end Go.Proofs.Ytopcljikkdlffaa
