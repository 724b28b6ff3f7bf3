/- UnmarshalClientHello of package tls, by value. No statement of the seat is proved here. -/
import Derived.Test.YtopcljikkdlffaaGreatX24
import Derived.Test.YtopcljikkdlffaaGreatX27
import Derived.Test.YtopcljikkdlffaaGreatX07
import Derived.Test.YtopcljikkdlffaaGreatX08
namespace Go.Proofs.YtopcljikkdlffaaGreat
open Go.RowKit

/-- A cell that shows nil shows a row without elements. -/
theorem Bn.nil {w0 w : World} {C : Array Value} {g m : Nat} {Bs : List (Nat × List FD)} {Ms : Option (Nat × List Nat)} (h : Bn w0 C g m Bs Ms w) {b p i : Nat} {F : List FD} (hb : Bs[b]? = some (p, F)) (hi : F[i]? = some (.val (.slice none 0 0))) (e size : Nat) (R : Value → List Value → Prop) (hR : R (.slice none 0 0) []) :
    Bn w0 C g m (Bs.set b (p, F.set i (.own e size 0 R))) Ms w := by
  have hv := h.val hb hi
  refine (h.store hb hi (.own e size 0 R) (.slice none 0 0) ⟨[], World.ownsRow_nil _ _ _ _, hR⟩ fun _ k hk => by cases hk).keep ⟨rfl, rfl, rfl, by simp [World.setCell], fun k hk _ => ?_⟩
  by_cases e1 : k = p
  · subst e1
    obtain ⟨D, T, hh, _⟩ := h.blk b _ F hb
    rw [heap_set_same hh, hh]
    rw [cell_of_heap hh] at hv
    congr 2
    apply Array.ext_getElem?
    intro j
    rw [Array.getElem?_setIfInBounds]
    by_cases e2 : i = j
    · subst e2
      rw [if_pos rfl, hv]
      split
      · rfl
      · rename_i hn
        rw [Array.getElem?_eq_none (by omega)] at hv
        cases hv
    · rw [if_neg e2]
  · exact (Below.heap_setCell _ _ _ k (fun e => e1 e)).symm

/-- A new block whose cells show their own values. -/
theorem Bn.vals {w0 w : World} {C : Array Value} {g m : Nat} {Bs : List (Nat × List FD)} {Ms : Option (Nat × List Nat)} (h : Bn w0 C g m Bs Ms w) (Z D : Array Value) (T : TypeId) : Bn w0 C g m (Bs ++ [(w.heap.size, D.toList.map FD.val)]) Ms ((w.alloc (.cells Z T)).setRow w.heap.size D) := by
  refine (h.add D T (D.toList.map FD.val) (by simp) fun i fd hi => ?_).keep ⟨rfl, rfl, rfl, by rw [size_setRow]; simp, fun k hk _ => ?_⟩
  · rw [List.getElem?_map] at hi
    obtain ⟨v, hv, rfl⟩ := Option.map_eq_some_iff.1 hi
    exact ⟨rfl, v, by rw [← Array.getElem?_toList]; exact hv, rfl⟩
  · by_cases e : k = w.heap.size
    · subst e
      rw [setRow_heap _ _ _ _ _ _ (heap_alloc_new w _), heap_alloc_new w _]
    · have hk' : k < w.heap.size := by rw [World.size_alloc] at hk; omega
      rw [setRow_other _ _ _ _ e, Below.heap_alloc w _ k hk', Below.heap_alloc w _ k hk']

/-- What a ClientHello of package tls shows by value. -/
def uV (C : Array Value) (g : Nat) (f : CH) : List FD := [.val (.int .u16 (f.vers : Nat)), .vn f.random, .vn f.session, .own 23 1 f.suites.length (ShowU f.suites), .vn f.comps,
  .val (.string ⟨f.name.toArray⟩), .val (.bool f.ocsp), .own 23 1 f.curves.length (ShowU f.curves), .vn f.points, .val (.bool f.ticket), .vn f.tickets,
  .own 23 1 f.sigs.length (ShowU f.sigs), .own 23 1 f.sigsC.length (ShowU f.sigsC), .val (.bool f.srs), .vn f.sr, .val (.bool f.ems), .own 9 1 f.alpn.length (ShowT f.alpn), .val (.bool f.scts),
  .own 23 1 f.vers13.length (ShowU f.vers13), .vn f.cookie, .own 23 1 (f.shares.map (·.1)).length (ShowU (f.shares.map (·.1))), .own 22 1 (f.shares.map (·.2)).length (ShowL C g (f.shares.map (·.2))), .val (.bool f.early), .vn f.modes,
  .own 22 1 (f.psks.map (·.1)).length (ShowL C g (f.psks.map (·.1))), .own 57 1 (f.psks.map (·.2)).length (ShowU4 (f.psks.map (·.2))), .own 22 1 f.binders.length (ShowL C g f.binders),
  .val (.bool f.quic.isSome), .own 5 1 (f.quic.getD []).length (ShowQ f.quic), .vn f.ech, .own 23 1 f.exts.length (ShowU f.exts)]

theorem uV_one {C : Array Value} {g : Nat} {f : CH} : (uV C g f).all fdOne = true := by
  simp only [uV, List.all_cons, List.all_nil]
  simp [fdOne, Value.oneCell']

/-- What reading leaves. -/
def UnPost (w : World) (C : Array Value) (g : Nat) (bs : List UInt8) (e : Ending) (w' : World) : Prop :=
  Below w.heap.size w w' ∧ ((chRead bs = none ∧ ∃ D : Array Value, e = .returned (.tuple #[.agg D, .bool false]) ∧ D.size = 31 ∧ D.all (·.oneCell') = true) ∨
    ∃ (f : CH) (D : Array Value) (base : Nat), chRead bs = some f ∧ e = .returned (.tuple #[.agg D, .bool true]) ∧ D.size = 31 ∧ D.all (·.oneCell') = true ∧ w.heap.size ≤ base ∧ ∀ (i : Nat) (fd : FD), (uV C g f)[i]? = some fd → ∃ x, D[i]? = some x ∧ FRel w' base C g fd x)

/-- The cells of a block whose cells are described. -/
theorem un_cells {W w : World} {C : Array Value} {g m cB : Nat} {F0 F1 : List FD} (hB : Bn W C g m [(m, F0), (cB, F1)] none w) (h31 : F1.length = 31) : ∃ (D : Array Value) (T : TypeId), w.heap[cB]? = some (.cells D T (0, 0)) ∧ D.size = 31 ∧ (∀ (i : Nat), D[i]? = w.cell? ⟨cB, i, none⟩) := by
  obtain ⟨D, T, hh, hs⟩ := hB.blk 1 cB F1 rfl
  exact ⟨D, T, hh, by rw [hs, h31], fun i => (cell_of_heap hh).symm⟩

set_option maxRecDepth 100000 in
theorem un_rel {W w2 w4 : World} {C : Array Value} {g r0 cB : Nat} {f : CH} {vv : Nat → Value} {D : Array Value} (hws : W.heap.size = r0 + 2)
    (hB : Bn W C g (r0 + 1) [(r0 + 1, chF C g f), (cB, unF C g vv (f.shares.map (·.1)) (f.shares.map (·.2)) (f.psks.map (·.1)) (f.psks.map (·.2)))] none w4) (hM : ∀ i, w4.cell? ⟨r0 + 1, i, none⟩ = w2.cell? ⟨r0 + 1, i, none⟩) (hD : ∀ (i : Nat), D[i]? = w4.cell? ⟨cB, i, none⟩)
    (hp : w2.cell? ⟨r0 + 1, 1, none⟩ = some (vv 0) ∧ w2.cell? ⟨r0 + 1, 2, none⟩ = some (vv 1) ∧ w2.cell? ⟨r0 + 1, 3, none⟩ = some (vv 2) ∧ w2.cell? ⟨r0 + 1, 4, none⟩ = some (vv 3) ∧ w2.cell? ⟨r0 + 1, 5, none⟩ = some (vv 4) ∧ w2.cell? ⟨r0 + 1, 6, none⟩ = some (vv 5) ∧ w2.cell? ⟨r0 + 1, 7, none⟩ = some (vv 6) ∧ w2.cell? ⟨r0 + 1, 8, none⟩ = some (vv 7) ∧ w2.cell? ⟨r0 + 1, 9, none⟩ = some (vv 8) ∧ w2.cell? ⟨r0 + 1, 10, none⟩ = some (vv 9) ∧ w2.cell? ⟨r0 + 1, 11, none⟩ = some (vv 10) ∧ w2.cell? ⟨r0 + 1, 12, none⟩ = some (vv 11) ∧ w2.cell? ⟨r0 + 1, 13, none⟩ = some (vv 12) ∧ w2.cell? ⟨r0 + 1, 14, none⟩ = some (vv 13) ∧ w2.cell? ⟨r0 + 1, 15, none⟩ = some (vv 14) ∧ w2.cell? ⟨r0 + 1, 16, none⟩ = some (vv 15) ∧ w2.cell? ⟨r0 + 1, 17, none⟩ = some (vv 16) ∧ w2.cell? ⟨r0 + 1, 18, none⟩ = some (vv 17) ∧ w2.cell? ⟨r0 + 1, 19, none⟩ = some (vv 18) ∧ w2.cell? ⟨r0 + 1, 20, none⟩ = some (vv 19) ∧ w2.cell? ⟨r0 + 1, 22, none⟩ = some (vv 22) ∧ w2.cell? ⟨r0 + 1, 23, none⟩ = some (vv 23) ∧ w2.cell? ⟨r0 + 1, 25, none⟩ = some (vv 26) ∧ w2.cell? ⟨r0 + 1, 26, none⟩ = some (vv 28) ∧ w2.cell? ⟨r0 + 1, 27, none⟩ = some (vv 29) ∧ w2.cell? ⟨r0 + 1, 28, none⟩ = some (vv 30) ∧ vv 27 = .bool f.quic.isSome) : ∀ (i : Nat) (fd : FD), (uV C g f)[i]? = some fd → ∃ x, D[i]? = some x ∧ FRel w4 (r0 + 2) C g fd x := by
  obtain ⟨p_vers, p_random, p_session, p_suites, p_comps, p_name, p_ocsp, p_curves, p_points, p_ticket, p_tickets, p_sigs, p_sigsC, p_srs, p_sr, p_ems, p_alpn, p_scts, p_vers13, p_cookie, p_early, p_modes, p_binders, p_quic, p_ech, p_exts, p_hasq⟩ := hp
  have own : ∀ (i : Nat) (fd : FD), (unF C g vv (f.shares.map (·.1)) (f.shares.map (·.2)) (f.psks.map (·.1)) (f.psks.map (·.2)))[i]? = some fd → ∃ x, D[i]? = some x ∧ FRel w4 (r0 + 2) C g fd x := fun i fd hi => by
    obtain ⟨x, hx, hr⟩ := hB.rel 1 cB _ i fd rfl hi
    exact ⟨x, (hD i).trans hx, by rw [← hws]; exact hr⟩
  have val : ∀ (i : Nat) (y : Value), (unF C g vv (f.shares.map (·.1)) (f.shares.map (·.2)) (f.psks.map (·.1)) (f.psks.map (·.2)))[i]? = some (.val y) → D[i]? = some y := fun i y hi => by
    obtain ⟨x, hx, hr⟩ := own i _ hi
    rw [hx]; exact congrArg some hr
  have from_ : ∀ (s i : Nat) (fd : FD), (chF C g f)[s]? = some fd → D[i]? = some (vv i) → w2.cell? ⟨r0 + 1, s, none⟩ = some (vv i) → ∃ x, D[i]? = some x ∧ FRel w4 (r0 + 2) C g fd x := fun s i fd hi hd hp => by
    obtain ⟨x, hx, hr⟩ := hB.rel 0 (r0 + 1) _ s fd rfl hi
    rw [(hM s).trans hp] at hx
    cases hx
    exact ⟨_, hd, by rw [← hws]; exact hr⟩
  intro i fd hi
  match i, hi with
  | 0, hi => cases hi; exact from_ 1 0 _ rfl (val 0 _ rfl) p_vers
  | 1, hi => cases hi; exact from_ 2 1 _ rfl (val 1 _ rfl) p_random
  | 2, hi => cases hi; exact from_ 3 2 _ rfl (val 2 _ rfl) p_session
  | 3, hi => cases hi; exact from_ 4 3 _ rfl (val 3 _ rfl) p_suites
  | 4, hi => cases hi; exact from_ 5 4 _ rfl (val 4 _ rfl) p_comps
  | 5, hi => cases hi; exact from_ 6 5 _ rfl (val 5 _ rfl) p_name
  | 6, hi => cases hi; exact from_ 7 6 _ rfl (val 6 _ rfl) p_ocsp
  | 7, hi => cases hi; exact from_ 8 7 _ rfl (val 7 _ rfl) p_curves
  | 8, hi => cases hi; exact from_ 9 8 _ rfl (val 8 _ rfl) p_points
  | 9, hi => cases hi; exact from_ 10 9 _ rfl (val 9 _ rfl) p_ticket
  | 10, hi => cases hi; exact from_ 11 10 _ rfl (val 10 _ rfl) p_tickets
  | 11, hi => cases hi; exact from_ 12 11 _ rfl (val 11 _ rfl) p_sigs
  | 12, hi => cases hi; exact from_ 13 12 _ rfl (val 12 _ rfl) p_sigsC
  | 13, hi => cases hi; exact from_ 14 13 _ rfl (val 13 _ rfl) p_srs
  | 14, hi => cases hi; exact from_ 15 14 _ rfl (val 14 _ rfl) p_sr
  | 15, hi => cases hi; exact from_ 16 15 _ rfl (val 15 _ rfl) p_ems
  | 16, hi => cases hi; exact from_ 17 16 _ rfl (val 16 _ rfl) p_alpn
  | 17, hi => cases hi; exact from_ 18 17 _ rfl (val 17 _ rfl) p_scts
  | 18, hi => cases hi; exact from_ 19 18 _ rfl (val 18 _ rfl) p_vers13
  | 19, hi => cases hi; exact from_ 20 19 _ rfl (val 19 _ rfl) p_cookie
  | 20, hi => cases hi; exact own 20 _ rfl
  | 21, hi => cases hi; exact own 21 _ rfl
  | 22, hi => cases hi; exact from_ 22 22 _ rfl (val 22 _ rfl) p_early
  | 23, hi => cases hi; exact from_ 23 23 _ rfl (val 23 _ rfl) p_modes
  | 24, hi => cases hi; exact own 24 _ rfl
  | 25, hi => cases hi; exact own 25 _ rfl
  | 26, hi => cases hi; exact from_ 25 26 _ rfl (val 26 _ rfl) p_binders
  | 27, hi => cases hi; exact ⟨_, val 27 _ rfl, p_hasq⟩
  | 28, hi => cases hi; exact from_ 26 28 _ rfl (val 28 _ rfl) p_quic
  | 29, hi => cases hi; exact from_ 27 29 _ rfl (val 29 _ rfl) p_ech
  | 30, hi => cases hi; exact from_ 28 30 _ rfl (val 30 _ rfl) p_exts
  | _ + 31, hi => simp [uV] at hi

set_option maxRecDepth 100000 in
set_option maxHeartbeats 8000000 in
theorem chu_tls {C : Array Value} {g : Nat} {T : TypeId} {fr : Nat × Nat} {v : Value} {bs : List UInt8} (w : World) (hg : w.heap[g]? = some (.cells C T fr)) (hV : View C g v bs) (hbs : bs.length ≤ 4294967295) :
    Calls Tryz.prog 8 #[v] w (UnPost w C g bs) := by
  obtain ⟨off, cap, rfl, hcl⟩ := hV.slice
  have HV := Lib.hid hV
  have hgl := lt_of_heap hg
  obtain ⟨r0, hr0⟩ : ∃ x, x = w.heap.size := ⟨_, rfl⟩
  obtain ⟨W, hW⟩ : ∃ x, x = (w.alloc (.cells zero31 37)).alloc (.cells (zero29 (.slice none 0 0)) 54) := ⟨_, rfl⟩
  have hWs : W.heap.size = r0 + 2 := by rw [hW, hr0]; simp
  have HZ : Hid (W.heap[r0]? = some (.cells zero31 37 (0, 0))) := by rw [hW, hr0]; exact heap_push (heap_alloc_new _ _)
  have hM : W.heap[r0 + 1]? = some (.cells (zero29 (.slice none 0 0)) 54 (0, 0)) := by
    have h := heap_alloc_new (w.alloc (.cells zero31 37)) (.cells (zero29 (.slice none 0 0)) 54)
    rw [World.size_alloc] at h
    rw [hW, hr0]; exact h
  have hf : Fs [] w W := by rw [hW]; exact ((Fs.refl [] w).push _).push _
  have HF := Lib.hid hf
  have HGW := Lib.hid ((hf.keep g hgl (by simp)).trans hg)
  have HM := Lib.hid hM
  have HW := Lib.hid hW
  have HR0 := Lib.hid hr0
  have HWS := Lib.hid hWs
  have hgr : g < r0 := by omega
  clear hV hg hW hM hf hWs
  go_enter Tryz.func8, Tryz.ntmps8
  go_wp2_with fail
  change Calls _ _ _ ((w.alloc (.cells zero31 37)).alloc (.cells (zero29 (.slice none 0 0)) 54)) _
  rw [← HW.out, ← HR0.out]
  clear hr0
  refine (ch_unmarshal (m := r0 + 1) (g := g) W HM.out HGW.out (by omega) HV.out hbs).mono ?_
  rintro e w1 (⟨hno, rfl, hf1⟩ | ⟨f, hyes, rfl, hb⟩)
  · have HN := Lib.hid hno
    have HZ1 : Hid (w1.heap[r0]? = some (.cells zero31 37 (0, 0))) := Lib.hid ((hf1.keep r0 (by have := HWS.out; omega) (by simp)).trans HZ.out)
    have HF1 : Hid (Fs [r0 + 1] w w1) := Lib.hid ((HF.out.mono (by simp)).trans hf1)
    clear hno hf1
    go_upto_region 3 with fail
    apply wp_region_lit
    iterate 6 (first | (refine wpList_store_row rfl 37 (.tmp 2) (.tmp 15) rfl r0 zero31 rfl rfl 37 zero31 HZ1.out (by kernel_rfl) rfl (by simp [zero31, Value.oneCell']) ?_) | go_step)
    go_wp2_with fail
    refine ret_row_tmp (.bool false) rfl r0 37 zero31 (0, 0) _ rfl rfl (setRow_heap _ _ _ _ _ _ HZ1.out) Tryz.underlying37 rfl (by kernel_rfl) rfl ?_
    refine ⟨?_, .inl ⟨HN.out, zero31, rfl, rfl, by simp [zero31, Value.oneCell']⟩⟩
    have h := fs_bel (HF1.out.mono (l' := [r0, r0 + 1]) (by simp)) (by have := HR0.out; simp; omega)
    exact below_setRow h (by have := HR0.out; omega) _
  · have HY := Lib.hid hyes
    have HB := Lib.hid hb
    have hb1 := hb.fs.size
    clear hyes
    have q_vers := hb.val (b := 0) (i := 1) rfl rfl
    obtain ⟨v_random, q_random, h_random⟩ := hb.vn (b := 0) (i := 2) rfl rfl
    obtain ⟨a_random, c_random, rfl, _⟩ := h_random.len
    clear h_random
    obtain ⟨v_session, q_session, h_session⟩ := hb.vn (b := 0) (i := 3) rfl rfl
    obtain ⟨a_session, c_session, rfl, _⟩ := h_session.len
    clear h_session
    obtain ⟨v_suites, us_suites, q_suites, h_suites, _⟩ := hb.own (b := 0) (i := 4) rfl rfl
    obtain ⟨a_suites, c_suites, rfl⟩ := row_slice h_suites
    clear h_suites
    obtain ⟨v_comps, q_comps, h_comps⟩ := hb.vn (b := 0) (i := 5) rfl rfl
    obtain ⟨a_comps, c_comps, rfl, _⟩ := h_comps.len
    clear h_comps
    have q_name := hb.val (b := 0) (i := 6) rfl rfl
    have q_ocsp := hb.val (b := 0) (i := 7) rfl rfl
    obtain ⟨v_curves, us_curves, q_curves, h_curves, _⟩ := hb.own (b := 0) (i := 8) rfl rfl
    obtain ⟨a_curves, c_curves, rfl⟩ := row_slice h_curves
    clear h_curves
    obtain ⟨v_points, q_points, h_points⟩ := hb.vn (b := 0) (i := 9) rfl rfl
    obtain ⟨a_points, c_points, rfl, _⟩ := h_points.len
    clear h_points
    have q_ticket := hb.val (b := 0) (i := 10) rfl rfl
    obtain ⟨v_tickets, q_tickets, h_tickets⟩ := hb.vn (b := 0) (i := 11) rfl rfl
    obtain ⟨a_tickets, c_tickets, rfl, _⟩ := h_tickets.len
    clear h_tickets
    obtain ⟨v_sigs, us_sigs, q_sigs, h_sigs, _⟩ := hb.own (b := 0) (i := 12) rfl rfl
    obtain ⟨a_sigs, c_sigs, rfl⟩ := row_slice h_sigs
    clear h_sigs
    obtain ⟨v_sigsC, us_sigsC, q_sigsC, h_sigsC, _⟩ := hb.own (b := 0) (i := 13) rfl rfl
    obtain ⟨a_sigsC, c_sigsC, rfl⟩ := row_slice h_sigsC
    clear h_sigsC
    have q_srs := hb.val (b := 0) (i := 14) rfl rfl
    obtain ⟨v_sr, q_sr, h_sr⟩ := hb.vn (b := 0) (i := 15) rfl rfl
    obtain ⟨a_sr, c_sr, rfl, _⟩ := h_sr.len
    clear h_sr
    have q_ems := hb.val (b := 0) (i := 16) rfl rfl
    obtain ⟨v_alpn, us_alpn, q_alpn, h_alpn, _⟩ := hb.own (b := 0) (i := 17) rfl rfl
    obtain ⟨a_alpn, c_alpn, rfl⟩ := row_slice h_alpn
    clear h_alpn
    have q_scts := hb.val (b := 0) (i := 18) rfl rfl
    obtain ⟨v_vers13, us_vers13, q_vers13, h_vers13, _⟩ := hb.own (b := 0) (i := 19) rfl rfl
    obtain ⟨a_vers13, c_vers13, rfl⟩ := row_slice h_vers13
    clear h_vers13
    obtain ⟨v_cookie, q_cookie, h_cookie⟩ := hb.vn (b := 0) (i := 20) rfl rfl
    obtain ⟨a_cookie, c_cookie, rfl, _⟩ := h_cookie.len
    clear h_cookie
    have q_early := hb.val (b := 0) (i := 22) rfl rfl
    obtain ⟨v_modes, q_modes, h_modes⟩ := hb.vn (b := 0) (i := 23) rfl rfl
    obtain ⟨a_modes, c_modes, rfl, _⟩ := h_modes.len
    clear h_modes
    obtain ⟨v_binders, us_binders, q_binders, h_binders, _⟩ := hb.own (b := 0) (i := 25) rfl rfl
    obtain ⟨a_binders, c_binders, rfl⟩ := row_slice h_binders
    clear h_binders
    obtain ⟨v_quic, us_quic, q_quic, h_quic, r_quic⟩ := hb.own (b := 0) (i := 26) rfl rfl
    obtain ⟨a_quic, c_quic, rfl⟩ := row_slice h_quic
    have HQS : Hid (a_quic.isSome = f.quic.isSome) := Lib.hid (by obtain ⟨_, a, n, c, e, h⟩ := r_quic; simp only [Value.slice.injEq] at e; rw [e.1]; exact h)
    clear h_quic r_quic
    obtain ⟨v_ech, q_ech, h_ech⟩ := hb.vn (b := 0) (i := 27) rfl rfl
    obtain ⟨a_ech, c_ech, rfl, _⟩ := h_ech.len
    clear h_ech
    obtain ⟨v_exts, us_exts, q_exts, h_exts, _⟩ := hb.own (b := 0) (i := 28) rfl rfl
    obtain ⟨a_exts, c_exts, rfl⟩ := row_slice h_exts
    clear h_exts
    obtain ⟨cB, hcB⟩ : ∃ x, x = w1.heap.size := ⟨_, rfl⟩
    have hml : r0 + 1 < w1.heap.size := hb.lt (b := 0) rfl
    have hone : (#[.int .u16 (f.vers : Nat), .slice a_random f.random.length c_random, .slice a_session f.session.length c_session, .slice a_suites f.suites.length c_suites, .slice a_comps f.comps.length c_comps, .string ⟨f.name.toArray⟩, .bool f.ocsp, .slice a_curves f.curves.length c_curves, .slice a_points f.points.length c_points, .bool f.ticket, .slice a_tickets f.tickets.length c_tickets, .slice a_sigs f.sigs.length c_sigs, .slice a_sigsC f.sigsC.length c_sigsC, .bool f.srs, .slice a_sr f.sr.length c_sr, .bool f.ems, .slice a_alpn f.alpn.length c_alpn, .bool f.scts, .slice a_vers13 f.vers13.length c_vers13, .slice a_cookie f.cookie.length c_cookie, .slice none 0 0, .slice none 0 0, .bool f.early, .slice a_modes f.modes.length c_modes, .slice none 0 0, .slice none 0 0, .slice a_binders f.binders.length c_binders, .bool a_quic.isSome, .slice a_quic (f.quic.getD []).length c_quic, .slice a_ech f.ech.length c_ech, .slice a_exts f.exts.length c_exts] : Array Value).all (·.oneCell') = true := by
      simp [Value.oneCell']
    have HONE := Lib.hid hone
    clear hone hb
    go_wp2_with fail
    try simp only [List.append_eq, List.cons_append, List.nil_append]
    refine region_line 16 110 [(110, false), (111, false)] (fun w' => w'.cell? ⟨r0 + 1, 1, none⟩ = some (.int .u16 (f.vers : Nat)) ∧ w'.cell? ⟨r0 + 1, 2, none⟩ = some (.slice a_random f.random.length c_random) ∧ w'.cell? ⟨r0 + 1, 3, none⟩ = some (.slice a_session f.session.length c_session) ∧ w'.cell? ⟨r0 + 1, 4, none⟩ = some (.slice a_suites f.suites.length c_suites) ∧ w'.cell? ⟨r0 + 1, 5, none⟩ = some (.slice a_comps f.comps.length c_comps) ∧ w'.cell? ⟨r0 + 1, 6, none⟩ = some (.string ⟨f.name.toArray⟩) ∧ w'.cell? ⟨r0 + 1, 7, none⟩ = some (.bool f.ocsp) ∧ w'.cell? ⟨r0 + 1, 8, none⟩ = some (.slice a_curves f.curves.length c_curves) ∧ w'.cell? ⟨r0 + 1, 9, none⟩ = some (.slice a_points f.points.length c_points) ∧ w'.cell? ⟨r0 + 1, 10, none⟩ = some (.bool f.ticket) ∧ w'.cell? ⟨r0 + 1, 11, none⟩ = some (.slice a_tickets f.tickets.length c_tickets) ∧ w'.cell? ⟨r0 + 1, 12, none⟩ = some (.slice a_sigs f.sigs.length c_sigs) ∧ w'.cell? ⟨r0 + 1, 13, none⟩ = some (.slice a_sigsC f.sigsC.length c_sigsC) ∧ w'.cell? ⟨r0 + 1, 14, none⟩ = some (.bool f.srs) ∧ w'.cell? ⟨r0 + 1, 15, none⟩ = some (.slice a_sr f.sr.length c_sr) ∧ w'.cell? ⟨r0 + 1, 16, none⟩ = some (.bool f.ems) ∧ w'.cell? ⟨r0 + 1, 17, none⟩ = some (.slice a_alpn f.alpn.length c_alpn) ∧ w'.cell? ⟨r0 + 1, 18, none⟩ = some (.bool f.scts) ∧ w'.cell? ⟨r0 + 1, 19, none⟩ = some (.slice a_vers13 f.vers13.length c_vers13) ∧ w'.cell? ⟨r0 + 1, 20, none⟩ = some (.slice a_cookie f.cookie.length c_cookie) ∧ w'.cell? ⟨r0 + 1, 22, none⟩ = some (.bool f.early) ∧ w'.cell? ⟨r0 + 1, 23, none⟩ = some (.slice a_modes f.modes.length c_modes) ∧ w'.cell? ⟨r0 + 1, 25, none⟩ = some (.slice a_binders f.binders.length c_binders) ∧ w'.cell? ⟨r0 + 1, 26, none⟩ = some (.slice a_quic (f.quic.getD []).length c_quic) ∧ w'.cell? ⟨r0 + 1, 27, none⟩ = some (.slice a_ech f.ech.length c_ech) ∧ w'.cell? ⟨r0 + 1, 28, none⟩ = some (.slice a_exts f.exts.length c_exts)) mixed (by kernel_rfl) rfl (by kernel_rfl) (by kernel_rfl) (by rfl) (by intro c a d v w h; cases d <;> exact h) ⟨q_vers, q_random, q_session, q_suites, q_comps, q_name, q_ocsp, q_curves, q_points, q_ticket, q_tickets, q_sigs, q_sigsC, q_srs, q_sr, q_ems, q_alpn, q_scts, q_vers13, q_cookie, q_early, q_modes, q_binders, q_quic, q_ech, q_exts⟩ ?_
    simp only [List.take_succ_cons, List.take_zero]
    iterate 109 (apply Exists.intro; refine ⟨fun w' hS => ?_, ?_⟩; (· (first | (go_simp; done) | (go_simp; with_reducible rfl))); simp only [Act.put, List.setIfInBounds_toArray, List.set_cons_zero, List.set_cons_succ])
    refine ⟨.agg #[.int .u16 (f.vers : Nat), .slice a_random f.random.length c_random, .slice a_session f.session.length c_session, .slice a_suites f.suites.length c_suites, .slice a_comps f.comps.length c_comps, .string ⟨f.name.toArray⟩, .bool f.ocsp, .slice a_curves f.curves.length c_curves, .slice a_points f.points.length c_points, .bool f.ticket, .slice a_tickets f.tickets.length c_tickets, .slice a_sigs f.sigs.length c_sigs, .slice a_sigsC f.sigsC.length c_sigsC, .bool f.srs, .slice a_sr f.sr.length c_sr, .bool f.ems, .slice a_alpn f.alpn.length c_alpn, .bool f.scts, .slice a_vers13 f.vers13.length c_vers13, .slice a_cookie f.cookie.length c_cookie, .slice none 0 0, .slice none 0 0, .bool f.early, .slice a_modes f.modes.length c_modes, .slice none 0 0, .slice none 0 0, .slice a_binders f.binders.length c_binders, .bool a_quic.isSome, .slice a_quic (f.quic.getD []).length c_quic, .slice a_ech f.ech.length c_ech, .slice a_exts f.exts.length c_exts], fun w' _ => exec_build 37 _ _ rfl (by kernel_rfl), ?_⟩
    simp only [Act.put, List.setIfInBounds_toArray, List.set_cons_zero, List.set_cons_succ]
    show wpOrd _ _ _ _ _ _ _
    refine wpOrd_run rfl rfl (fun K hK => ?_)
    go_simp
    refine hK _ _ (fun _ => ⟨(World.cell?_alloc_lt _ _ _ hml).trans q_vers, (World.cell?_alloc_lt _ _ _ hml).trans q_random, (World.cell?_alloc_lt _ _ _ hml).trans q_session, (World.cell?_alloc_lt _ _ _ hml).trans q_suites, (World.cell?_alloc_lt _ _ _ hml).trans q_comps, (World.cell?_alloc_lt _ _ _ hml).trans q_name, (World.cell?_alloc_lt _ _ _ hml).trans q_ocsp, (World.cell?_alloc_lt _ _ _ hml).trans q_curves, (World.cell?_alloc_lt _ _ _ hml).trans q_points, (World.cell?_alloc_lt _ _ _ hml).trans q_ticket, (World.cell?_alloc_lt _ _ _ hml).trans q_tickets, (World.cell?_alloc_lt _ _ _ hml).trans q_sigs, (World.cell?_alloc_lt _ _ _ hml).trans q_sigsC, (World.cell?_alloc_lt _ _ _ hml).trans q_srs, (World.cell?_alloc_lt _ _ _ hml).trans q_sr, (World.cell?_alloc_lt _ _ _ hml).trans q_ems, (World.cell?_alloc_lt _ _ _ hml).trans q_alpn, (World.cell?_alloc_lt _ _ _ hml).trans q_scts, (World.cell?_alloc_lt _ _ _ hml).trans q_vers13, (World.cell?_alloc_lt _ _ _ hml).trans q_cookie, (World.cell?_alloc_lt _ _ _ hml).trans q_early, (World.cell?_alloc_lt _ _ _ hml).trans q_modes, (World.cell?_alloc_lt _ _ _ hml).trans q_binders, (World.cell?_alloc_lt _ _ _ hml).trans q_quic, (World.cell?_alloc_lt _ _ _ hml).trans q_ech, (World.cell?_alloc_lt _ _ _ hml).trans q_exts⟩) ?_
    clear hK K
    refine wpOrd_last rfl rfl (by kernel_rfl) (fun K hK => ?_)
    refine wp_store_row 37 (.tmp 5) (.tmp 125) rfl w1.heap.size #[.int .u16 (f.vers : Nat), .slice a_random f.random.length c_random, .slice a_session f.session.length c_session, .slice a_suites f.suites.length c_suites, .slice a_comps f.comps.length c_comps, .string ⟨f.name.toArray⟩, .bool f.ocsp, .slice a_curves f.curves.length c_curves, .slice a_points f.points.length c_points, .bool f.ticket, .slice a_tickets f.tickets.length c_tickets, .slice a_sigs f.sigs.length c_sigs, .slice a_sigsC f.sigsC.length c_sigsC, .bool f.srs, .slice a_sr f.sr.length c_sr, .bool f.ems, .slice a_alpn f.alpn.length c_alpn, .bool f.scts, .slice a_vers13 f.vers13.length c_vers13, .slice a_cookie f.cookie.length c_cookie, .slice none 0 0, .slice none 0 0, .bool f.early, .slice a_modes f.modes.length c_modes, .slice none 0 0, .slice none 0 0, .slice a_binders f.binders.length c_binders, .bool a_quic.isSome, .slice a_quic (f.quic.getD []).length c_quic, .slice a_ech f.ech.length c_ech, .slice a_exts f.exts.length c_exts] rfl rfl 37 zero31 (heap_alloc_new w1.drew _) (by kernel_rfl) rfl HONE.out ?_
    have hb2 := HB.out.drew.vals zero31 #[.int .u16 (f.vers : Nat), .slice a_random f.random.length c_random, .slice a_session f.session.length c_session, .slice a_suites f.suites.length c_suites, .slice a_comps f.comps.length c_comps, .string ⟨f.name.toArray⟩, .bool f.ocsp, .slice a_curves f.curves.length c_curves, .slice a_points f.points.length c_points, .bool f.ticket, .slice a_tickets f.tickets.length c_tickets, .slice a_sigs f.sigs.length c_sigs, .slice a_sigsC f.sigsC.length c_sigsC, .bool f.srs, .slice a_sr f.sr.length c_sr, .bool f.ems, .slice a_alpn f.alpn.length c_alpn, .bool f.scts, .slice a_vers13 f.vers13.length c_vers13, .slice a_cookie f.cookie.length c_cookie, .slice none 0 0, .slice none 0 0, .bool f.early, .slice a_modes f.modes.length c_modes, .slice none 0 0, .slice none 0 0, .slice a_binders f.binders.length c_binders, .bool a_quic.isSome, .slice a_quic (f.quic.getD []).length c_quic, .slice a_ech f.ech.length c_ech, .slice a_exts f.exts.length c_exts] 37
    have hq2 : ∀ (i : Nat) (x : Value), w1.cell? ⟨r0 + 1, i, none⟩ = some x → ((w1.drew.alloc (.cells zero31 37)).setRow w1.heap.size #[.int .u16 (f.vers : Nat), .slice a_random f.random.length c_random, .slice a_session f.session.length c_session, .slice a_suites f.suites.length c_suites, .slice a_comps f.comps.length c_comps, .string ⟨f.name.toArray⟩, .bool f.ocsp, .slice a_curves f.curves.length c_curves, .slice a_points f.points.length c_points, .bool f.ticket, .slice a_tickets f.tickets.length c_tickets, .slice a_sigs f.sigs.length c_sigs, .slice a_sigsC f.sigsC.length c_sigsC, .bool f.srs, .slice a_sr f.sr.length c_sr, .bool f.ems, .slice a_alpn f.alpn.length c_alpn, .bool f.scts, .slice a_vers13 f.vers13.length c_vers13, .slice a_cookie f.cookie.length c_cookie, .slice none 0 0, .slice none 0 0, .bool f.early, .slice a_modes f.modes.length c_modes, .slice none 0 0, .slice none 0 0, .slice a_binders f.binders.length c_binders, .bool a_quic.isSome, .slice a_quic (f.quic.getD []).length c_quic, .slice a_ech f.ech.length c_ech, .slice a_exts f.exts.length c_exts]).cell? ⟨r0 + 1, i, none⟩ = some x := fun i x h => (cell_setRow_other _ _ _ _ (by show r0 + 1 ≠ w1.heap.size; omega)).trans ((World.cell?_alloc_lt _ _ _ hml).trans h)
    obtain ⟨w2, hw2⟩ : ∃ x, x = (w1.drew.alloc (.cells zero31 37)).setRow w1.heap.size #[.int .u16 (f.vers : Nat), .slice a_random f.random.length c_random, .slice a_session f.session.length c_session, .slice a_suites f.suites.length c_suites, .slice a_comps f.comps.length c_comps, .string ⟨f.name.toArray⟩, .bool f.ocsp, .slice a_curves f.curves.length c_curves, .slice a_points f.points.length c_points, .bool f.ticket, .slice a_tickets f.tickets.length c_tickets, .slice a_sigs f.sigs.length c_sigs, .slice a_sigsC f.sigsC.length c_sigsC, .bool f.srs, .slice a_sr f.sr.length c_sr, .bool f.ems, .slice a_alpn f.alpn.length c_alpn, .bool f.scts, .slice a_vers13 f.vers13.length c_vers13, .slice a_cookie f.cookie.length c_cookie, .slice none 0 0, .slice none 0 0, .bool f.early, .slice a_modes f.modes.length c_modes, .slice none 0 0, .slice none 0 0, .slice a_binders f.binders.length c_binders, .bool a_quic.isSome, .slice a_quic (f.quic.getD []).length c_quic, .slice a_ech f.ech.length c_ech, .slice a_exts f.exts.length c_exts] := ⟨_, rfl⟩
    change K _ ((w1.drew.alloc (.cells zero31 37)).setRow w1.heap.size #[.int .u16 (f.vers : Nat), .slice a_random f.random.length c_random, .slice a_session f.session.length c_session, .slice a_suites f.suites.length c_suites, .slice a_comps f.comps.length c_comps, .string ⟨f.name.toArray⟩, .bool f.ocsp, .slice a_curves f.curves.length c_curves, .slice a_points f.points.length c_points, .bool f.ticket, .slice a_tickets f.tickets.length c_tickets, .slice a_sigs f.sigs.length c_sigs, .slice a_sigsC f.sigsC.length c_sigsC, .bool f.srs, .slice a_sr f.sr.length c_sr, .bool f.ems, .slice a_alpn f.alpn.length c_alpn, .bool f.scts, .slice a_vers13 f.vers13.length c_vers13, .slice a_cookie f.cookie.length c_cookie, .slice none 0 0, .slice none 0 0, .bool f.early, .slice a_modes f.modes.length c_modes, .slice none 0 0, .slice none 0 0, .slice a_binders f.binders.length c_binders, .bool a_quic.isSome, .slice a_quic (f.quic.getD []).length c_quic, .slice a_ech f.ech.length c_ech, .slice a_exts f.exts.length c_exts])
    rw [← hw2] at hq2
    rw [← hw2]
    refine hK _ _ ?_
    clear hK K
    refine wpOrd_nil ?_
    have hb2 : Bn W C g (r0 + 1) [(r0 + 1, chF C g f), (cB, [.val (.int .u16 (f.vers : Nat)), .val (.slice a_random f.random.length c_random), .val (.slice a_session f.session.length c_session), .val (.slice a_suites f.suites.length c_suites), .val (.slice a_comps f.comps.length c_comps), .val (.string ⟨f.name.toArray⟩), .val (.bool f.ocsp), .val (.slice a_curves f.curves.length c_curves), .val (.slice a_points f.points.length c_points), .val (.bool f.ticket), .val (.slice a_tickets f.tickets.length c_tickets), .val (.slice a_sigs f.sigs.length c_sigs), .val (.slice a_sigsC f.sigsC.length c_sigsC), .val (.bool f.srs), .val (.slice a_sr f.sr.length c_sr), .val (.bool f.ems), .val (.slice a_alpn f.alpn.length c_alpn), .val (.bool f.scts), .val (.slice a_vers13 f.vers13.length c_vers13), .val (.slice a_cookie f.cookie.length c_cookie), .val (.slice none 0 0), .val (.slice none 0 0), .val (.bool f.early), .val (.slice a_modes f.modes.length c_modes), .val (.slice none 0 0), .val (.slice none 0 0), .val (.slice a_binders f.binders.length c_binders), .val (.bool a_quic.isSome), .val (.slice a_quic (f.quic.getD []).length c_quic), .val (.slice a_ech f.ech.length c_ech), .val (.slice a_exts f.exts.length c_exts)])] none w2 := by rw [hw2, hcB]; exact hb2
    have hb3 := (((hb2.nil (b := 1) (i := 20) rfl rfl 23 1 (ShowU []) rfl).nil (b := 1) (i := 21) rfl rfl 22 1 (ShowL C g []) ShowL.nil).nil (b := 1) (i := 24) rfl rfl 22 1 (ShowL C g []) ShowL.nil).nil (b := 1) (i := 25) rfl rfl 57 1 (ShowU4 []) rfl
    obtain ⟨vv, hvv⟩ : ∃ x : Nat → Value, x = fun i => ([.int .u16 (f.vers : Nat), .slice a_random f.random.length c_random, .slice a_session f.session.length c_session, .slice a_suites f.suites.length c_suites, .slice a_comps f.comps.length c_comps, .string ⟨f.name.toArray⟩, .bool f.ocsp, .slice a_curves f.curves.length c_curves, .slice a_points f.points.length c_points, .bool f.ticket, .slice a_tickets f.tickets.length c_tickets, .slice a_sigs f.sigs.length c_sigs, .slice a_sigsC f.sigsC.length c_sigsC, .bool f.srs, .slice a_sr f.sr.length c_sr, .bool f.ems, .slice a_alpn f.alpn.length c_alpn, .bool f.scts, .slice a_vers13 f.vers13.length c_vers13, .slice a_cookie f.cookie.length c_cookie, .slice none 0 0, .slice none 0 0, .bool f.early, .slice a_modes f.modes.length c_modes, .slice none 0 0, .slice none 0 0, .slice a_binders f.binders.length c_binders, .bool a_quic.isSome, .slice a_quic (f.quic.getD []).length c_quic, .slice a_ech f.ech.length c_ech, .slice a_exts f.exts.length c_exts] : List Value).getD i undef := ⟨_, rfl⟩
    have hb3 : Bn W C g (r0 + 1) [(r0 + 1, chF C g f), (cB, unF C g vv [] [] [] [])] none w2 := by rw [hvv]; exact hb3
    have p_vers : Hid (w2.cell? ⟨r0 + 1, 1, none⟩ = some (vv 0)) := Lib.hid (by rw [hvv]; exact hq2 _ _ q_vers)
    have p_random : Hid (w2.cell? ⟨r0 + 1, 2, none⟩ = some (vv 1)) := Lib.hid (by rw [hvv]; exact hq2 _ _ q_random)
    have p_session : Hid (w2.cell? ⟨r0 + 1, 3, none⟩ = some (vv 2)) := Lib.hid (by rw [hvv]; exact hq2 _ _ q_session)
    have p_suites : Hid (w2.cell? ⟨r0 + 1, 4, none⟩ = some (vv 3)) := Lib.hid (by rw [hvv]; exact hq2 _ _ q_suites)
    have p_comps : Hid (w2.cell? ⟨r0 + 1, 5, none⟩ = some (vv 4)) := Lib.hid (by rw [hvv]; exact hq2 _ _ q_comps)
    have p_name : Hid (w2.cell? ⟨r0 + 1, 6, none⟩ = some (vv 5)) := Lib.hid (by rw [hvv]; exact hq2 _ _ q_name)
    have p_ocsp : Hid (w2.cell? ⟨r0 + 1, 7, none⟩ = some (vv 6)) := Lib.hid (by rw [hvv]; exact hq2 _ _ q_ocsp)
    have p_curves : Hid (w2.cell? ⟨r0 + 1, 8, none⟩ = some (vv 7)) := Lib.hid (by rw [hvv]; exact hq2 _ _ q_curves)
    have p_points : Hid (w2.cell? ⟨r0 + 1, 9, none⟩ = some (vv 8)) := Lib.hid (by rw [hvv]; exact hq2 _ _ q_points)
    have p_ticket : Hid (w2.cell? ⟨r0 + 1, 10, none⟩ = some (vv 9)) := Lib.hid (by rw [hvv]; exact hq2 _ _ q_ticket)
    have p_tickets : Hid (w2.cell? ⟨r0 + 1, 11, none⟩ = some (vv 10)) := Lib.hid (by rw [hvv]; exact hq2 _ _ q_tickets)
    have p_sigs : Hid (w2.cell? ⟨r0 + 1, 12, none⟩ = some (vv 11)) := Lib.hid (by rw [hvv]; exact hq2 _ _ q_sigs)
    have p_sigsC : Hid (w2.cell? ⟨r0 + 1, 13, none⟩ = some (vv 12)) := Lib.hid (by rw [hvv]; exact hq2 _ _ q_sigsC)
    have p_srs : Hid (w2.cell? ⟨r0 + 1, 14, none⟩ = some (vv 13)) := Lib.hid (by rw [hvv]; exact hq2 _ _ q_srs)
    have p_sr : Hid (w2.cell? ⟨r0 + 1, 15, none⟩ = some (vv 14)) := Lib.hid (by rw [hvv]; exact hq2 _ _ q_sr)
    have p_ems : Hid (w2.cell? ⟨r0 + 1, 16, none⟩ = some (vv 15)) := Lib.hid (by rw [hvv]; exact hq2 _ _ q_ems)
    have p_alpn : Hid (w2.cell? ⟨r0 + 1, 17, none⟩ = some (vv 16)) := Lib.hid (by rw [hvv]; exact hq2 _ _ q_alpn)
    have p_scts : Hid (w2.cell? ⟨r0 + 1, 18, none⟩ = some (vv 17)) := Lib.hid (by rw [hvv]; exact hq2 _ _ q_scts)
    have p_vers13 : Hid (w2.cell? ⟨r0 + 1, 19, none⟩ = some (vv 18)) := Lib.hid (by rw [hvv]; exact hq2 _ _ q_vers13)
    have p_cookie : Hid (w2.cell? ⟨r0 + 1, 20, none⟩ = some (vv 19)) := Lib.hid (by rw [hvv]; exact hq2 _ _ q_cookie)
    have p_early : Hid (w2.cell? ⟨r0 + 1, 22, none⟩ = some (vv 22)) := Lib.hid (by rw [hvv]; exact hq2 _ _ q_early)
    have p_modes : Hid (w2.cell? ⟨r0 + 1, 23, none⟩ = some (vv 23)) := Lib.hid (by rw [hvv]; exact hq2 _ _ q_modes)
    have p_binders : Hid (w2.cell? ⟨r0 + 1, 25, none⟩ = some (vv 26)) := Lib.hid (by rw [hvv]; exact hq2 _ _ q_binders)
    have p_quic : Hid (w2.cell? ⟨r0 + 1, 26, none⟩ = some (vv 28)) := Lib.hid (by rw [hvv]; exact hq2 _ _ q_quic)
    have p_ech : Hid (w2.cell? ⟨r0 + 1, 27, none⟩ = some (vv 29)) := Lib.hid (by rw [hvv]; exact hq2 _ _ q_ech)
    have p_exts : Hid (w2.cell? ⟨r0 + 1, 28, none⟩ = some (vv 30)) := Lib.hid (by rw [hvv]; exact hq2 _ _ q_exts)
    have p_hasq : Hid (vv 27 = .bool f.quic.isSome) := Lib.hid (by rw [hvv, ← HQS.out]; rfl)
    rw [← hcB]
    have HB2 := Lib.hid hb3
    have hmost := chRead_most HY.out
    have hms := hmost.shares
    have hmp := hmost.psks
    obtain ⟨vS, usS, qS, hownS, _⟩ := hb3.own (b := 0) (i := 21) rfl rfl
    obtain ⟨aS, cS, rfl⟩ := row_slice hownS
    obtain ⟨vP, usP, qP, hownP, _⟩ := hb3.own (b := 0) (i := 24) rfl rfl
    obtain ⟨aP, cP, rfl⟩ := row_slice hownP
    have QS := Lib.hid qS
    have QP := Lib.hid qP
    clear hb2 hb3 hw2 hcB hvv hq2 hownS hownP hmost HB HONE q_vers q_random q_session q_suites q_comps q_name q_ocsp q_curves q_points q_ticket q_tickets q_sigs q_sigsC q_srs q_sr q_ems q_alpn q_scts q_vers13 q_cookie q_early q_modes q_binders q_quic q_ech q_exts
    go_wp2_with fail
    clear qS qP
    refine wp_loop (UnI1 W w2 C g r0 cB f vv aS cS) (fun a _ => f.shares.length - unIx 131 a) ⟨0, Nat.zero_le _, ⟨rfl, rfl, rfl, rfl, rfl⟩, ⟨rfl, rfl, rfl⟩, fun _ => rfl, HB2.out⟩ (fun a' w' hI => un_round1 (by omega) QS.out ?_ hI)
    intro a3 w3 hsl hm3 hb3
    obtain ⟨s3, dl3⟩ := a3
    obtain ⟨hdf, hsz, h2, h4, h5⟩ := hsl
    simp only at hdf hsz h2 h4 h5
    subst hdf
    obtain ⟨z, rfl⟩ := arr175 s3 hsz
    have e2 : z 2 = .pointer (some ⟨r0, 0, none⟩) := Option.some.inj h2
    have e4 : z 4 = .pointer (some ⟨r0 + 1, 0, none⟩) := Option.some.inj h4
    have e5 : z 5 = .pointer (some ⟨cB, 0, none⟩) := Option.some.inj h5
    rw [e2, e4, e5]
    clear hsz h2 h4 h5 e2 e4 e5
    rw [List.take_length] at hb3
    have HM3 := Lib.hid hm3
    have HB3 := Lib.hid hb3
    have qP3 : w3.cell? ⟨r0 + 1, 24, none⟩ = some (.slice aP f.psks.length cP) := (hm3 24).trans QP.out
    have QP3 := Lib.hid qP3
    clear hm3 hb3
    go_wp2_with fail
    clear qP3
    refine wp_loop (UnI2 W w3 C g r0 cB f vv aP cP) (fun a _ => f.psks.length - unIx 155 a) ⟨0, Nat.zero_le _, ⟨rfl, rfl, rfl, rfl, rfl⟩, ⟨rfl, rfl, rfl⟩, fun _ => rfl, HB3.out⟩ (fun a' w' hI => un_round2 (by omega) QP3.out ?_ hI)
    intro a4 w4 hsl hm4 hb4
    obtain ⟨s4, dl4⟩ := a4
    obtain ⟨hdf, hsz, h2, h4, h5⟩ := hsl
    simp only at hdf hsz h2 h4 h5
    subst hdf
    obtain ⟨z', rfl⟩ := arr175 s4 hsz
    have e2 : z' 2 = .pointer (some ⟨r0, 0, none⟩) := Option.some.inj h2
    have e4 : z' 4 = .pointer (some ⟨r0 + 1, 0, none⟩) := Option.some.inj h4
    have e5 : z' 5 = .pointer (some ⟨cB, 0, none⟩) := Option.some.inj h5
    rw [e2, e4, e5]
    clear hsz h2 h4 h5 e2 e4 e5
    rw [List.take_length] at hb4
    have HM4 : Hid (∀ i, w4.cell? ⟨r0 + 1, i, none⟩ = w2.cell? ⟨r0 + 1, i, none⟩) := Lib.hid fun i => (hm4 i).trans (HM3.out i)
    have HB4 := Lib.hid hb4
    obtain ⟨D, TD, hD, hDs, hDc⟩ := un_cells hb4 rfl
    have HD := Lib.hid hD
    have HDS := Lib.hid hDs
    have HDC := Lib.hid hDc
    have HZ4 : Hid (w4.heap[r0]? = some (.cells zero31 37 (0, 0))) := Lib.hid ((hb4.fs.keep r0 (by have := HWS.out; omega) (by simp)).trans HZ.out)
    have hrel : Hid (∀ (i : Nat) (fd : FD), (uV C g f)[i]? = some fd → ∃ x, D[i]? = some x ∧ FRel w4 (r0 + 2) C g fd x) := Lib.hid (un_rel HWS.out HB4.out HM4.out HDC.out ⟨p_vers.out, p_random.out, p_session.out, p_suites.out, p_comps.out, p_name.out, p_ocsp.out, p_curves.out, p_points.out, p_ticket.out, p_tickets.out, p_sigs.out, p_sigsC.out, p_srs.out, p_sr.out, p_ems.out, p_alpn.out, p_scts.out, p_vers13.out, p_cookie.out, p_early.out, p_modes.out, p_binders.out, p_quic.out, p_ech.out, p_exts.out, p_hasq.out⟩)
    have hone4 : D.all (·.oneCell') = true := by
      rw [Array.all_eq_true]
      intro i hi
      have hl : (uV C g f).length = 31 := rfl
      obtain ⟨x, hx, hf⟩ := hrel.out i _ (List.getElem?_eq_getElem (show i < (uV C g f).length by omega))
      have h1 := hf.one (List.all_eq_true.1 uV_one _ (List.getElem_mem _))
      rw [Array.getElem?_eq_getElem hi] at hx
      cases hx
      exact h1
    have HONE4 := Lib.hid hone4
    have HIS : Hid ((Tryz.prog.info? 37).map (·.size) = some D.size) := Lib.hid (by rw [hDs]; kernel_rfl)
    have HZS : Hid (zero31.size = D.size) := Lib.hid (by rw [hDs]; rfl)
    clear hm4 hb4 hD hDs hDc hone4
    go_upto_region 15 with fail
    apply wp_region_lit
    refine wpList_load_row rfl 37 (.tmp 5) rfl cB rfl TD D (0, 0) _ HD.out Tryz.underlying37 rfl HIS.out ?_
    simp only [Act.put, List.setIfInBounds_toArray, List.set_cons_zero, List.set_cons_succ]
    refine wpList_store_row rfl 37 (.tmp 2) (.tmp 174) rfl r0 D rfl rfl 37 zero31 HZ4.out HIS.out HZS.out HONE4.out ?_
    go_step
    go_wp2_with fail
    refine ret_row_tmp (.bool true) rfl r0 37 D (0, 0) _ rfl rfl (setRow_heap _ _ _ _ _ _ HZ4.out) Tryz.underlying37 rfl HIS.out rfl ?_
    have hsz4 := HB4.out.fs.size
    have hws := HWS.out
    have hr0 := HR0.out
    refine ⟨?_, .inr ⟨f, D, r0 + 2, HY.out, rfl, HDS.out, HONE4.out, by omega, fun i fd hi => ?_⟩⟩
    · have h : Below w.heap.size w w4 := fs_bel (l := [r0, r0 + 1]) ((HF.out.mono (by simp)).trans (HB4.out.fs.mono (by simp))) (fun p hp => by simp at hp; omega)
      exact below_setRow h (by omega) _
    · obtain ⟨x, hx, hr⟩ := hrel.out i fd hi
      exact ⟨x, hx, hr.kept fun ho k hk => setRow_other _ _ _ _ (by have := (hr.lt ho k hk).1; omega)⟩

end Go.Proofs.YtopcljikkdlffaaGreat
