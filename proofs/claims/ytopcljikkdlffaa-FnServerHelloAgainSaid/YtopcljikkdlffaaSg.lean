/- UnmarshalServerHello of package tls and of package impl. No statement of the seat is proved here. -/
import Derived.Test.YtopcljikkdlffaaSh
import Derived.Test.YtopcljikkdlffaaLi
namespace Go.Proofs.Ytopcljikkdlffaa
open Go.RowKit

/-- A ServerHello by value. -/
def SHVal (w : World) (base : Nat) (C : Array Value) (g : Nat) (u : Value) (f : SH) : Prop :=
  ∃ (v_random v_session v_sr v_scts v_sdata v_pts v_ech v_cookie : Value), u = .agg #[.int .u16 (f.vers : Nat), v_random, v_session, .int .u16 (f.cipher : Nat), .int .u8 (f.comp : Nat), .bool f.ocsp, .bool f.ticket, .bool f.srs, v_sr, .bool f.ems, .string ⟨f.alpn.toArray⟩, v_scts, .int .u16 (f.sver : Nat), .int .u16 (f.sgroup : Nat), v_sdata, .bool f.sip, .int .u16 (f.sid : Nat), v_pts, v_ech, .bool f.sna, v_cookie, .int .u16 (f.selg : Nat)] ∧ VN C g v_random f.random ∧ VN C g v_session f.session ∧ VN C g v_sr f.sr ∧ OutN w base C g v_scts f.scts ∧ VN C g v_sdata f.sdata ∧ VN C g v_pts f.pts ∧ RowB w base v_ech f.ech ∧ VN C g v_cookie f.cookie

/-- What reading a ServerHello hands back. -/
def ShuPost (w : World) (C : Array Value) (g : Nat) (bs : List UInt8) (e : Ending) (w' : World) : Prop :=
  Below w.heap.size w w' ∧ ((shRead bs = none ∧ ∃ D : Array Value, e = .returned (.tuple #[.agg D, .bool false]) ∧ D.size = 22 ∧ D.all (·.oneCell') = true) ∨ ∃ f u, shRead bs = some f ∧ e = .returned (.tuple #[u, .bool true]) ∧ SHVal w' w.heap.size C g u f)

theorem RowB.mono {w : World} {base base' : Nat} {v : Value} {bs : List UInt8} (h : RowB w base v bs) (hb : base' ≤ base) : RowB w base' v bs := by
  rcases h with h | ⟨p, hv, hp, hh⟩
  · exact .inl h
  · exact .inr ⟨p, hv, by omega, hh⟩
theorem OutN.mono {w : World} {base base' : Nat} {C : Array Value} {g : Nat} {v : Value} {L : List (List UInt8)} (h : OutN w base C g v L) (hb : base' ≤ base) : OutN w base' C g v L := by
  rcases h with h | ⟨h1, us, ho, h2⟩
  · exact .inl h
  · exact .inr ⟨h1, us, ownsRow_mono ho hb, h2⟩

set_option maxRecDepth 100000 in
set_option maxHeartbeats 8000000 in
theorem shu_tls {C : Array Value} {g : Nat} {T : TypeId} {fr : Nat × Nat} {v : Value} {bs : List UInt8} (w : World) (hg : w.heap[g]? = some (.cells C T fr)) (hV : View C g v bs) :
    Calls Try.prog 58 #[v] w (ShuPost w C g bs) := by
  obtain ⟨off, cap, rfl, hcl⟩ := hV.slice
  have HV := Lib.hid hV
  have HG := Lib.hid hg
  have hgl := lt_of_heap hg
  obtain ⟨r0, hr0⟩ : ∃ x, x = w.heap.size := ⟨_, rfl⟩
  obtain ⟨W, hW⟩ : ∃ x, x = (w.alloc (.cells zero22 90)).alloc (.cells (zero23 (.slice none 0 0)) 131) := ⟨_, rfl⟩
  have hWs : W.heap.size = r0 + 2 := by rw [hW, hr0]; simp
  have HZ : Hid (W.heap[r0]? = some (.cells zero22 90 (0, 0))) := by rw [hW, hr0]; exact heap_push (heap_alloc_new _ _)
  have hM : W.heap[r0 + 1]? = some (.cells (zero23 (.slice none 0 0)) 131 (0, 0)) := by
    have h := heap_alloc_new (w.alloc (.cells zero22 90)) (.cells (zero23 (.slice none 0 0)) 131)
    rw [World.size_alloc] at h
    rw [hW, hr0]; exact h
  have hf : Fs [] w W := by rw [hW]; exact ((Fs.refl [] w).push _).push _
  have HF := Lib.hid hf
  have HGW := Lib.hid ((hf.keep g hgl (by simp)).trans hg)
  have HM := Lib.hid hM
  have HW := Lib.hid hW
  have HR0 := Lib.hid hr0
  have hgr : g < r0 := by omega
  clear hV hg hW hM hf
  go_enter Try.func58, Try.ntmps58
  go_wp2_with fail
  change Calls _ _ _ ((w.alloc (.cells zero22 90)).alloc (.cells (zero23 (.slice none 0 0)) 131)) _
  rw [← HW.out, ← HR0.out]
  clear hr0
  refine (sh_unmarshal (m := r0 + 1) (g := g) W HM.out HGW.out (by omega) HV.out).mono ?_
  rintro e w1 ⟨hf1, hcase⟩
  have hz1 : w1.heap[r0]? = some (.cells zero22 90 (0, 0)) := (hf1.keep r0 (by omega) (by simp)).trans HZ.out
  have HF1 : Hid (Fs [r0 + 1] w w1) := (HF.out.mono (by simp)).trans hf1
  have HZ1 := Lib.hid hz1
  rcases hcase with ⟨hno, rfl⟩ | ⟨f, hyes, rfl, hS⟩
  · have HN := Lib.hid hno
    clear hno hz1 hf1
    go_upto_region 3 with fail
    apply wp_region_lit
    iterate 6 (first | (refine wpList_store_row rfl 90 (.tmp 2) (.tmp 10) rfl r0 zero22 rfl rfl 90 zero22 HZ1.out (by kernel_rfl) rfl (by simp [zero22, Value.oneCell']) ?_) | go_step)
    go_wp2_with fail
    refine ret_row_tmp (.bool false) rfl r0 90 zero22 (0, 0) _ rfl rfl (setRow_heap _ _ _ _ _ _ HZ1.out) Try.underlying90 rfl (by kernel_rfl) rfl ?_
    refine ⟨?_, .inl ⟨HN.out, zero22, rfl, rfl, by simp [zero22, Value.oneCell']⟩⟩
    have h := fs_below (HF1.out.mono (l' := [r0, r0 + 1]) (by simp)) (by have := HR0.out; simp; omega)
    exact below_setRow h (by have := HR0.out; omega) _
  · have HY := Lib.hid hyes
    have HS := Lib.hid hS
    clear hyes hz1 hf1
    obtain ⟨v_orig, v_random, v_session, v_sr, v_scts, v_sdata, v_pts, v_ech, v_cookie, hh, h_orig, h_random, h_session, h_sr, h_scts, h_sdata, h_pts, h_ech, h_cookie⟩ := hS
    obtain ⟨a_random, n_random, c_random, rfl⟩ := h_random.slice
    obtain ⟨a_session, n_session, c_session, rfl⟩ := h_session.slice
    obtain ⟨a_sr, n_sr, c_sr, rfl⟩ := h_sr.slice
    obtain ⟨a_scts, n_scts, c_scts, rfl⟩ := h_scts.slice
    obtain ⟨a_sdata, n_sdata, c_sdata, rfl⟩ := h_sdata.slice
    obtain ⟨a_pts, n_pts, c_pts, rfl⟩ := h_pts.slice
    obtain ⟨a_ech, n_ech, c_ech, rfl⟩ := h_ech.slice
    obtain ⟨a_cookie, n_cookie, c_cookie, rfl⟩ := h_cookie.slice
    have q1 : w1.cell? ⟨r0 + 1, 1, none⟩ = some (.int .u16 (f.vers : Nat)) := by rw [cell_of_heap hh]; rfl
    have q2 : w1.cell? ⟨r0 + 1, 2, none⟩ = some (.slice a_random n_random c_random) := by rw [cell_of_heap hh]; rfl
    have q3 : w1.cell? ⟨r0 + 1, 3, none⟩ = some (.slice a_session n_session c_session) := by rw [cell_of_heap hh]; rfl
    have q4 : w1.cell? ⟨r0 + 1, 4, none⟩ = some (.int .u16 (f.cipher : Nat)) := by rw [cell_of_heap hh]; rfl
    have q5 : w1.cell? ⟨r0 + 1, 5, none⟩ = some (.int .u8 (f.comp : Nat)) := by rw [cell_of_heap hh]; rfl
    have q6 : w1.cell? ⟨r0 + 1, 6, none⟩ = some (.bool f.ocsp) := by rw [cell_of_heap hh]; rfl
    have q7 : w1.cell? ⟨r0 + 1, 7, none⟩ = some (.bool f.ticket) := by rw [cell_of_heap hh]; rfl
    have q8 : w1.cell? ⟨r0 + 1, 8, none⟩ = some (.bool f.srs) := by rw [cell_of_heap hh]; rfl
    have q9 : w1.cell? ⟨r0 + 1, 9, none⟩ = some (.slice a_sr n_sr c_sr) := by rw [cell_of_heap hh]; rfl
    have q10 : w1.cell? ⟨r0 + 1, 10, none⟩ = some (.bool f.ems) := by rw [cell_of_heap hh]; rfl
    have q11 : w1.cell? ⟨r0 + 1, 11, none⟩ = some (.string ⟨f.alpn.toArray⟩) := by rw [cell_of_heap hh]; rfl
    have q12 : w1.cell? ⟨r0 + 1, 12, none⟩ = some (.slice a_scts n_scts c_scts) := by rw [cell_of_heap hh]; rfl
    have q13 : w1.cell? ⟨r0 + 1, 13, none⟩ = some (.int .u16 (f.sver : Nat)) := by rw [cell_of_heap hh]; rfl
    have q14 : w1.cell? ⟨r0 + 1, 14, none⟩ = some (.int .u16 (f.sgroup : Nat)) := by rw [cell_of_heap hh]; rfl
    have q15 : w1.cell? ⟨r0 + 1, 15, none⟩ = some (.slice a_sdata n_sdata c_sdata) := by rw [cell_of_heap hh]; rfl
    have q16 : w1.cell? ⟨r0 + 1, 16, none⟩ = some (.bool f.sip) := by rw [cell_of_heap hh]; rfl
    have q17 : w1.cell? ⟨r0 + 1, 17, none⟩ = some (.int .u16 (f.sid : Nat)) := by rw [cell_of_heap hh]; rfl
    have q18 : w1.cell? ⟨r0 + 1, 18, none⟩ = some (.slice a_pts n_pts c_pts) := by rw [cell_of_heap hh]; rfl
    have q19 : w1.cell? ⟨r0 + 1, 19, none⟩ = some (.slice a_ech n_ech c_ech) := by rw [cell_of_heap hh]; rfl
    have q20 : w1.cell? ⟨r0 + 1, 20, none⟩ = some (.bool f.sna) := by rw [cell_of_heap hh]; rfl
    have q21 : w1.cell? ⟨r0 + 1, 21, none⟩ = some (.slice a_cookie n_cookie c_cookie) := by rw [cell_of_heap hh]; rfl
    have q22 : w1.cell? ⟨r0 + 1, 22, none⟩ = some (.int .u16 (f.selg : Nat)) := by rw [cell_of_heap hh]; rfl
    have HH := Lib.hid hh
    have hone : (#[.int .u16 (f.vers : Nat), .slice a_random n_random c_random, .slice a_session n_session c_session, .int .u16 (f.cipher : Nat), .int .u8 (f.comp : Nat), .bool f.ocsp, .bool f.ticket, .bool f.srs, .slice a_sr n_sr c_sr, .bool f.ems, .string ⟨f.alpn.toArray⟩, .slice a_scts n_scts c_scts, .int .u16 (f.sver : Nat), .int .u16 (f.sgroup : Nat), .slice a_sdata n_sdata c_sdata, .bool f.sip, .int .u16 (f.sid : Nat), .slice a_pts n_pts c_pts, .slice a_ech n_ech c_ech, .bool f.sna, .slice a_cookie n_cookie c_cookie, .int .u16 (f.selg : Nat)] : Array Value).all (·.oneCell') = true := by
      simp [Value.oneCell']
    have HONE := Lib.hid hone
    clear hh hone
    go_wp2_with fail
    simp only [List.append_eq, List.cons_append, List.nil_append]
    refine region_line 11 91 [(91, false), (92, true)] (fun w' => w'.cell? ⟨r0 + 1, 1, none⟩ = some (.int .u16 (f.vers : Nat)) ∧ w'.cell? ⟨r0 + 1, 2, none⟩ = some (.slice a_random n_random c_random) ∧ w'.cell? ⟨r0 + 1, 3, none⟩ = some (.slice a_session n_session c_session) ∧ w'.cell? ⟨r0 + 1, 4, none⟩ = some (.int .u16 (f.cipher : Nat)) ∧ w'.cell? ⟨r0 + 1, 5, none⟩ = some (.int .u8 (f.comp : Nat)) ∧ w'.cell? ⟨r0 + 1, 6, none⟩ = some (.bool f.ocsp) ∧ w'.cell? ⟨r0 + 1, 7, none⟩ = some (.bool f.ticket) ∧ w'.cell? ⟨r0 + 1, 8, none⟩ = some (.bool f.srs) ∧ w'.cell? ⟨r0 + 1, 9, none⟩ = some (.slice a_sr n_sr c_sr) ∧ w'.cell? ⟨r0 + 1, 10, none⟩ = some (.bool f.ems) ∧ w'.cell? ⟨r0 + 1, 11, none⟩ = some (.string ⟨f.alpn.toArray⟩) ∧ w'.cell? ⟨r0 + 1, 12, none⟩ = some (.slice a_scts n_scts c_scts) ∧ w'.cell? ⟨r0 + 1, 13, none⟩ = some (.int .u16 (f.sver : Nat)) ∧ w'.cell? ⟨r0 + 1, 14, none⟩ = some (.int .u16 (f.sgroup : Nat)) ∧ w'.cell? ⟨r0 + 1, 15, none⟩ = some (.slice a_sdata n_sdata c_sdata) ∧ w'.cell? ⟨r0 + 1, 16, none⟩ = some (.bool f.sip) ∧ w'.cell? ⟨r0 + 1, 17, none⟩ = some (.int .u16 (f.sid : Nat)) ∧ w'.cell? ⟨r0 + 1, 18, none⟩ = some (.slice a_pts n_pts c_pts) ∧ w'.cell? ⟨r0 + 1, 19, none⟩ = some (.slice a_ech n_ech c_ech) ∧ w'.cell? ⟨r0 + 1, 20, none⟩ = some (.bool f.sna) ∧ w'.cell? ⟨r0 + 1, 21, none⟩ = some (.slice a_cookie n_cookie c_cookie) ∧ w'.cell? ⟨r0 + 1, 22, none⟩ = some (.int .u16 (f.selg : Nat))) mixed (by kernel_rfl) rfl (by kernel_rfl) (by kernel_rfl) (by rfl) (by intro c a d v w h; cases d <;> exact h) ⟨q1, q2, q3, q4, q5, q6, q7, q8, q9, q10, q11, q12, q13, q14, q15, q16, q17, q18, q19, q20, q21, q22⟩ ?_
    simp only [List.take_succ_cons, List.take_zero]
    iterate 90 (apply Exists.intro; refine ⟨fun w' hS => ?_, ?_⟩; (· (first | (go_simp; done) | (go_simp; with_reducible rfl))); simp only [Act.put, List.setIfInBounds_toArray, List.set_cons_zero, List.set_cons_succ])
    refine ⟨.agg #[.int .u16 (f.vers : Nat), .slice a_random n_random c_random, .slice a_session n_session c_session, .int .u16 (f.cipher : Nat), .int .u8 (f.comp : Nat), .bool f.ocsp, .bool f.ticket, .bool f.srs, .slice a_sr n_sr c_sr, .bool f.ems, .string ⟨f.alpn.toArray⟩, .slice a_scts n_scts c_scts, .int .u16 (f.sver : Nat), .int .u16 (f.sgroup : Nat), .slice a_sdata n_sdata c_sdata, .bool f.sip, .int .u16 (f.sid : Nat), .slice a_pts n_pts c_pts, .slice a_ech n_ech c_ech, .bool f.sna, .slice a_cookie n_cookie c_cookie, .int .u16 (f.selg : Nat)], fun w' _ => exec_build 90 _ _ rfl (by kernel_rfl), ?_⟩
    simp only [Act.put, List.setIfInBounds_toArray, List.set_cons_zero, List.set_cons_succ]
    show wpOrd _ _ _ _ _ _ _
    refine wpOrd_run rfl rfl (fun K hK => ?_)
    refine wp_store_row 90 (.tmp 2) (.tmp 101) rfl r0 #[.int .u16 (f.vers : Nat), .slice a_random n_random c_random, .slice a_session n_session c_session, .int .u16 (f.cipher : Nat), .int .u8 (f.comp : Nat), .bool f.ocsp, .bool f.ticket, .bool f.srs, .slice a_sr n_sr c_sr, .bool f.ems, .string ⟨f.alpn.toArray⟩, .slice a_scts n_scts c_scts, .int .u16 (f.sver : Nat), .int .u16 (f.sgroup : Nat), .slice a_sdata n_sdata c_sdata, .bool f.sip, .int .u16 (f.sid : Nat), .slice a_pts n_pts c_pts, .slice a_ech n_ech c_ech, .bool f.sna, .slice a_cookie n_cookie c_cookie, .int .u16 (f.selg : Nat)] rfl rfl 90 zero22 HZ1.out (by kernel_rfl) rfl HONE.out ?_
    refine hK _ _ (fun _ => ⟨(cell_setRow_other _ _ _ _ (by show r0 + 1 ≠ r0; omega)).trans q1, (cell_setRow_other _ _ _ _ (by show r0 + 1 ≠ r0; omega)).trans q2, (cell_setRow_other _ _ _ _ (by show r0 + 1 ≠ r0; omega)).trans q3, (cell_setRow_other _ _ _ _ (by show r0 + 1 ≠ r0; omega)).trans q4, (cell_setRow_other _ _ _ _ (by show r0 + 1 ≠ r0; omega)).trans q5, (cell_setRow_other _ _ _ _ (by show r0 + 1 ≠ r0; omega)).trans q6, (cell_setRow_other _ _ _ _ (by show r0 + 1 ≠ r0; omega)).trans q7, (cell_setRow_other _ _ _ _ (by show r0 + 1 ≠ r0; omega)).trans q8, (cell_setRow_other _ _ _ _ (by show r0 + 1 ≠ r0; omega)).trans q9, (cell_setRow_other _ _ _ _ (by show r0 + 1 ≠ r0; omega)).trans q10, (cell_setRow_other _ _ _ _ (by show r0 + 1 ≠ r0; omega)).trans q11, (cell_setRow_other _ _ _ _ (by show r0 + 1 ≠ r0; omega)).trans q12, (cell_setRow_other _ _ _ _ (by show r0 + 1 ≠ r0; omega)).trans q13, (cell_setRow_other _ _ _ _ (by show r0 + 1 ≠ r0; omega)).trans q14, (cell_setRow_other _ _ _ _ (by show r0 + 1 ≠ r0; omega)).trans q15, (cell_setRow_other _ _ _ _ (by show r0 + 1 ≠ r0; omega)).trans q16, (cell_setRow_other _ _ _ _ (by show r0 + 1 ≠ r0; omega)).trans q17, (cell_setRow_other _ _ _ _ (by show r0 + 1 ≠ r0; omega)).trans q18, (cell_setRow_other _ _ _ _ (by show r0 + 1 ≠ r0; omega)).trans q19, (cell_setRow_other _ _ _ _ (by show r0 + 1 ≠ r0; omega)).trans q20, (cell_setRow_other _ _ _ _ (by show r0 + 1 ≠ r0; omega)).trans q21, (cell_setRow_other _ _ _ _ (by show r0 + 1 ≠ r0; omega)).trans q22⟩) ?_
    clear hK K
    simp only [List.getElem_toArray, List.getElem_cons_succ, List.getElem_cons_zero, Act.put, List.setIfInBounds_toArray, List.set_cons_zero, List.set_cons_succ]
    apply wpOrd_pure rfl rfl
    refine ⟨.bool true, fun w' hS => by (first | (go_simp; done) | (go_simp; with_reducible rfl)), ?_⟩
    simp only [List.getElem_toArray, List.getElem_cons_succ, List.getElem_cons_zero, Act.put, List.setIfInBounds_toArray, List.set_cons_zero, List.set_cons_succ]
    refine wpOrd_nil ?_
    go_wp2_with fail
    refine ret_row_tmp (.bool true) rfl r0 90 #[.int .u16 (f.vers : Nat), .slice a_random n_random c_random, .slice a_session n_session c_session, .int .u16 (f.cipher : Nat), .int .u8 (f.comp : Nat), .bool f.ocsp, .bool f.ticket, .bool f.srs, .slice a_sr n_sr c_sr, .bool f.ems, .string ⟨f.alpn.toArray⟩, .slice a_scts n_scts c_scts, .int .u16 (f.sver : Nat), .int .u16 (f.sgroup : Nat), .slice a_sdata n_sdata c_sdata, .bool f.sip, .int .u16 (f.sid : Nat), .slice a_pts n_pts c_pts, .slice a_ech n_ech c_ech, .bool f.sna, .slice a_cookie n_cookie c_cookie, .int .u16 (f.selg : Nat)] (0, 0) _ rfl rfl (setRow_heap _ _ _ _ _ _ HZ1.out) Try.underlying90 rfl (by kernel_rfl) rfl ?_
    refine ⟨?_, .inr ⟨f, _, HY.out, rfl, ?_⟩⟩
    · have h : Below w.heap.size w w1.drew := fs_below (l := [r0, r0 + 1]) (HF1.out.mono (by simp)).drew (fun p hp => by have := HR0.out; simp at hp; omega)
      exact below_setRow h (by have := HR0.out; omega) _
    · have hw : W.heap.size = w.heap.size + 2 := by have := HR0.out; omega
      have hfr : Fs [r0] w1 (w1.drew.setRow r0 #[.int .u16 (f.vers : Nat), .slice a_random n_random c_random, .slice a_session n_session c_session, .int .u16 (f.cipher : Nat), .int .u8 (f.comp : Nat), .bool f.ocsp, .bool f.ticket, .bool f.srs, .slice a_sr n_sr c_sr, .bool f.ems, .string ⟨f.alpn.toArray⟩, .slice a_scts n_scts c_scts, .int .u16 (f.sver : Nat), .int .u16 (f.sgroup : Nat), .slice a_sdata n_sdata c_sdata, .bool f.sip, .int .u16 (f.sid : Nat), .slice a_pts n_pts c_pts, .slice a_ech n_ech c_ech, .bool f.sna, .slice a_cookie n_cookie c_cookie, .int .u16 (f.selg : Nat)]) := ⟨rfl, rfl, rfl, by rw [size_setRow]; exact Nat.le_refl _, fun k _ hn => setRow_other _ _ _ _ (fun e => hn (by simp [e]))⟩
      have hle : w.heap.size ≤ W.heap.size := by omega
      have hod : Odd w1 [r0] := Odd.cons HZ1.out (by decide) (by decide) (Odd.nil _)
      exact ⟨_, _, _, _, _, _, _, _, rfl, h_random, h_session, h_sr, (h_scts.fs hfr hod).mono hle, h_sdata, h_pts, (h_ech.fs hfr hod).mono hle, h_cookie⟩

end Go.Proofs.Ytopcljikkdlffaa
