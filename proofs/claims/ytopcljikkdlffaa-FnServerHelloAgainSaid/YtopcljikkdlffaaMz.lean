/- A ServerHello by value: read, made, compared; the walk of the statement FnServerHelloAgain. No statement of the seat is proved here. -/
import Derived.Test.YtopcljikkdlffaaMy
import Derived.Test.YtopcljikkdlffaaSg
import Derived.Test.YtopcljikkdlffaaGk
import Derived.Test.YtopcljikkdlffaaIb
namespace Go.Proofs.Ytopcljikkdlffaa
open Go.RowKit

/-- A ServerHello's fields by value. -/
def ShV (w : World) (base : Nat) (f : SH) (D : Array Value) : Prop := ∃ v_random v_session v_sr v_scts v_sdata v_pts v_ech v_cookie : Value, D = #[.int .u16 (f.vers : Nat), v_random, v_session, .int .u16 (f.cipher : Nat), .int .u8 (f.comp : Nat), .bool f.ocsp, .bool f.ticket, .bool f.srs, v_sr, .bool f.ems, .string ⟨f.alpn.toArray⟩, v_scts, .int .u16 (f.sver : Nat), .int .u16 (f.sgroup : Nat), v_sdata, .bool f.sip, .int .u16 (f.sid : Nat), v_pts, v_ech, .bool f.sna, v_cookie, .int .u16 (f.selg : Nat)] ∧ SrcB w base v_random f.random ∧ SrcB w base v_session f.session ∧ SrcB w base v_sr f.sr ∧ SrcL w base v_scts f.scts ∧ SrcB w base v_sdata f.sdata ∧ SrcB w base v_pts f.pts ∧ SrcB w base v_ech f.ech ∧ SrcB w base v_cookie f.cookie

theorem ShV.keep {w w' : World} {base base' : Nat} {f : SH} {D : Array Value} (h : ShV w base f D) (hb : base ≤ base') (hk : ∀ k, k < base → w'.heap[k]? = w.heap[k]?) : ShV w' base' f D := by
  obtain ⟨v_random, v_session, v_sr, v_scts, v_sdata, v_pts, v_ech, v_cookie, e, h_random, h_session, h_sr, h_scts, h_sdata, h_pts, h_ech, h_cookie⟩ := h
  exact ⟨v_random, v_session, v_sr, v_scts, v_sdata, v_pts, v_ech, v_cookie, e, h_random.keep hb hk, h_session.keep hb hk, h_sr.keep hb hk, h_scts.keep hb hk, h_sdata.keep hb hk, h_pts.keep hb hk, h_ech.keep hb hk, h_cookie.keep hb hk⟩

theorem ShV.all {w : World} {base : Nat} {f : SH} {D : Array Value} (h : ShV w base f D) : D.size = 22 ∧ D.all (·.oneCell') = true := by
  obtain ⟨v_random, v_session, v_sr, v_scts, v_sdata, v_pts, v_ech, v_cookie, rfl, h_random, h_session, h_sr, h_scts, h_sdata, h_pts, h_ech, h_cookie⟩ := h
  obtain ⟨a_random, k_random, rfl⟩ := h_random.len
  obtain ⟨a_session, k_session, rfl⟩ := h_session.len
  obtain ⟨a_sr, k_sr, rfl⟩ := h_sr.len
  obtain ⟨a_scts, k_scts, rfl, _⟩ := h_scts.len
  obtain ⟨a_sdata, k_sdata, rfl⟩ := h_sdata.len
  obtain ⟨a_pts, k_pts, rfl⟩ := h_pts.len
  obtain ⟨a_ech, k_ech, rfl⟩ := h_ech.len
  obtain ⟨a_cookie, k_cookie, rfl⟩ := h_cookie.len
  exact ⟨rfl, by simp [Value.oneCell']⟩

theorem wp_build {P : Program} {o : Oper} {a : Act} {w : World} {K : Act → World → Prop} {Q : Exit → Act → World → Prop} (t : TypeId) (parts : Array (Nat × Operand)) (cells : Array Value) (ho : o.op = .build t parts)
    (hf : P.built t (parts.map fun (i, x) => (i, a.eval x)).toList = some cells) (h : K (a.put o.dst (.agg cells)) w) : o.wp P a w K Q := by
  unfold Oper.wp
  rw [exec_build t parts cells ho hf]
  exact h

theorem wpList_build {P : Program} {ops : Array Oper} {rest : List Oper} {o : Oper} {a : Act} {w : World} {Q : Exit → Act → World → Prop} (hgd : o.guard = none) (t : TypeId) (parts : Array (Nat × Operand)) (cells : Array Value) (ho : o.op = .build t parts)
    (hf : P.built t (parts.map fun (i, x) => (i, a.eval x)).toList = some cells) (h : wpList P ops Q rest (a.put o.dst (.agg cells)) w) : wpList P ops Q (o :: rest) a w :=
  wpList_plain hgd fun _ hK => wp_build t parts cells ho hf (hK _ _ h)

theorem outN_srcL {w : World} {base B : Nat} {C : Array Value} {g : Nat} {T : TypeId} {fr : Nat × Nat} {v : Value} {L : List (List UInt8)} (h : OutN w base C g v L) (hg : w.heap[g]? = some (.cells C T fr)) (hB : w.heap.size ≤ B) : SrcL w B v L := by
  rcases h with ⟨rfl, rfl⟩ | ⟨hne, us, hown, hR⟩
  · exact .inl ⟨rfl, rfl⟩
  · rcases hown.2 with ⟨_, hn⟩ | ⟨p, cap, cur, rfl, hbp, hh, hnc, _, hcs, htake⟩
    · exact absurd (List.length_eq_zero_iff.1 hn) hne
    · refine .inr ⟨p, cap, cur, rfl, by have := lt_of_heap hh; omega, hh, fun j s hj => ?_⟩
      obtain ⟨u, hu, hv⟩ := hR j s hj
      refine ⟨u, ?_, (vn_src hv hg).keep hB (fun _ _ => rfl)⟩
      rw [← htake, List.getElem?_take] at hu
      split at hu
      · rw [← Array.getElem?_toList]; exact hu
      · cases hu

theorem rowB_src {w : World} {base B : Nat} {v : Value} {l : List UInt8} (h : RowB w base v l) (hB : w.heap.size ≤ B) : SrcB w B v l := by
  rcases h with ⟨rfl, rfl⟩ | ⟨p, rfl, hb, hh⟩
  · exact .inl ⟨rfl, rfl⟩
  · refine .inr ⟨_, _, rfl, fun _ => by have := lt_of_heap hh; show p < B; omega, fun j u hu => ?_⟩
    rw [add_plain, Nat.zero_add, cell_of_heap hh]
    simpa using hu

theorem shv_of {w : World} {base : Nat} {C : Array Value} {g : Nat} {T : TypeId} {fr : Nat × Nat} {u : Value} {f : SH} (h : SHVal w base C g u f) (hg : w.heap[g]? = some (.cells C T fr)) : ∃ D, u = .agg D ∧ ShV w w.heap.size f D := by
  obtain ⟨v_random, v_session, v_sr, v_scts, v_sdata, v_pts, v_ech, v_cookie, e, h_random, h_session, h_sr, h_scts, h_sdata, h_pts, h_ech, h_cookie⟩ := h
  have le := Nat.le_refl w.heap.size
  have hv : ∀ {v : Value} {l : List UInt8}, VN C g v l → SrcB w w.heap.size v l := fun h => vn_src h hg
  exact ⟨_, e, v_random, v_session, v_sr, v_scts, v_sdata, v_pts, v_ech, v_cookie, rfl, hv h_random, hv h_session, hv h_sr, outN_srcL h_scts hg le, hv h_sdata, hv h_pts, rowB_src h_ech le, hv h_cookie⟩

/-- What reading leaves. -/
def ShGot (w : World) (bs : List UInt8) (e : Ending) (w' : World) : Prop :=
  Below w.heap.size w w' ∧ ((shRead bs = none ∧ ∃ D : Array Value, e = .returned (.tuple #[.agg D, .bool false]) ∧ D.size = 22 ∧ D.all (·.oneCell') = true) ∨ ∃ f D, shRead bs = some f ∧ e = .returned (.tuple #[.agg D, .bool true]) ∧ ShV w' w'.heap.size f D)

set_option maxRecDepth 100000 in
set_option maxHeartbeats 4000000 in
theorem shu_impl {C : Array Value} {g : Nat} {T : TypeId} {fr : Nat × Nat} {v : Value} {bs : List UInt8} (w : World) (hg : w.heap[g]? = some (.cells C T fr)) (hV : View C g v bs) :
    Calls Try.prog 25 #[v] w (ShuPost w C g bs) := by
  obtain ⟨off, cap, rfl, _⟩ := hV.slice
  obtain ⟨r0, hr0⟩ : ∃ x, x = w.heap.size := ⟨_, rfl⟩
  obtain ⟨W, hW⟩ : ∃ x, x = w.alloc (.cells zero22 37) := ⟨_, rfl⟩
  have hWs : W.heap.size = r0 + 1 := by rw [hW, hr0]; simp
  have HZ : Hid (W.heap[r0]? = some (.cells zero22 37 (0, 0))) := by rw [hW, hr0]; exact heap_alloc_new _ _
  have hf : Fs [] w W := by rw [hW]; exact (Fs.refl [] w).push _
  have HF := Lib.hid hf
  have HGW := Lib.hid ((hf.keep g (lt_of_heap hg) (by simp)).trans hg)
  have HV := Lib.hid hV
  have HW := Lib.hid hW
  have HR0 := Lib.hid hr0
  have HWS := Lib.hid hWs
  clear hg hV hW hf hWs
  go_enter Try.func25, Try.ntmps25
  go_wp2_with fail
  change Calls _ _ _ (w.alloc (.cells zero22 37)) _
  rw [← HW.out, ← HR0.out]
  clear hr0
  refine (shu_tls W HGW.out HV.out).mono ?_
  rintro e w1 ⟨hb1, hcase⟩
  have hD : ∃ (D : Array Value) (b : Bool), e = .returned (.tuple #[.agg D, .bool b]) ∧ D.size = 22 ∧ D.all (·.oneCell') = true := by
    rcases hcase with ⟨_, D, he, h1, h2⟩ | ⟨f, u, _, he, hv⟩
    · exact ⟨D, _, he, h1, h2⟩
    · obtain ⟨v_random, v_session, v_sr, v_scts, v_sdata, v_pts, v_ech, v_cookie, rfl, h_random, h_session, h_sr, h_scts, h_sdata, h_pts, h_ech, h_cookie⟩ := hv
      refine ⟨_, _, he, rfl, ?_⟩
      obtain ⟨_, _, _, rfl⟩ := h_random.slice
      obtain ⟨_, _, _, rfl⟩ := h_session.slice
      obtain ⟨_, _, _, rfl⟩ := h_sr.slice
      obtain ⟨_, _, _, rfl⟩ := h_scts.slice
      obtain ⟨_, _, _, rfl⟩ := h_sdata.slice
      obtain ⟨_, _, _, rfl⟩ := h_pts.slice
      obtain ⟨_, _, _, rfl⟩ := h_ech.slice
      obtain ⟨_, _, _, rfl⟩ := h_cookie.slice
      simp [Value.oneCell']
  obtain ⟨D, b, rfl, hDs, hD1⟩ := hD
  have HB1 := Lib.hid hb1
  have HC := Lib.hid hcase
  have HZ1 := Lib.hid ((hb1.block r0 (by have := HWS.out; omega)).trans HZ.out)
  clear hb1 hcase
  have hiD : (Try.prog.info? 90).map (·.size) = some D.size := by rw [hDs]; kernel_rfl
  have hiD2 : (Try.prog.info? 37).map (·.size) = some D.size := by rw [hDs]; kernel_rfl
  have hs0 : zero22.size = D.size := by rw [hDs]; rfl
  have hne : r0 ≠ w1.heap.size := by have := lt_of_heap HZ1.out; omega
  dsimp only
  repeat (first | (with_reducible refine wpList_store_row rfl 90 (.tmp 4) (.tmp 9) rfl w1.heap.size D rfl rfl 90 zero22 (heap_alloc_new w1 _) hiD hs0 hD1 ?_) | (with_reducible refine wpList_load_row rfl 90 (.tmp 4) rfl w1.heap.size rfl 90 D (0, 0) _ (setRow_heap _ _ _ _ _ _ (heap_alloc_new w1 _)) Try.underlying90 rfl hiD ?_) | (with_reducible refine wpList_store_row rfl 37 (.tmp 2) (.tmp 11) rfl r0 D rfl rfl 37 zero22 ((setRow_other _ _ _ _ hne).trans (heap_push HZ1.out)) hiD2 hs0 hD1 ?_) | go_step)
  refine ret_row_tmp (.bool b) rfl r0 37 D (0, 0) _ rfl rfl (setRow_heap _ _ _ _ _ _ ((setRow_other _ _ _ _ hne).trans (heap_push HZ1.out))) Try.underlying37 rfl hiD2 rfl ?_
  have hr := HR0.out
  have hws := HWS.out
  have hw : w.heap.size ≤ w1.heap.size := by have := HB1.out.size; omega
  have hb : Below w.heap.size w w1 := (fs_below HF.out (by simp)).trans (HB1.out.mono (by omega))
  refine ⟨below_setRow (below_setRow (hb.alloc hw _) hw _) (by omega) _, ?_⟩
  rcases HC.out with ⟨hno, D', he, h1, h2⟩ | ⟨f, u, hy, he, hv⟩
  · simp only [Ending.returned.injEq, Value.tuple.injEq, Array.mk.injEq, List.cons.injEq, Value.agg.injEq, Value.bool.injEq, and_true] at he
    obtain ⟨rfl, rfl⟩ := he
    exact .inl ⟨hno, D, rfl, h1, h2⟩
  · simp only [Ending.returned.injEq, Value.tuple.injEq, Array.mk.injEq, List.cons.injEq, Value.bool.injEq, and_true] at he
    obtain ⟨rfl, rfl⟩ := he
    refine .inr ⟨f, .agg D, hy, rfl, ?_⟩
    have hfr : Fs [r0] w1 (((w1.alloc (.cells zero22 90)).setRow w1.heap.size D).setRow r0 D) := ⟨rfl, rfl, rfl, by rw [size_setRow, size_setRow]; simp, fun k hk hn => (setRow_other _ _ _ _ (fun e => hn (by simp [e]))).trans ((setRow_other _ _ _ _ (by omega)).trans (Below.heap_alloc _ _ _ hk))⟩
    have hod : Odd w1 [r0] := Odd.cons HZ1.out (by decide) (by decide) (Odd.nil _)
    have hle : w.heap.size ≤ W.heap.size := by omega
    obtain ⟨v_random, v_session, v_sr, v_scts, v_sdata, v_pts, v_ech, v_cookie, e, h_random, h_session, h_sr, h_scts, h_sdata, h_pts, h_ech, h_cookie⟩ := hv
    exact ⟨v_random, v_session, v_sr, v_scts, v_sdata, v_pts, v_ech, v_cookie, e, h_random, h_session, h_sr, (h_scts.fs hfr hod).mono hle, h_sdata, h_pts, (h_ech.fs hfr hod).mono hle, h_cookie⟩

theorem shg_impl {v : Value} {bs : List UInt8} (w : World) (hIn : InB w w.heap.size v bs) : Calls Try.prog 25 #[v] w (ShGot w bs) := by
  rcases id hIn with ⟨a, cap, rfl, h4⟩ | ⟨h4, C, g, T, fr, hg1, hg, hV⟩
  · refine (shu_impl_no w hIn (shRead_short h4)).mono ?_
    rintro e w' ⟨hb, h⟩
    exact ⟨hb, .inl ⟨shRead_short h4, h⟩⟩
  · refine (shu_impl w hg hV).mono ?_
    rintro e w' ⟨hb, h | ⟨f, u, hy, he, hs⟩⟩
    · exact ⟨hb, .inl h⟩
    · obtain ⟨D, rfl, hD⟩ := shv_of hs ((hb.block g hg1).trans hg)
      exact ⟨hb, .inr ⟨f, D, hy, he, hD⟩⟩

set_option maxRecDepth 100000 in
set_option maxHeartbeats 4000000 in
theorem shm_tls {f : SH} {D : Array Value} (w : World) (K : ShFit f) (hX : (encX (shX f)).length < 65536) (hD : ShV w w.heap.size f D) :
    Calls Try.prog 69 #[.agg D] w fun e w' => ∃ v, e = .returned (.tuple #[v, .nilIface]) ∧ w'.ownsRow w.heap.size 5 1 v (wSH f).length ((wSH f).map by8) ∧ Below w.heap.size w w' := by
  obtain ⟨v_random, v_session, v_sr, v_scts, v_sdata, v_pts, v_ech, v_cookie, rfl, h_random, h_session, h_sr, h_scts, h_sdata, h_pts, h_ech, h_cookie⟩ := hD
  obtain ⟨a_random, k_random, rfl⟩ := h_random.len
  obtain ⟨a_session, k_session, rfl⟩ := h_session.len
  obtain ⟨a_sr, k_sr, rfl⟩ := h_sr.len
  obtain ⟨a_scts, k_scts, rfl, _⟩ := h_scts.len
  obtain ⟨a_sdata, k_sdata, rfl⟩ := h_sdata.len
  obtain ⟨a_pts, k_pts, rfl⟩ := h_pts.len
  obtain ⟨a_ech, k_ech, rfl⟩ := h_ech.len
  obtain ⟨a_cookie, k_cookie, rfl⟩ := h_cookie.len
  obtain ⟨W1, hW1⟩ : ∃ W1, W1 = w.alloc (.cells #[.int .u16 (f.vers : Nat), .slice a_random f.random.length k_random, .slice a_session f.session.length k_session, .int .u16 (f.cipher : Nat), .int .u8 (f.comp : Nat), .bool f.ocsp, .bool f.ticket, .bool f.srs, .slice a_sr f.sr.length k_sr, .bool f.ems, .string ⟨f.alpn.toArray⟩, .slice a_scts f.scts.length k_scts, .int .u16 (f.sver : Nat), .int .u16 (f.sgroup : Nat), .slice a_sdata f.sdata.length k_sdata, .bool f.sip, .int .u16 (f.sid : Nat), .slice a_pts f.pts.length k_pts, .slice a_ech f.ech.length k_ech, .bool f.sna, .slice a_cookie f.cookie.length k_cookie, .int .u16 (f.selg : Nat)] 90) := ⟨_, rfl⟩
  obtain ⟨W, hW⟩ : ∃ W, W = W1.alloc (.cells #[.slice none 0 0, .int .u16 (f.vers : Nat), .slice a_random f.random.length k_random, .slice a_session f.session.length k_session, .int .u16 (f.cipher : Nat), .int .u8 (f.comp : Nat), .bool f.ocsp, .bool f.ticket, .bool f.srs, .slice a_sr f.sr.length k_sr, .bool f.ems, .string ⟨f.alpn.toArray⟩, .slice a_scts f.scts.length k_scts, .int .u16 (f.sver : Nat), .int .u16 (f.sgroup : Nat), .slice a_sdata f.sdata.length k_sdata, .bool f.sip, .int .u16 (f.sid : Nat), .slice a_pts f.pts.length k_pts, .slice a_ech f.ech.length k_ech, .bool f.sna, .slice a_cookie f.cookie.length k_cookie, .int .u16 (f.selg : Nat)] 131) := ⟨_, rfl⟩
  obtain ⟨r0, hr0⟩ : ∃ r, r = w.heap.size := ⟨_, rfl⟩
  have hs1 : W1.heap.size = r0 + 1 := by rw [hW1, hr0]; simp
  have hWs : W.heap.size = r0 + 2 := by rw [hW]; simp [hs1]
  have h1 : W1.heap[r0]? = some (.cells #[.int .u16 (f.vers : Nat), .slice a_random f.random.length k_random, .slice a_session f.session.length k_session, .int .u16 (f.cipher : Nat), .int .u8 (f.comp : Nat), .bool f.ocsp, .bool f.ticket, .bool f.srs, .slice a_sr f.sr.length k_sr, .bool f.ems, .string ⟨f.alpn.toArray⟩, .slice a_scts f.scts.length k_scts, .int .u16 (f.sver : Nat), .int .u16 (f.sgroup : Nat), .slice a_sdata f.sdata.length k_sdata, .bool f.sip, .int .u16 (f.sid : Nat), .slice a_pts f.pts.length k_pts, .slice a_ech f.ech.length k_ech, .bool f.sna, .slice a_cookie f.cookie.length k_cookie, .int .u16 (f.selg : Nat)] 90 (0, 0)) := by rw [hW1, hr0]; exact heap_alloc_new _ _
  have hWm : W.heap[r0 + 1]? = some (.cells #[.slice none 0 0, .int .u16 (f.vers : Nat), .slice a_random f.random.length k_random, .slice a_session f.session.length k_session, .int .u16 (f.cipher : Nat), .int .u8 (f.comp : Nat), .bool f.ocsp, .bool f.ticket, .bool f.srs, .slice a_sr f.sr.length k_sr, .bool f.ems, .string ⟨f.alpn.toArray⟩, .slice a_scts f.scts.length k_scts, .int .u16 (f.sver : Nat), .int .u16 (f.sgroup : Nat), .slice a_sdata f.sdata.length k_sdata, .bool f.sip, .int .u16 (f.sid : Nat), .slice a_pts f.pts.length k_pts, .slice a_ech f.ech.length k_ech, .bool f.sna, .slice a_cookie f.cookie.length k_cookie, .int .u16 (f.selg : Nat)] 131 (0, 0)) := by
    rw [hW, ← hs1]; exact heap_alloc_new _ _
  have hk : ∀ k, k < w.heap.size → W.heap[k]? = w.heap[k]? := fun k hk => by
    rw [hW]; refine (Below.heap_alloc _ _ _ (by rw [hs1]; omega)).trans ?_
    rw [hW1]; exact Below.heap_alloc _ _ _ hk
  have hle : w.heap.size ≤ W.heap.size := by omega
  have d0 : W1.cell? ⟨r0, 0, none⟩ = some (.int .u16 (f.vers : Nat)) := by rw [cell_of_heap h1]; rfl
  have d1 : W1.cell? ⟨r0, 1, none⟩ = some (.slice a_random f.random.length k_random) := by rw [cell_of_heap h1]; rfl
  have d2 : W1.cell? ⟨r0, 2, none⟩ = some (.slice a_session f.session.length k_session) := by rw [cell_of_heap h1]; rfl
  have d3 : W1.cell? ⟨r0, 3, none⟩ = some (.int .u16 (f.cipher : Nat)) := by rw [cell_of_heap h1]; rfl
  have d4 : W1.cell? ⟨r0, 4, none⟩ = some (.int .u8 (f.comp : Nat)) := by rw [cell_of_heap h1]; rfl
  have d5 : W1.cell? ⟨r0, 5, none⟩ = some (.bool f.ocsp) := by rw [cell_of_heap h1]; rfl
  have d6 : W1.cell? ⟨r0, 6, none⟩ = some (.bool f.ticket) := by rw [cell_of_heap h1]; rfl
  have d7 : W1.cell? ⟨r0, 7, none⟩ = some (.bool f.srs) := by rw [cell_of_heap h1]; rfl
  have d8 : W1.cell? ⟨r0, 8, none⟩ = some (.slice a_sr f.sr.length k_sr) := by rw [cell_of_heap h1]; rfl
  have d9 : W1.cell? ⟨r0, 9, none⟩ = some (.bool f.ems) := by rw [cell_of_heap h1]; rfl
  have d10 : W1.cell? ⟨r0, 10, none⟩ = some (.string ⟨f.alpn.toArray⟩) := by rw [cell_of_heap h1]; rfl
  have d11 : W1.cell? ⟨r0, 11, none⟩ = some (.slice a_scts f.scts.length k_scts) := by rw [cell_of_heap h1]; rfl
  have d12 : W1.cell? ⟨r0, 12, none⟩ = some (.int .u16 (f.sver : Nat)) := by rw [cell_of_heap h1]; rfl
  have d13 : W1.cell? ⟨r0, 13, none⟩ = some (.int .u16 (f.sgroup : Nat)) := by rw [cell_of_heap h1]; rfl
  have d14 : W1.cell? ⟨r0, 14, none⟩ = some (.slice a_sdata f.sdata.length k_sdata) := by rw [cell_of_heap h1]; rfl
  have d15 : W1.cell? ⟨r0, 15, none⟩ = some (.bool f.sip) := by rw [cell_of_heap h1]; rfl
  have d16 : W1.cell? ⟨r0, 16, none⟩ = some (.int .u16 (f.sid : Nat)) := by rw [cell_of_heap h1]; rfl
  have d17 : W1.cell? ⟨r0, 17, none⟩ = some (.slice a_pts f.pts.length k_pts) := by rw [cell_of_heap h1]; rfl
  have d18 : W1.cell? ⟨r0, 18, none⟩ = some (.slice a_ech f.ech.length k_ech) := by rw [cell_of_heap h1]; rfl
  have d19 : W1.cell? ⟨r0, 19, none⟩ = some (.bool f.sna) := by rw [cell_of_heap h1]; rfl
  have d20 : W1.cell? ⟨r0, 20, none⟩ = some (.slice a_cookie f.cookie.length k_cookie) := by rw [cell_of_heap h1]; rfl
  have d21 : W1.cell? ⟨r0, 21, none⟩ = some (.int .u16 (f.selg : Nat)) := by rw [cell_of_heap h1]; rfl
  have HMM : Hid (ShIn W W.heap.size (r0 + 1) f) := Lib.hid ⟨_, hWm, fun i sd hi => by
    match i, hi with
    | 0, hi => cases hi; exact ⟨_, rfl, trivial⟩
    | 1, hi => cases hi; exact ⟨_, rfl, rfl⟩
    | 2, hi => cases hi; exact ⟨_, rfl, h_random.keep hle hk⟩
    | 3, hi => cases hi; exact ⟨_, rfl, h_session.keep hle hk⟩
    | 4, hi => cases hi; exact ⟨_, rfl, rfl⟩
    | 5, hi => cases hi; exact ⟨_, rfl, rfl⟩
    | 6, hi => cases hi; exact ⟨_, rfl, rfl⟩
    | 7, hi => cases hi; exact ⟨_, rfl, rfl⟩
    | 8, hi => cases hi; exact ⟨_, rfl, rfl⟩
    | 9, hi => cases hi; exact ⟨_, rfl, h_sr.keep hle hk⟩
    | 10, hi => cases hi; exact ⟨_, rfl, rfl⟩
    | 11, hi => cases hi; exact ⟨_, rfl, rfl⟩
    | 12, hi => cases hi; exact ⟨_, rfl, h_scts.keep hle hk⟩
    | 13, hi => cases hi; exact ⟨_, rfl, rfl⟩
    | 14, hi => cases hi; exact ⟨_, rfl, rfl⟩
    | 15, hi => cases hi; exact ⟨_, rfl, h_sdata.keep hle hk⟩
    | 16, hi => cases hi; exact ⟨_, rfl, rfl⟩
    | 17, hi => cases hi; exact ⟨_, rfl, rfl⟩
    | 18, hi => cases hi; exact ⟨_, rfl, h_pts.keep hle hk⟩
    | 19, hi => cases hi; exact ⟨_, rfl, h_ech.keep hle hk⟩
    | 20, hi => cases hi; exact ⟨_, rfl, rfl⟩
    | 21, hi => cases hi; exact ⟨_, rfl, h_cookie.keep hle hk⟩
    | 22, hi => cases hi; exact ⟨_, rfl, rfl⟩⟩
  have HBE : Hid (Below w.heap.size w W) := Lib.hid (by rw [hW]; refine Below.alloc ?_ (by rw [hs1]; omega) _; rw [hW1]; exact (Below.refl _ w).alloc (Nat.le_refl _) _)
  have HW1 := Lib.hid hW1
  have HW := Lib.hid hW
  have HWS := Lib.hid hWs
  have HS1 := Lib.hid hs1
  have HR0 := Lib.hid hr0
  clear h_random h_session h_sr h_scts h_sdata h_pts h_ech h_cookie hW1 hW hWs hWm hk hle h1 hs1 hr0
  go_enter Try.func69, Try.ntmps69
  go_upto_region 1 with fail
  rw [← HW1.out, ← HR0.out]
  go_upto_region 2 with (with_reducible refine wpList_build rfl 131 _ #[.slice none 0 0, .int .u16 (f.vers : Nat), .slice a_random f.random.length k_random, .slice a_session f.session.length k_session, .int .u16 (f.cipher : Nat), .int .u8 (f.comp : Nat), .bool f.ocsp, .bool f.ticket, .bool f.srs, .slice a_sr f.sr.length k_sr, .bool f.ems, .string ⟨f.alpn.toArray⟩, .slice a_scts f.scts.length k_scts, .int .u16 (f.sver : Nat), .int .u16 (f.sgroup : Nat), .slice a_sdata f.sdata.length k_sdata, .bool f.sip, .int .u16 (f.sid : Nat), .slice a_pts f.pts.length k_pts, .slice a_ech f.ech.length k_ech, .bool f.sna, .slice a_cookie f.cookie.length k_cookie, .int .u16 (f.selg : Nat)] rfl (by kernel_rfl) ?_)
  rw [← HW.out, HS1.out]
  go_wp2_with fail
  refine (sh_marshal W K hX HMM.out).mono ?_
  rintro e w1 ⟨v, rfl, hown, hbel⟩
  have HO := Lib.hid hown
  have HB := Lib.hid hbel
  clear hown hbel
  go_wp2_with fail
  go_ret2
  exact ⟨v, rfl, ownsRow_mono HO.out (by have := HWS.out; have := HR0.out; omega), HBE.out.trans (HB.out.mono (by have := HWS.out; have := HR0.out; omega))⟩

set_option maxRecDepth 100000 in
set_option maxHeartbeats 1000000 in
theorem shm_impl {f : SH} {D : Array Value} (w : World) (K : ShFit f) (hX : (encX (shX f)).length < 65536) (hD : ShV w w.heap.size f D) :
    Calls Try.prog 32 #[.agg D] w fun e w' => ∃ v, e = .returned (.tuple #[v, .bool true]) ∧ w'.ownsRow w.heap.size 5 1 v (wSH f).length ((wSH f).map by8) ∧ Below w.heap.size w w' := by
  have HD : Hid (ShV (w.alloc (.cells D 37)) (w.alloc (.cells D 37)).heap.size f D) := Lib.hid (hD.keep (by simp) fun k hk => Below.heap_alloc _ _ _ hk)
  obtain ⟨v_random, v_session, v_sr, v_scts, v_sdata, v_pts, v_ech, v_cookie, rfl, h_random, h_session, h_sr, h_scts, h_sdata, h_pts, h_ech, h_cookie⟩ := hD
  obtain ⟨a_random, k_random, rfl⟩ := h_random.len
  obtain ⟨a_session, k_session, rfl⟩ := h_session.len
  obtain ⟨a_sr, k_sr, rfl⟩ := h_sr.len
  obtain ⟨a_scts, k_scts, rfl, _⟩ := h_scts.len
  obtain ⟨a_sdata, k_sdata, rfl⟩ := h_sdata.len
  obtain ⟨a_pts, k_pts, rfl⟩ := h_pts.len
  obtain ⟨a_ech, k_ech, rfl⟩ := h_ech.len
  obtain ⟨a_cookie, k_cookie, rfl⟩ := h_cookie.len
  clear h_random h_session h_sr h_scts h_sdata h_pts h_ech h_cookie
  have hiD : (Try.prog.info? 37).map (·.size) = some (22 : Nat) := by kernel_rfl
  obtain ⟨W, hW⟩ : ∃ W, W = w.alloc (.cells #[.int .u16 (f.vers : Nat), .slice a_random f.random.length k_random, .slice a_session f.session.length k_session, .int .u16 (f.cipher : Nat), .int .u8 (f.comp : Nat), .bool f.ocsp, .bool f.ticket, .bool f.srs, .slice a_sr f.sr.length k_sr, .bool f.ems, .string ⟨f.alpn.toArray⟩, .slice a_scts f.scts.length k_scts, .int .u16 (f.sver : Nat), .int .u16 (f.sgroup : Nat), .slice a_sdata f.sdata.length k_sdata, .bool f.sip, .int .u16 (f.sid : Nat), .slice a_pts f.pts.length k_pts, .slice a_ech f.ech.length k_ech, .bool f.sna, .slice a_cookie f.cookie.length k_cookie, .int .u16 (f.selg : Nat)] 37) := ⟨_, rfl⟩
  obtain ⟨r0, hr0⟩ : ∃ r, r = w.heap.size := ⟨_, rfl⟩
  have h1 : W.heap[r0]? = some (.cells #[.int .u16 (f.vers : Nat), .slice a_random f.random.length k_random, .slice a_session f.session.length k_session, .int .u16 (f.cipher : Nat), .int .u8 (f.comp : Nat), .bool f.ocsp, .bool f.ticket, .bool f.srs, .slice a_sr f.sr.length k_sr, .bool f.ems, .string ⟨f.alpn.toArray⟩, .slice a_scts f.scts.length k_scts, .int .u16 (f.sver : Nat), .int .u16 (f.sgroup : Nat), .slice a_sdata f.sdata.length k_sdata, .bool f.sip, .int .u16 (f.sid : Nat), .slice a_pts f.pts.length k_pts, .slice a_ech f.ech.length k_ech, .bool f.sna, .slice a_cookie f.cookie.length k_cookie, .int .u16 (f.selg : Nat)] 37 (0, 0)) := by rw [hW, hr0]; exact heap_alloc_new _ _
  rw [← hW] at HD
  have HB0 : Hid (Below w.heap.size w W) := Lib.hid (by rw [hW]; exact (Below.refl _ w).alloc (Nat.le_refl _) _)
  have HW := Lib.hid hW
  have HR0 := Lib.hid hr0
  clear hr0
  obtain ⟨E, hE⟩ : ∃ E : Array Value, E = #[.int .u16 (f.vers : Nat), .slice a_random f.random.length k_random, .slice a_session f.session.length k_session, .int .u16 (f.cipher : Nat), .int .u8 (f.comp : Nat), .bool f.ocsp, .bool f.ticket, .bool f.srs, .slice a_sr f.sr.length k_sr, .bool f.ems, .string ⟨f.alpn.toArray⟩, .slice a_scts f.scts.length k_scts, .int .u16 (f.sver : Nat), .int .u16 (f.sgroup : Nat), .slice a_sdata f.sdata.length k_sdata, .bool f.sip, .int .u16 (f.sid : Nat), .slice a_pts f.pts.length k_pts, .slice a_ech f.ech.length k_ech, .bool f.sna, .slice a_cookie f.cookie.length k_cookie, .int .u16 (f.selg : Nat)] := ⟨_, rfl⟩
  rw [← hE] at HD h1 hW HW ⊢
  have hEs : E.size = 22 := by rw [hE]; rfl
  have HH := Lib.hid h1
  clear hW h1 hE
  rw [← hEs] at hiD
  have HID := Lib.hid hiD
  clear hiD
  go_enter Try.func32, Try.ntmps32
  go_upto_region 1 with fail
  rw [← HW.out, ← HR0.out]
  apply wp_region_lit
  repeat (first | (with_reducible refine wpList_load_row rfl 37 (.tmp 1) rfl r0 rfl 37 E (0, 0) _ HH.out Try.underlying37 rfl HID.out ?_) | go_step)
  refine (shm_tls W K hX HD.out).mono ?_
  rintro e w1 ⟨v, rfl, hown, hbel⟩
  have HO := Lib.hid hown
  have HB := Lib.hid hbel
  clear hown hbel
  go_wp2_with fail
  go_quiet (fail)
  go_wp2_with fail
  go_ret2
  exact ⟨v, rfl, ownsRow_mono HO.out HB0.out.size, Below_drewN (HB0.out.trans (HB.out.mono HB0.out.size)) nq⟩

theorem wpList_want {P : Program} {ops : Array Oper} {rest : List Oper} {o : Oper} {a : Act} {w : World} {Q : Exit → Act → World → Prop} (hw : Region.wanted o (yielded ops a.tmps) = true)
    (h : ∀ K : Act → World → Prop, (∀ a w, wpList P ops Q rest a w → K a w) → o.wp P a w K Q) : wpList P ops Q (o :: rest) a w :=
  wpList_step fun K hK => by simp only [hw, if_true]; exact h K hK

set_option maxRecDepth 100000 in
set_option maxHeartbeats 4000000 in
/-- Two that show the same. -/
theorem sh_same {f : SH} {D E : Array Value} {base : Nat} (w : World) (hb : base ≤ w.heap.size) (hD : ShV w base f D) (hE : ShV w base f E) (h1 : f.scts.length ≤ 2147483647) :
    Calls Try.prog 33 #[.agg D, .agg E] w fun e w' => e = .returned (.bool true) ∧ Below w.heap.size w w' := by
  obtain ⟨W, hW⟩ : ∃ W, W = (w.alloc (.cells D 37)).alloc (.cells E 37) := ⟨_, rfl⟩
  have hk : ∀ k, k < base → W.heap[k]? = w.heap[k]? := fun k hk => by
    rw [hW]; exact (Below.heap_alloc _ _ _ (by simp; omega)).trans (Below.heap_alloc _ _ _ (by omega))
  have HBE : Hid (Below w.heap.size w W) := Lib.hid (by rw [hW]; exact ((Below.refl _ w).alloc (Nat.le_refl _) _).alloc (by simp) _)
  obtain ⟨p, hp⟩ : ∃ p, p = w.heap.size := ⟨_, rfl⟩
  have hWd : W.heap[p]? = some (.cells D 37 (0, 0)) := by rw [hW, hp]; exact heap_push (heap_alloc_new _ _)
  have hWe : W.heap[p + 1]? = some (.cells E 37 (0, 0)) := by
    have h := heap_alloc_new (w.alloc (.cells D 37)) (.cells E 37)
    rw [World.size_alloc, ← hp] at h
    rw [hW]; exact h
  have hD2 := hD.keep (Nat.le_refl _) hk
  have hE2 := hE.keep (Nat.le_refl _) hk
  clear hD hE
  obtain ⟨v_random, v_session, v_sr, v_scts, v_sdata, v_pts, v_ech, v_cookie, eD, h_random, h_session, h_sr, h_scts, h_sdata, h_pts, h_ech, h_cookie⟩ := hD2
  obtain ⟨u_random, u_session, u_sr, u_scts, u_sdata, u_pts, u_ech, u_cookie, eE, g_random, g_session, g_sr, g_scts, g_sdata, g_pts, g_ech, g_cookie⟩ := hE2
  have P_random := Lib.hid h_random.src
  have Q_random := Lib.hid g_random.src
  have P_session := Lib.hid h_session.src
  have Q_session := Lib.hid g_session.src
  have P_sr := Lib.hid h_sr.src
  have Q_sr := Lib.hid g_sr.src
  have P_scts := Lib.hid h_scts.lst
  have Q_scts := Lib.hid g_scts.lst
  have P_sdata := Lib.hid h_sdata.src
  have Q_sdata := Lib.hid g_sdata.src
  have P_pts := Lib.hid h_pts.src
  have Q_pts := Lib.hid g_pts.src
  have P_ech := Lib.hid h_ech.src
  have Q_ech := Lib.hid g_ech.src
  have P_cookie := Lib.hid h_cookie.src
  have Q_cookie := Lib.hid g_cookie.src
  obtain ⟨a_random, k_random, rfl⟩ := h_random.len
  obtain ⟨a_session, k_session, rfl⟩ := h_session.len
  obtain ⟨a_sr, k_sr, rfl⟩ := h_sr.len
  obtain ⟨a_scts, k_scts, rfl, _⟩ := h_scts.len
  obtain ⟨a_sdata, k_sdata, rfl⟩ := h_sdata.len
  obtain ⟨a_pts, k_pts, rfl⟩ := h_pts.len
  obtain ⟨a_ech, k_ech, rfl⟩ := h_ech.len
  obtain ⟨a_cookie, k_cookie, rfl⟩ := h_cookie.len
  obtain ⟨ea_random, ek_random, rfl⟩ := g_random.len
  obtain ⟨ea_session, ek_session, rfl⟩ := g_session.len
  obtain ⟨ea_sr, ek_sr, rfl⟩ := g_sr.len
  obtain ⟨ea_scts, ek_scts, rfl, _⟩ := g_scts.len
  obtain ⟨ea_sdata, ek_sdata, rfl⟩ := g_sdata.len
  obtain ⟨ea_pts, ek_pts, rfl⟩ := g_pts.len
  obtain ⟨ea_ech, ek_ech, rfl⟩ := g_ech.len
  obtain ⟨ea_cookie, ek_cookie, rfl⟩ := g_cookie.len
  have d0 := hWd
  have d1 := hWe
  rw [eD] at d0
  rw [eE] at d1
  have a0 : W.cell? ⟨p, 0, none⟩ = some (.int .u16 (f.vers : Nat)) := by rw [cell_of_heap d0]; rfl
  have b0 : W.cell? ⟨p + 1, 0, none⟩ = some (.int .u16 (f.vers : Nat)) := by rw [cell_of_heap d1]; rfl
  have a1 : W.cell? ⟨p, 1, none⟩ = some (.slice a_random f.random.length k_random) := by rw [cell_of_heap d0]; rfl
  have b1 : W.cell? ⟨p + 1, 1, none⟩ = some (.slice ea_random f.random.length ek_random) := by rw [cell_of_heap d1]; rfl
  have a2 : W.cell? ⟨p, 2, none⟩ = some (.slice a_session f.session.length k_session) := by rw [cell_of_heap d0]; rfl
  have b2 : W.cell? ⟨p + 1, 2, none⟩ = some (.slice ea_session f.session.length ek_session) := by rw [cell_of_heap d1]; rfl
  have a3 : W.cell? ⟨p, 3, none⟩ = some (.int .u16 (f.cipher : Nat)) := by rw [cell_of_heap d0]; rfl
  have b3 : W.cell? ⟨p + 1, 3, none⟩ = some (.int .u16 (f.cipher : Nat)) := by rw [cell_of_heap d1]; rfl
  have a4 : W.cell? ⟨p, 4, none⟩ = some (.int .u8 (f.comp : Nat)) := by rw [cell_of_heap d0]; rfl
  have b4 : W.cell? ⟨p + 1, 4, none⟩ = some (.int .u8 (f.comp : Nat)) := by rw [cell_of_heap d1]; rfl
  have a5 : W.cell? ⟨p, 5, none⟩ = some (.bool f.ocsp) := by rw [cell_of_heap d0]; rfl
  have b5 : W.cell? ⟨p + 1, 5, none⟩ = some (.bool f.ocsp) := by rw [cell_of_heap d1]; rfl
  have a6 : W.cell? ⟨p, 6, none⟩ = some (.bool f.ticket) := by rw [cell_of_heap d0]; rfl
  have b6 : W.cell? ⟨p + 1, 6, none⟩ = some (.bool f.ticket) := by rw [cell_of_heap d1]; rfl
  have a7 : W.cell? ⟨p, 7, none⟩ = some (.bool f.srs) := by rw [cell_of_heap d0]; rfl
  have b7 : W.cell? ⟨p + 1, 7, none⟩ = some (.bool f.srs) := by rw [cell_of_heap d1]; rfl
  have a8 : W.cell? ⟨p, 8, none⟩ = some (.slice a_sr f.sr.length k_sr) := by rw [cell_of_heap d0]; rfl
  have b8 : W.cell? ⟨p + 1, 8, none⟩ = some (.slice ea_sr f.sr.length ek_sr) := by rw [cell_of_heap d1]; rfl
  have a9 : W.cell? ⟨p, 9, none⟩ = some (.bool f.ems) := by rw [cell_of_heap d0]; rfl
  have b9 : W.cell? ⟨p + 1, 9, none⟩ = some (.bool f.ems) := by rw [cell_of_heap d1]; rfl
  have a10 : W.cell? ⟨p, 10, none⟩ = some (.string ⟨f.alpn.toArray⟩) := by rw [cell_of_heap d0]; rfl
  have b10 : W.cell? ⟨p + 1, 10, none⟩ = some (.string ⟨f.alpn.toArray⟩) := by rw [cell_of_heap d1]; rfl
  have a11 : W.cell? ⟨p, 11, none⟩ = some (.slice a_scts f.scts.length k_scts) := by rw [cell_of_heap d0]; rfl
  have b11 : W.cell? ⟨p + 1, 11, none⟩ = some (.slice ea_scts f.scts.length ek_scts) := by rw [cell_of_heap d1]; rfl
  have a12 : W.cell? ⟨p, 12, none⟩ = some (.int .u16 (f.sver : Nat)) := by rw [cell_of_heap d0]; rfl
  have b12 : W.cell? ⟨p + 1, 12, none⟩ = some (.int .u16 (f.sver : Nat)) := by rw [cell_of_heap d1]; rfl
  have a13 : W.cell? ⟨p, 13, none⟩ = some (.int .u16 (f.sgroup : Nat)) := by rw [cell_of_heap d0]; rfl
  have b13 : W.cell? ⟨p + 1, 13, none⟩ = some (.int .u16 (f.sgroup : Nat)) := by rw [cell_of_heap d1]; rfl
  have a14 : W.cell? ⟨p, 14, none⟩ = some (.slice a_sdata f.sdata.length k_sdata) := by rw [cell_of_heap d0]; rfl
  have b14 : W.cell? ⟨p + 1, 14, none⟩ = some (.slice ea_sdata f.sdata.length ek_sdata) := by rw [cell_of_heap d1]; rfl
  have a15 : W.cell? ⟨p, 15, none⟩ = some (.bool f.sip) := by rw [cell_of_heap d0]; rfl
  have b15 : W.cell? ⟨p + 1, 15, none⟩ = some (.bool f.sip) := by rw [cell_of_heap d1]; rfl
  have a16 : W.cell? ⟨p, 16, none⟩ = some (.int .u16 (f.sid : Nat)) := by rw [cell_of_heap d0]; rfl
  have b16 : W.cell? ⟨p + 1, 16, none⟩ = some (.int .u16 (f.sid : Nat)) := by rw [cell_of_heap d1]; rfl
  have a17 : W.cell? ⟨p, 17, none⟩ = some (.slice a_pts f.pts.length k_pts) := by rw [cell_of_heap d0]; rfl
  have b17 : W.cell? ⟨p + 1, 17, none⟩ = some (.slice ea_pts f.pts.length ek_pts) := by rw [cell_of_heap d1]; rfl
  have a18 : W.cell? ⟨p, 18, none⟩ = some (.slice a_ech f.ech.length k_ech) := by rw [cell_of_heap d0]; rfl
  have b18 : W.cell? ⟨p + 1, 18, none⟩ = some (.slice ea_ech f.ech.length ek_ech) := by rw [cell_of_heap d1]; rfl
  have a19 : W.cell? ⟨p, 19, none⟩ = some (.bool f.sna) := by rw [cell_of_heap d0]; rfl
  have b19 : W.cell? ⟨p + 1, 19, none⟩ = some (.bool f.sna) := by rw [cell_of_heap d1]; rfl
  have a20 : W.cell? ⟨p, 20, none⟩ = some (.slice a_cookie f.cookie.length k_cookie) := by rw [cell_of_heap d0]; rfl
  have b20 : W.cell? ⟨p + 1, 20, none⟩ = some (.slice ea_cookie f.cookie.length ek_cookie) := by rw [cell_of_heap d1]; rfl
  have a21 : W.cell? ⟨p, 21, none⟩ = some (.int .u16 (f.selg : Nat)) := by rw [cell_of_heap d0]; rfl
  have b21 : W.cell? ⟨p + 1, 21, none⟩ = some (.int .u16 (f.selg : Nat)) := by rw [cell_of_heap d1]; rfl
  subst eD
  subst eE
  have HW := Lib.hid hW
  have HP := Lib.hid hp
  clear h_random g_random h_session g_session h_sr g_sr h_scts g_scts h_sdata g_sdata h_pts g_pts h_ech g_ech h_cookie g_cookie d0 d1 hW hk hWd hWe hp
  go_enter Try.func33, Try.ntmps33
  go_upto_region 1 with fail
  rw [← HW.out, ← HP.out]
  go_wp2_with fail
  refine (same_ok W P_random.out Q_random.out).mono ?_
  rintro e w1 ⟨rfl, rfl⟩
  simp only [decide_true]
  go_wp2_with fail
  refine (same_ok w1 P_session.out Q_session.out).mono ?_
  rintro e w2 ⟨rfl, rfl⟩
  simp only [decide_true]
  go_wp2_with fail
  refine (same_ok w2 P_sr.out Q_sr.out).mono ?_
  rintro e w3 ⟨rfl, rfl⟩
  simp only [decide_true]
  go_wp2_with fail
  refine (sameLists_ok w3 P_scts.out Q_scts.out h1).mono ?_
  rintro e w4 ⟨rfl, rfl⟩
  go_wp2_with fail
  refine (same_ok w4 P_sdata.out Q_sdata.out).mono ?_
  rintro e w5 ⟨rfl, rfl⟩
  simp only [decide_true]
  go_wp2_with fail
  refine (same_ok w5 P_pts.out Q_pts.out).mono ?_
  rintro e w6 ⟨rfl, rfl⟩
  simp only [decide_true]
  go_wp2_with fail
  refine (same_ok w6 P_ech.out Q_ech.out).mono ?_
  rintro e w7 ⟨rfl, rfl⟩
  simp only [decide_true]
  go_wp2_with fail
  refine (same_ok w7 P_cookie.out Q_cookie.out).mono ?_
  rintro e w8 ⟨rfl, rfl⟩
  simp only [decide_true]
  go_wp2_with fail
  go_ret
  exact ⟨rfl, HBE.out⟩

set_option maxRecDepth 100000 in
set_option maxHeartbeats 8000000 in
theorem shAgain_walk {v : Value} {bs : List UInt8} (w : World) (hIn : InB w w.heap.size v bs) (hl : bs.length ≤ maxLen) :
    Calls Try.prog 10 #[v] w fun e w' => e = .returned (.bool true) ∧ Below w.heap.size w w' := by
  obtain ⟨ad, cap, rfl⟩ := hIn.slice
  unfold maxLen at hl
  have HIN := Lib.hid hIn
  clear hIn
  by_cases hbig : ((bs.length : Nat) : Int) > 2147483647
  · go_enter Try.func10, Try.ntmps10
    go_wp2_with fail
    go_ret
    exact ⟨rfl, Below.refl _ _⟩
  · go_enter Try.func10, Try.ntmps10
    go_wp2_with fail
    refine (shg_impl w HIN.out).mono ?_
    rintro e w1 ⟨hb1, hcase⟩
    have hD : ∃ (D : Array Value) (b : Bool), e = .returned (.tuple #[.agg D, .bool b]) ∧ D.size = 22 ∧ D.all (·.oneCell') = true := by
      rcases hcase with ⟨_, D, he, h1, h2⟩ | ⟨f, D, _, he, hv⟩
      · exact ⟨D, _, he, h1, h2⟩
      · exact ⟨D, _, he, hv.all⟩
    obtain ⟨D, b, rfl, hDs, hD1⟩ := hD
    have hiD : (Try.prog.info? 37).map (·.size) = some D.size := by rw [hDs]; kernel_rfl
    have hs0 : zero22.size = D.size := by rw [hDs]; rfl
    obtain ⟨mB, hmB⟩ : ∃ x, x = w1.heap.size := ⟨_, rfl⟩
    obtain ⟨w2, hw2⟩ : ∃ x, x = (w1.alloc (.cells zero22 37)).setRow w1.heap.size D := ⟨_, rfl⟩
    have hb2 : Below w.heap.size w w2 := by rw [hw2]; exact below_setRow (hb1.alloc hb1.size _) hb1.size _
    have hm2 : w2.heap[mB]? = some (.cells D 37 (0, 0)) := by rw [hw2, hmB]; exact setRow_heap _ _ _ _ _ _ (heap_alloc_new w1 _)
    have hk2 : ∀ k, k < w1.heap.size → w2.heap[k]? = w1.heap[k]? := fun k hk => by rw [hw2]; exact (setRow_other _ _ _ _ (by omega)).trans (Below.heap_alloc _ _ _ hk)
    have hs2 : w2.heap.size = mB + 1 := by rw [hw2, hmB, size_setRow]; simp
    have HB2 := Lib.hid hb2
    have HM2 := Lib.hid hm2
    have HW2 := Lib.hid hw2
    have HS2 := Lib.hid hs2
    have HMB := Lib.hid hmB
    have HSB := Lib.hid hb1.size
    have HC : Hid ((shRead bs = none ∧ b = false) ∨ ∃ f, shRead bs = some f ∧ b = true ∧ ShV w2 w2.heap.size f D) := Lib.hid (by
      rcases hcase with ⟨hno, D', he, _, _⟩ | ⟨f, D', hy, he, hv⟩
      · simp only [Ending.returned.injEq, Value.tuple.injEq, Array.mk.injEq, List.cons.injEq, Value.bool.injEq, and_true] at he
        exact .inl ⟨hno, he.2⟩
      · simp only [Ending.returned.injEq, Value.tuple.injEq, Array.mk.injEq, List.cons.injEq, Value.agg.injEq, Value.bool.injEq, and_true] at he
        obtain ⟨rfl, e2⟩ := he
        exact .inr ⟨f, hy, e2, hv.keep (by omega) hk2⟩)
    clear hcase hb1 hb2 hm2 hw2 hk2 hs2 hmB
    go_upto_region 4 with (with_reducible refine wpList_store_row rfl 37 (.tmp 3) (.tmp 15) rfl w1.heap.size D rfl rfl 37 zero22 (heap_alloc_new w1 _) hiD hs0 hD1 ?_)
    change Code.wp _ _ _ _ ((w1.alloc (.cells zero22 37)).setRow w1.heap.size D)
    rw [← HW2.out, ← HMB.out]
    rcases HC.out with ⟨_, rfl⟩ | ⟨f, hy, rfl, hV⟩
    · go_wp2_with fail
      refine (alive_ok _).mono ?_
      rintro e w4 ⟨rfl, hb4⟩
      have HB4 := Lib.hid hb4
      clear hb4
      go_wp2_with fail
      go_ret
      exact ⟨rfl, HB2.out.trans (HB4.out.mono HB2.out.size)⟩
    · have HY := Lib.hid hy
      have HV := Lib.hid hV
      have q13 : w2.cell? ⟨mB, 13, none⟩ = some (.int .u16 (f.sgroup : Nat)) := by
        obtain ⟨v_random, v_session, v_sr, v_scts, v_sdata, v_pts, v_ech, v_cookie, rfl, _⟩ := hV
        rw [cell_of_heap HM2.out]; rfl
      have q14 : ∃ a k, w2.cell? ⟨mB, 14, none⟩ = some (.slice a f.sdata.length k) := by
        obtain ⟨v_random, v_session, v_sr, v_scts, v_sdata, v_pts, v_ech, v_cookie, rfl, _, _, _, _, h_sdata, _, _, _⟩ := hV
        obtain ⟨a, k, rfl⟩ := h_sdata.len
        exact ⟨a, k, by rw [cell_of_heap HM2.out]; rfl⟩
      obtain ⟨a14, k14, q14⟩ := q14
      clear hy hV
      by_cases hlong : ((bs.length : Nat) : Int) > 60000
      · go_wp2_with fail
        refine (alive_ok _).mono ?_
        rintro e w4 ⟨rfl, hb4⟩
        have HB4 := Lib.hid hb4
        clear hb4
        go_wp2_with fail
        go_ret
        exact ⟨rfl, HB2.out.trans (HB4.out.mono HB2.out.size)⟩
      · by_cases hg : f.sgroup ≠ 0 ∨ f.sdata = []
        · obtain ⟨hag, hfit, hX, hlw⟩ := sh_again HY.out (by omega) hg
          have hcond : (f.sgroup ≠ 0) ∨ (f.sgroup = 0 ∧ f.sdata.length = 0) := by
            rcases hg with h | h
            · exact .inl h
            · by_cases hz : f.sgroup = 0
              · exact .inr ⟨hz, by rw [h]; rfl⟩
              · exact .inl hz
          have HAG := Lib.hid hag
          have HFIT := Lib.hid hfit
          have HX := Lib.hid hX
          have HLW := Lib.hid hlw
          clear hag hfit hX hlw hg
          have fin : ∀ (w2' : World), w2' = w2 → True := fun _ _ => trivial
          clear fin
          rcases hcond with hnz | ⟨hz, hz2⟩
          · have c1 : (((f.sgroup : Nat) : Int) == 0) = false := by simpa using hnz
            have c2 : ¬ ((f.sgroup : Nat) : Int) = 0 := by omega
            clear hnz
            go_upto_region 6 with fail
            clear c1 c2 q13 q14
            apply wp_region_lit
            repeat (first | (with_reducible refine wpList_load_row rfl 37 (.tmp 3) rfl mB rfl 37 D (0, 0) _ HM2.out Try.underlying37 rfl hiD ?_) | go_step)
            refine (shm_impl w2 HFIT.out HX.out HV.out).mono ?_
            rintro e w3 ⟨b, rfl, hown, hb3⟩
            obtain ⟨ab, cb, rfl⟩ := row_slice hown
            have hlen : 4 ≤ (wSH f).length := by simp [wSH, en_length]; omega
            have HIN2 := Lib.hid (inB_own hown hlen (Nat.le_refl _))
            have HB3 := Lib.hid hb3
            clear hown hb3
            go_wp2_with fail
            refine (shg_impl w3 HIN2.out).mono ?_
            rintro e w4 ⟨hb4, hcase⟩
            rcases hcase with ⟨hno, _⟩ | ⟨f', E, hy', rfl, hE⟩
            · rw [HAG.out] at hno; cases hno
            · rw [HAG.out] at hy'
              obtain rfl : f = f' := by simpa using hy'
              have hE1 := hE.all
              have hiE : (Try.prog.info? 37).map (·.size) = some E.size := by rw [hE1.1]; kernel_rfl
              have hsE : zero22.size = E.size := by rw [hE1.1]; rfl
              have hs4 := hb4.size
              have hs3 := HB3.out.size
              have hsz2 := HS2.out
              have hk3 : ∀ k, k < w2.heap.size → w4.heap[k]? = w2.heap[k]? := fun k hk => (hb4.block k (by omega)).trans (HB3.out.block k hk)
              have hD4 := HV.out.keep (by omega : w2.heap.size ≤ w4.heap.size) hk3
              have hm4 := (hk3 mB (by omega)).trans HM2.out
              obtain ⟨w5, hw5⟩ : ∃ x, x = (w4.alloc (.cells zero22 37)).setRow w4.heap.size E := ⟨_, rfl⟩
              have hk5 : ∀ k, k < w4.heap.size → w5.heap[k]? = w4.heap[k]? := fun k hk => by rw [hw5]; exact (setRow_other _ _ _ _ (by omega)).trans (Below.heap_alloc _ _ _ hk)
              have hs5 : w5.heap.size = w4.heap.size + 1 := by rw [hw5, size_setRow]; simp
              have he5 : w5.heap[w4.heap.size]? = some (.cells E 37 (0, 0)) := by rw [hw5]; exact setRow_heap _ _ _ _ _ _ (heap_alloc_new w4 _)
              have hm5 := (hk5 mB (by omega)).trans hm4
              have HD5 := Lib.hid (hD4.keep (Nat.le_refl _) hk5)
              have HE5 := Lib.hid (hE.keep (Nat.le_refl _) hk5)
              have HBF : Hid (Below w.heap.size w w5) := Lib.hid (by
                have h0 := HB2.out.size
                rw [hw5]
                exact below_setRow (((HB2.out.trans (HB3.out.mono h0)).trans (hb4.mono (by omega))).alloc (by omega) _) (by omega) _)
              have HW5 := Lib.hid hw5
              have HM5 := Lib.hid hm5
              have HEE5 := Lib.hid he5
              have hone := hE1.2
              clear hb4 hE hy' hE1 hk3 hD4 hm4 hw5 hk5 he5 hm5
              go_upto_region 8 with (with_reducible refine wpList_store_row rfl 37 (.tmp 7) (.tmp 44) rfl w4.heap.size E rfl rfl 37 zero22 (heap_alloc_new w4 _) hiE hsE hone ?_)
              change Code.wp _ _ _ _ ((w4.alloc (.cells zero22 37)).setRow w4.heap.size E)
              rw [← HW5.out]
              go_wp2_with (first | (with_reducible refine wpList_want rfl (fun K hK => wp_load_row 37 (.tmp 7) rfl w4.heap.size rfl 37 E (0, 0) _ HEE5.out Try.underlying37 rfl hiE (hK _ _ ?_))) | (with_reducible refine wpList_want rfl (fun K hK => wp_load_row 37 (.tmp 3) rfl mB rfl 37 D (0, 0) _ HM5.out Try.underlying37 rfl hiD (hK _ _ ?_))))
              refine (sh_same w5 (by omega) HE5.out HD5.out HFIT.out.sctsn).mono ?_
              rintro e w6 ⟨rfl, hb6⟩
              have HB6 := Lib.hid hb6
              clear hb6
              go_wp2_with fail
              go_ret
              exact ⟨rfl, HBF.out.trans (HB6.out.mono HBF.out.size)⟩
          · have c1 : (((f.sgroup : Nat) : Int) == 0) = true := by simp [hz]
            have c2 : ((f.sgroup : Nat) : Int) = 0 := by omega
            have c3 : ¬ (0 : Int) < ((f.sdata.length : Nat) : Int) := by omega
            have c4 : decide (0 < f.sdata.length) = false := by simp [hz2]
            clear hz hz2
            go_upto_region 6 with fail
            clear c1 c2 q13 q14
            apply wp_region_lit
            repeat (first | (with_reducible refine wpList_load_row rfl 37 (.tmp 3) rfl mB rfl 37 D (0, 0) _ HM2.out Try.underlying37 rfl hiD ?_) | go_step)
            refine (shm_impl w2 HFIT.out HX.out HV.out).mono ?_
            rintro e w3 ⟨b, rfl, hown, hb3⟩
            obtain ⟨ab, cb, rfl⟩ := row_slice hown
            have hlen : 4 ≤ (wSH f).length := by simp [wSH, en_length]; omega
            have HIN2 := Lib.hid (inB_own hown hlen (Nat.le_refl _))
            have HB3 := Lib.hid hb3
            clear hown hb3
            go_wp2_with fail
            refine (shg_impl w3 HIN2.out).mono ?_
            rintro e w4 ⟨hb4, hcase⟩
            rcases hcase with ⟨hno, _⟩ | ⟨f', E, hy', rfl, hE⟩
            · rw [HAG.out] at hno; cases hno
            · rw [HAG.out] at hy'
              obtain rfl : f = f' := by simpa using hy'
              have hE1 := hE.all
              have hiE : (Try.prog.info? 37).map (·.size) = some E.size := by rw [hE1.1]; kernel_rfl
              have hsE : zero22.size = E.size := by rw [hE1.1]; rfl
              have hs4 := hb4.size
              have hs3 := HB3.out.size
              have hsz2 := HS2.out
              have hk3 : ∀ k, k < w2.heap.size → w4.heap[k]? = w2.heap[k]? := fun k hk => (hb4.block k (by omega)).trans (HB3.out.block k hk)
              have hD4 := HV.out.keep (by omega : w2.heap.size ≤ w4.heap.size) hk3
              have hm4 := (hk3 mB (by omega)).trans HM2.out
              obtain ⟨w5, hw5⟩ : ∃ x, x = (w4.alloc (.cells zero22 37)).setRow w4.heap.size E := ⟨_, rfl⟩
              have hk5 : ∀ k, k < w4.heap.size → w5.heap[k]? = w4.heap[k]? := fun k hk => by rw [hw5]; exact (setRow_other _ _ _ _ (by omega)).trans (Below.heap_alloc _ _ _ hk)
              have hs5 : w5.heap.size = w4.heap.size + 1 := by rw [hw5, size_setRow]; simp
              have he5 : w5.heap[w4.heap.size]? = some (.cells E 37 (0, 0)) := by rw [hw5]; exact setRow_heap _ _ _ _ _ _ (heap_alloc_new w4 _)
              have hm5 := (hk5 mB (by omega)).trans hm4
              have HD5 := Lib.hid (hD4.keep (Nat.le_refl _) hk5)
              have HE5 := Lib.hid (hE.keep (Nat.le_refl _) hk5)
              have HBF : Hid (Below w.heap.size w w5) := Lib.hid (by
                have h0 := HB2.out.size
                rw [hw5]
                exact below_setRow (((HB2.out.trans (HB3.out.mono h0)).trans (hb4.mono (by omega))).alloc (by omega) _) (by omega) _)
              have HW5 := Lib.hid hw5
              have HM5 := Lib.hid hm5
              have HEE5 := Lib.hid he5
              have hone := hE1.2
              clear hb4 hE hy' hE1 hk3 hD4 hm4 hw5 hk5 he5 hm5
              go_upto_region 8 with (with_reducible refine wpList_store_row rfl 37 (.tmp 7) (.tmp 44) rfl w4.heap.size E rfl rfl 37 zero22 (heap_alloc_new w4 _) hiE hsE hone ?_)
              change Code.wp _ _ _ _ ((w4.alloc (.cells zero22 37)).setRow w4.heap.size E)
              rw [← HW5.out]
              go_wp2_with (first | (with_reducible refine wpList_want rfl (fun K hK => wp_load_row 37 (.tmp 7) rfl w4.heap.size rfl 37 E (0, 0) _ HEE5.out Try.underlying37 rfl hiE (hK _ _ ?_))) | (with_reducible refine wpList_want rfl (fun K hK => wp_load_row 37 (.tmp 3) rfl mB rfl 37 D (0, 0) _ HM5.out Try.underlying37 rfl hiD (hK _ _ ?_))))
              refine (sh_same w5 (by omega) HE5.out HD5.out HFIT.out.sctsn).mono ?_
              rintro e w6 ⟨rfl, hb6⟩
              have HB6 := Lib.hid hb6
              clear hb6
              go_wp2_with fail
              go_ret
              exact ⟨rfl, HBF.out.trans (HB6.out.mono HBF.out.size)⟩
        · have c0 : f.sgroup = 0 ∧ 0 < f.sdata.length := by
            refine ⟨?_, ?_⟩
            · by_cases h : f.sgroup = 0
              · exact h
              · exact absurd (.inl h) hg
            · exact List.length_pos_iff.2 fun h => hg (.inr h)
          obtain ⟨hz, hz2⟩ := c0
          have c1 : (((f.sgroup : Nat) : Int) == 0) = true := by simp [hz]
          have c2 : ((f.sgroup : Nat) : Int) = 0 := by omega
          have c3 : (0 : Int) < ((f.sdata.length : Nat) : Int) := by omega
          have c4 : decide (0 < f.sdata.length) = true := by simpa using hz2
          clear hg hz
          go_wp2_with fail
          refine (alive_ok _).mono ?_
          rintro e w4 ⟨rfl, hb4⟩
          have HB4 := Lib.hid hb4
          clear hb4
          go_wp2_with fail
          go_ret
          exact ⟨rfl, HB2.out.trans (HB4.out.mono HB2.out.size)⟩

end Go.Proofs.Ytopcljikkdlffaa
