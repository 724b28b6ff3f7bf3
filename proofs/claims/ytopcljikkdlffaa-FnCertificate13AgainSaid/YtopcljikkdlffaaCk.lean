/- UnmarshalCertificate13 of package tls and of package impl. No statement of the seat is proved here. -/
import Derived.Test.YtopcljikkdlffaaCd
namespace Go.Proofs.Ytopcljikkdlffaa
open Go.RowKit

theorem fs_bel {w w' : World} {l : List Nat} (hf : Fs l w w') (hl : ∀ p ∈ l, w.heap.size ≤ p) : Below w.heap.size w w' :=
  ⟨hf.os, hf.tape, hf.output, hf.size, fun k hk => hf.keep k hk (fun hm => by have := hl k hm; omega)⟩

/-- A struct is put together, in a region that draws its order. -/
theorem wpStill_build {P : Program} {ops : Array Oper} {rest : List Oper} {o : Oper} {a : Act} {w : World} {Q : Act → Prop} (hgd : o.guard = none) (t : TypeId) (parts : Array (Nat × Operand)) (cells : Array Value) (ho : o.op = .build t parts)
    (hf : P.built t (parts.map fun (i, x) => (i, a.eval x)).toList = some cells) (h : wpStill P ops w Q rest (a.put o.dst (.agg cells))) : wpStill P ops w Q (o :: rest) a := by
  refine wpStill_step fun K hK => ?_
  simp only [Region.wanted, hgd, if_true]
  unfold Oper.still
  rw [exec_build t parts cells ho hf]
  exact ⟨rfl, hK _ h⟩

/-- The cells of a Certificate13 that nothing was said of. -/
def zero5b : Array Value := #[.slice none 0 0, .bool false, .bool false, .slice none 0 0, .slice none 0 0]

/-- What reading leaves: it was refused; or the fields, by value. -/
def C13Got (w : World) (lo : Nat) (bs : List UInt8) (e : Ending) (w' : World) : Prop :=
  Below w.heap.size w w' ∧ ((c13Read bs = none ∧ e = .returned (.tuple #[.agg zero5b, .bool false])) ∨
    ∃ (f : C13) (C : Array Value) (g : Nat) (T : TypeId) (fr : Nat × Nat) (v0 v1 v2 : Value), c13Read bs = some f ∧ g < lo ∧ w.heap[g]? = some (.cells C T fr) ∧
      e = .returned (.tuple #[.agg #[v0, .bool (decide (f.staple ≠ [])), .bool (decide (f.stamps ≠ [])), v1, v2], .bool true]) ∧
      FRel w' w.heap.size C g (.own 22 1 f.certs.length (ShowL C g f.certs)) v0 ∧ FRel w' w.heap.size C g (.vz f.staple) v1 ∧ FRel w' w.heap.size C g (.own 22 1 f.stamps.length (ShowL C g f.stamps)) v2)

theorem c13_short {bs : List UInt8} (h : bs.length < 4) : c13Read bs = none := by
  have h1 : rd 4 bs = none := by unfold rd; rw [if_neg (by omega)]
  simp [c13Read, h1]

theorem FRel.mono {w : World} {base base' : Nat} {C : Array Value} {g : Nat} {fd : FD} {v : Value} (h : FRel w base' C g fd v) (hb : base ≤ base') : FRel w base C g fd v := by
  cases fd with
  | own e size n R =>
    obtain ⟨us, h1, h2⟩ := h
    exact ⟨us, ownsRow_mono h1 hb, h2⟩
  | any => exact h
  | val u => exact h
  | vw l => exact h
  | vn l => exact h
  | vz l => exact h

def CuAny (w : World) (m : Nat) (lo : Nat) (bs : List UInt8) (e : Ending) (w' : World) : Prop :=
  (c13Read bs = none ∧ e = .returned (.bool false) ∧ Fs [m] w w') ∨ ∃ f C g T fr, c13Read bs = some f ∧ e = .returned (.bool true) ∧ g < lo ∧ w.heap[g]? = some (.cells C T fr) ∧ Bn w C g m [(m, c13G C g f)] none w'

theorem cu_any {m lo : Nat} {v : Value} {bs : List UInt8} (w : World) (hm : w.heap[m]? = some (.cells zero5 136 (0, 0))) (hlo : lo ≤ m) (hIn : InB w lo v bs) (hbs : bs.length ≤ 4294967296) :
    Calls Try.prog 85 #[.pointer (some ⟨m, 0, none⟩), v] w (CuAny w m lo bs) := by
  rcases hIn with ⟨a, cap, rfl, h4⟩ | ⟨h4, C, g, T, fr, hg1, hg, hV⟩
  · refine (cu_short w hm h4).mono ?_
    rintro e w' ⟨hf, rfl⟩
    exact .inl ⟨c13_short h4, rfl, hf⟩
  · refine (cu_ok w hm hg (by omega) hV hbs).mono ?_
    rintro e w' (⟨hno, he, hf⟩ | ⟨f, hy, he, hb⟩)
    · exact .inl ⟨hno, he, hf⟩
    · exact .inr ⟨f, C, g, T, fr, hy, he, hg1, hg, hb⟩

set_option maxRecDepth 100000 in
set_option maxHeartbeats 8000000 in
theorem c13u_tls {v : Value} {bs : List UInt8} {lo : Nat} (w : World) (hlo : lo ≤ w.heap.size) (hIn : InB w lo v bs) (hbs : bs.length ≤ 4294967296) :
    Calls Try.prog 59 #[v] w (C13Got w lo bs) := by
  obtain ⟨ad, cap, rfl⟩ := hIn.slice
  have HIN := Lib.hid hIn
  obtain ⟨r0, hr0⟩ : ∃ x, x = w.heap.size := ⟨_, rfl⟩
  obtain ⟨W, hW⟩ : ∃ x, x = (w.alloc (.cells zero5b 93)).alloc (.cells zero5 136) := ⟨_, rfl⟩
  have hWs : W.heap.size = r0 + 2 := by rw [hW, hr0]; simp
  have HZ : Hid (W.heap[r0]? = some (.cells zero5b 93 (0, 0))) := by rw [hW, hr0]; exact heap_push (heap_alloc_new _ _)
  have hM : W.heap[r0 + 1]? = some (.cells zero5 136 (0, 0)) := by
    have h := heap_alloc_new (w.alloc (.cells zero5b 93)) (.cells zero5 136)
    rw [World.size_alloc] at h
    rw [hW, hr0]; exact h
  have hf : Fs [] w W := by rw [hW]; exact ((Fs.refl [] w).push _).push _
  have HF := Lib.hid hf
  have HM := Lib.hid hM
  have HW := Lib.hid hW
  have HR0 := Lib.hid hr0
  have HWS := Lib.hid hWs
  have HB := Lib.hid (HIN.out.below ((fs_bel hf (by simp)).mono hlo))
  clear hIn hW hM hf hWs
  go_enter Try.func59, Try.ntmps59
  go_wp2_with fail
  change Calls _ _ _ ((w.alloc (.cells zero5b 93)).alloc (.cells zero5 136)) _
  rw [← HW.out, ← HR0.out]
  clear hr0
  refine (cu_any (m := r0 + 1) (lo := lo) W HM.out (by have := HR0.out; omega) HB.out hbs).mono ?_
  rintro e w1 (⟨hno, rfl, hf1⟩ | ⟨f, C, g, T, fr, hy, rfl, hg1, hg, hb⟩)
  · have hz1 : w1.heap[r0]? = some (.cells zero5b 93 (0, 0)) := (hf1.keep r0 (by have := HWS.out; omega) (by simp)).trans HZ.out
    have HF1 : Hid (Fs [r0 + 1] w w1) := (HF.out.mono (by simp)).trans hf1
    have HZ1 := Lib.hid hz1
    have HN := Lib.hid hno
    clear hz1 hf1 hno
    go_upto_region 3 with fail
    apply wp_region_lit
    iterate 6 (first | (refine wpList_store_row rfl 93 (.tmp 2) (.tmp 10) rfl r0 zero5b rfl rfl 93 zero5b HZ1.out (by kernel_rfl) rfl (by simp [zero5b, Value.oneCell']) ?_) | go_step)
    go_wp2_with fail
    refine ret_row_tmp (.bool false) rfl r0 93 zero5b (0, 0) _ rfl rfl (setRow_heap _ _ _ _ _ _ HZ1.out) Try.underlying93 rfl (by kernel_rfl) rfl ?_
    refine ⟨?_, .inl ⟨HN.out, rfl⟩⟩
    have h := fs_bel (HF1.out.mono (l' := [r0, r0 + 1]) (by simp)) (by have := HR0.out; simp; omega)
    exact below_setRow h (by have := HR0.out; omega) _
  · have hz1 : w1.heap[r0]? = some (.cells zero5b 93 (0, 0)) := (hb.fs.keep r0 (by have := HWS.out; omega) (by simp)).trans HZ.out
    have HF1 : Hid (Fs [r0 + 1] w w1) := (HF.out.mono (by simp)).trans hb.fs
    have HZ1 := Lib.hid hz1
    have HY := Lib.hid hy
    have HG1 := Lib.hid hg1
    have HG := Lib.hid hg
    obtain ⟨v0, h0, hv0⟩ := hb.at (b := 0) (i := 0) rfl rfl
    obtain ⟨v1, h1, hv1⟩ := hb.at (b := 0) (i := 1) rfl rfl
    obtain ⟨v2, h2, hv2⟩ := hb.at (b := 0) (i := 2) rfl rfl
    have h3 := hb.val (b := 0) (i := 3) rfl rfl
    have h4 := hb.val (b := 0) (i := 4) rfl rfl
    have hs0 : (∃ a n c, v0 = .slice a n c) ∧ (∃ a n c, v1 = .slice a n c) ∧ ∃ a n c, v2 = .slice a n c := by
      obtain ⟨us, ho, _⟩ := id hv0
      obtain ⟨us2, ho2, _⟩ := id hv2
      obtain ⟨_, _, e1⟩ := row_slice ho
      obtain ⟨_, _, e2⟩ := row_slice ho2
      refine ⟨⟨_, _, _, e1⟩, ?_, ⟨_, _, _, e2⟩⟩
      rcases hv1 with ⟨_, e⟩ | ⟨_, o, c, e, _⟩
      · exact ⟨_, _, _, e⟩
      · exact ⟨_, _, _, e⟩
    obtain ⟨⟨a0, n0, c0, rfl⟩, ⟨a1, n1, c1, rfl⟩, a2, n2, c2, rfl⟩ := hs0
    have HV0 := Lib.hid hv0
    have HV1 := Lib.hid hv1
    have HV2 := Lib.hid hv2
    obtain ⟨b3, hb3⟩ : ∃ b, b = decide (f.staple ≠ []) := ⟨_, rfl⟩
    obtain ⟨b4, hb4⟩ : ∃ b, b = decide (f.stamps ≠ []) := ⟨_, rfl⟩
    rw [← hb3] at h3
    rw [← hb4] at h4
    have HB3 := Lib.hid hb3
    have HB4 := Lib.hid hb4
    clear hz1 hb hy hg1 hg hv0 hv1 hv2 hb3 hb4
    go_wp2_with fail
    refine region_tail 24 (by kernel_rfl) ?_
    simp only [List.take_succ_cons, List.take_zero, List.drop_succ_cons, List.drop_zero]
    repeat still_step
    refine wpStill_nil ?_
    iterate 1 (first | (refine wpList_store_row rfl 93 (.tmp 2) (.tmp 34) rfl r0 #[.slice a0 n0 c0, .bool b3, .bool b4, .slice a1 n1 c1, .slice a2 n2 c2] rfl rfl 93 zero5b HZ1.out (by kernel_rfl) rfl (by simp [Value.oneCell']) ?_) | go_step)
    go_wp2_with fail
    refine ret_row_tmp (.bool true) rfl r0 93 #[.slice a0 n0 c0, .bool b3, .bool b4, .slice a1 n1 c1, .slice a2 n2 c2] (0, 0) _ rfl rfl (setRow_heap _ _ _ _ _ _ HZ1.out) Try.underlying93 rfl (by kernel_rfl) rfl ?_
    have hr := HR0.out
    have hws := HWS.out
    refine ⟨?_, .inr ⟨f, C, g, T, fr, .slice a0 n0 c0, .slice a1 n1 c1, .slice a2 n2 c2, HY.out, HG1.out, ?_, ?_, ?_, ?_, ?_⟩⟩
    · have h : Below w.heap.size w w1.drew := fs_bel (l := [r0, r0 + 1]) (HF1.out.mono (by simp)).drew (fun p hp => by simp at hp; omega)
      exact below_setRow h (by omega) _
    · rw [← HF.out.keep g (by have := HG1.out; omega) (by simp)]; exact HG.out
    · rw [HB3.out, HB4.out]
    · exact (HV0.out.mono (by omega)).kept fun ho k hk => setRow_other _ _ _ _ (fun e => by have := (HV0.out.lt ho k hk).1; omega)
    · exact (HV1.out.mono (by omega)).kept fun ho k hk => by cases ho
    · exact (HV2.out.mono (by omega)).kept fun ho k hk => setRow_other _ _ _ _ (fun e => by have := (HV2.out.lt ho k hk).1; omega)

set_option maxRecDepth 100000 in
set_option maxHeartbeats 4000000 in
theorem c13u_impl {v : Value} {bs : List UInt8} {lo : Nat} (w : World) (hlo : lo ≤ w.heap.size) (hIn : InB w lo v bs) (hbs : bs.length ≤ 4294967296) :
    Calls Try.prog 26 #[v] w (C13Got w lo bs) := by
  obtain ⟨ad, cap, rfl⟩ := hIn.slice
  obtain ⟨r0, hr0⟩ : ∃ x, x = w.heap.size := ⟨_, rfl⟩
  obtain ⟨W, hW⟩ : ∃ x, x = w.alloc (.cells zero5b 43) := ⟨_, rfl⟩
  have hWs : W.heap.size = r0 + 1 := by rw [hW, hr0]; simp
  have HZ : Hid (W.heap[r0]? = some (.cells zero5b 43 (0, 0))) := by rw [hW, hr0]; exact heap_alloc_new _ _
  have hf : Fs [] w W := by rw [hW]; exact (Fs.refl [] w).push _
  have HF := Lib.hid hf
  have HIN : Hid (InB W lo (.slice ad bs.length cap) bs) := Lib.hid (hIn.below ((fs_bel hf (by simp)).mono hlo))
  have HW := Lib.hid hW
  have HR0 := Lib.hid hr0
  have HWS := Lib.hid hWs
  clear hIn hW hf hWs
  go_enter Try.func26, Try.ntmps26
  go_wp2_with fail
  change Calls _ _ _ (w.alloc (.cells zero5b 43)) _
  rw [← HW.out, ← HR0.out]
  clear hr0
  refine (c13u_tls W (by have := HR0.out; have := HWS.out; omega) HIN.out hbs).mono ?_
  rintro e w1 ⟨hb1, hcase⟩
  have hD : ∃ (D : Array Value) (b : Bool), e = .returned (.tuple #[.agg D, .bool b]) ∧ D.size = 5 ∧ D.all (·.oneCell') = true := by
    rcases hcase with ⟨_, he⟩ | ⟨f, C, g, T, fr, v0, v1, v2, _, _, _, he, hv0, hv1, hv2⟩
    · exact ⟨_, _, he, rfl, by simp [zero5b, Value.oneCell']⟩
    · refine ⟨_, _, he, rfl, ?_⟩
      obtain ⟨us, ho, _⟩ := hv0
      obtain ⟨us2, ho2, _⟩ := hv2
      obtain ⟨_, _, rfl⟩ := row_slice ho
      obtain ⟨_, _, rfl⟩ := row_slice ho2
      rcases hv1 with ⟨_, rfl⟩ | ⟨_, o, c, rfl, _⟩ <;> simp [Value.oneCell']
  obtain ⟨D, b, rfl, hDs, hD1⟩ := hD
  have HB1 := Lib.hid hb1
  have HC := Lib.hid hcase
  have HZ1 := Lib.hid ((hb1.block r0 (by have := HWS.out; omega)).trans HZ.out)
  clear hb1 hcase
  have hiD : (Try.prog.info? 93).map (·.size) = some D.size := by rw [hDs]; kernel_rfl
  have hiD2 : (Try.prog.info? 43).map (·.size) = some D.size := by rw [hDs]; kernel_rfl
  have hs0 : zero5b.size = D.size := by rw [hDs]; rfl
  have hne : r0 ≠ w1.heap.size := by have := lt_of_heap HZ1.out; omega
  dsimp only
  repeat (first | (with_reducible refine wpList_store_row rfl 93 (.tmp 4) (.tmp 9) rfl w1.heap.size D rfl rfl 93 zero5b (heap_alloc_new w1 _) hiD hs0 hD1 ?_) | (with_reducible refine wpList_load_row rfl 93 (.tmp 4) rfl w1.heap.size rfl 93 D (0, 0) _ (setRow_heap _ _ _ _ _ _ (heap_alloc_new w1 _)) Try.underlying93 rfl hiD ?_) | (with_reducible refine wpList_store_row rfl 43 (.tmp 2) (.tmp 11) rfl r0 D rfl rfl 43 zero5b ((setRow_other _ _ _ _ hne).trans (heap_push HZ1.out)) hiD2 hs0 hD1 ?_) | go_step)
  refine ret_row_tmp (.bool b) rfl r0 43 D (0, 0) _ rfl rfl (setRow_heap _ _ _ _ _ _ ((setRow_other _ _ _ _ hne).trans (heap_push HZ1.out))) Try.underlying43 rfl hiD2 rfl ?_
  have hr := HR0.out
  have hws := HWS.out
  have hw : w.heap.size ≤ w1.heap.size := by have := HB1.out.size; omega
  have hb : Below w.heap.size w w1 := (fs_bel HF.out (by simp)).trans (HB1.out.mono (by omega))
  refine ⟨below_setRow (below_setRow (hb.alloc hw _) hw _) (by omega) _, ?_⟩
  rcases HC.out with ⟨hno, he⟩ | ⟨f, C, g, T, fr, v0, v1, v2, hy, hg1, hg, he, hv0, hv1, hv2⟩
  · simp only [Ending.returned.injEq, Value.tuple.injEq, Array.mk.injEq, List.cons.injEq, Value.agg.injEq, Value.bool.injEq, and_true] at he
    obtain ⟨rfl, rfl⟩ := he
    exact .inl ⟨hno, rfl⟩
  · have hkeep : ∀ k, k ≠ r0 → k < w1.heap.size → (((w1.alloc (.cells zero5b 93)).setRow w1.heap.size D).setRow r0 D).heap[k]? = w1.heap[k]? := fun k h1 h2 =>
      (setRow_other _ _ _ _ (fun e => h1 e)).trans ((setRow_other _ _ _ _ (by omega)).trans (Below.heap_alloc _ _ _ h2))
    refine .inr ⟨f, C, g, T, fr, v0, v1, v2, hy, hg1, ?_, ?_, ?_, ?_, ?_⟩
    · rw [← HF.out.keep g (by omega) (by simp)]; exact hg
    · simp only [Ending.returned.injEq, Value.tuple.injEq, Array.mk.injEq, List.cons.injEq, Value.agg.injEq, Value.bool.injEq, and_true] at he
      obtain ⟨rfl, rfl⟩ := he
      rfl
    · exact (hv0.mono (by omega)).kept fun ho k hk => hkeep k (by have := (hv0.lt ho k hk).1; omega) (hv0.lt ho k hk).2
    · exact (hv1.mono (by omega)).kept fun ho k hk => by cases ho
    · exact (hv2.mono (by omega)).kept fun ho k hk => hkeep k (by have := (hv2.lt ho k hk).1; omega) (hv2.lt ho k hk).2

end Go.Proofs.Ytopcljikkdlffaa
