/- UnmarshalClientHello of package tls and of package impl, for any bytes that came in. No statement of the seat is proved here. -/
import Derived.Test.YtopcljikkdlffaaX36
namespace Go.Proofs.Ytopcljikkdlffaa
open Go.RowKit

theorem InB.up7 {w w' : World} {lo hi : Nat} {v : Value} {bs : List UInt8} (h : InB w lo v bs) (hb : Below lo w w') (hh : lo ≤ hi) : InB w' hi v bs := by
  rcases h with h | ⟨h4, C, g, T, fr, hl, hg, hv⟩
  · exact .inl h
  · exact .inr ⟨h4, C, g, T, fr, by omega, (hb.block g hl).trans hg, hv⟩

/-- What reading any bytes leaves. -/
def UnGot (w : World) (lo : Nat) (bs : List UInt8) (e : Ending) (w' : World) : Prop :=
  Below w.heap.size w w' ∧ ((chRead bs = none ∧ ∃ D : Array Value, e = .returned (.tuple #[.agg D, .bool false]) ∧ D.size = 31 ∧ D.all (·.oneCell') = true) ∨
    ∃ (f : CH) (D : Array Value) (base : Nat) (C : Array Value) (g : Nat), chRead bs = some f ∧ e = .returned (.tuple #[.agg D, .bool true]) ∧ D.size = 31 ∧ D.all (·.oneCell') = true ∧ w.heap.size ≤ base ∧ g < lo ∧ (∃ T fr, w'.heap[g]? = some (.cells C T fr)) ∧
      ∀ (i : Nat) (fd : FD), (uV C g f)[i]? = some fd → ∃ x, D[i]? = some x ∧ FRel w' base C g fd x)

theorem UnGot.val {w w' : World} {lo : Nat} {bs : List UInt8} {e : Ending} (h : UnGot w lo bs e w') : ∃ D : Array Value, e = .returned (.tuple #[.agg D, .bool (chRead bs).isSome]) ∧ D.size = 31 ∧ D.all (·.oneCell') = true := by
  rcases h.2 with ⟨h1, D, he, h2, h3⟩ | ⟨f, D, base, C, g, h1, he, h2, h3, _⟩
  · exact ⟨D, by rw [he, h1]; rfl, h2, h3⟩
  · exact ⟨D, by rw [he, h1]; rfl, h2, h3⟩

set_option maxRecDepth 100000 in
set_option maxHeartbeats 8000000 in
/-- Fewer than four bytes, whatever their address. -/
theorem ch_short {m : Nat} {ad : Option Addr} {n cap : Nat} (w : World) (hm : w.heap[m]? = some (.cells (zero29 (.slice none 0 0)) 142 (0, 0))) (h4 : n < 4) :
    Calls Try.prog 89 #[.pointer (some ⟨m, 0, none⟩), .slice ad n cap] w fun e w' => Fs [m] w w' ∧ e = .returned (.bool false) := by
  have HM := Lib.hid hm
  obtain ⟨W, hW⟩ : ∃ x, x = w.setRow m (zero29 (.slice ad n cap)) := ⟨_, rfl⟩
  have HWF : Hid (Fs [m] w W) := by rw [hW]; exact ⟨rfl, rfl, rfl, by rw [size_setRow]; exact Nat.le_refl _, fun k _ hn => setRow_other _ _ _ _ (fun e => hn (by simp [e]))⟩
  have hWs : W.heap.size = w.heap.size := by rw [hW, size_setRow]
  obtain ⟨sB, hsB⟩ : ∃ x, x = w.heap.size := ⟨_, rfl⟩
  have hWs2 : W.heap.size = sB := by rw [hWs, hsB]
  obtain ⟨W1, hW1⟩ : ∃ x, x = W.alloc (.cells #[.slice ad n cap] 152) := ⟨_, rfl⟩
  have hd : W1.heap[sB]? = some (.cells #[.slice ad n cap] 152 (0, 0)) := by
    have h := heap_alloc_new W (.cells #[.slice ad n cap] 152)
    rw [hWs2] at h
    rw [hW1]; exact h
  have HF1 : Hid (Fs [m] w W1) := by rw [hW1]; exact HWF.out.push _
  have HW := Lib.hid hW
  have HW1 := Lib.hid hW1
  have c0 := cell_head hd
  clear hm hW hWs hsB hW1 hd
  go_enter Try.func89, Try.ntmps89
  go_upto_region 1 with fail
  apply wp_region_lit
  iterate 12 (first | (refine wpList_store_row rfl 142 (.tmp 36) (.tmp 35) rfl m (zero29 (.slice ad n cap)) rfl rfl 142 (zero29 (.slice none 0 0)) HM.out (by kernel_rfl) rfl (by simp [zero29, Value.oneCell']) ?_) | go_step)
  refine wpList_store_row rfl 142 (.tmp 36) (.tmp 35) rfl m (zero29 (.slice ad n cap)) rfl rfl 142 (zero29 (.slice none 0 0)) HM.out (by kernel_rfl) rfl (by simp [zero29, Value.oneCell']) ?_
  rw [← HW.out]
  clear HW HM
  go_wp2_with fail
  rw [← HW1.out]
  clear hWs2 HW1
  refine (skip_no ⟨sB, 0, none⟩ 4 W1 (by omega) (by omega) (by omega) c0).mono ?_
  rintro e wx ⟨rfl, rfl⟩
  go_wp2_with fail
  go_ret
  exact ⟨HF1.out, rfl⟩

theorem chRead_short {bs : List UInt8} (h : bs.length < 4) : chRead bs = none := by
  have h1 : rd 4 bs = none := by unfold rd; rw [if_neg (by omega)]
  simp [chRead, chHead, h1]

set_option maxRecDepth 100000 in
set_option maxHeartbeats 8000000 in
theorem chu_short {ad : Option Addr} {n cap : Nat} (w : World) (h4 : n < 4) :
    Calls Try.prog 65 #[.slice ad n cap] w fun e w' => Below w.heap.size w w' ∧ ∃ D : Array Value, e = .returned (.tuple #[.agg D, .bool false]) ∧ D.size = 31 ∧ D.all (·.oneCell') = true := by
  obtain ⟨r0, hr0⟩ : ∃ x, x = w.heap.size := ⟨_, rfl⟩
  obtain ⟨W, hW⟩ : ∃ x, x = (w.alloc (.cells zero31 102)).alloc (.cells (zero29 (.slice none 0 0)) 142) := ⟨_, rfl⟩
  have hWs : W.heap.size = r0 + 2 := by rw [hW, hr0]; simp
  have HZ : Hid (W.heap[r0]? = some (.cells zero31 102 (0, 0))) := by rw [hW, hr0]; exact heap_push (heap_alloc_new _ _)
  have hM : W.heap[r0 + 1]? = some (.cells (zero29 (.slice none 0 0)) 142 (0, 0)) := by
    have h := heap_alloc_new (w.alloc (.cells zero31 102)) (.cells (zero29 (.slice none 0 0)) 142)
    rw [World.size_alloc] at h
    rw [hW, hr0]; exact h
  have hf : Fs [] w W := by rw [hW]; exact ((Fs.refl [] w).push _).push _
  have HF := Lib.hid hf
  have HM := Lib.hid hM
  have HW := Lib.hid hW
  have HR0 := Lib.hid hr0
  clear hW hM hf
  go_enter Try.func65, Try.ntmps65
  go_wp2_with fail
  change Calls _ _ _ ((w.alloc (.cells zero31 102)).alloc (.cells (zero29 (.slice none 0 0)) 142)) _
  rw [← HW.out, ← HR0.out]
  clear hr0
  refine (ch_short (m := r0 + 1) W HM.out h4).mono ?_
  rintro e w1 ⟨hf1, rfl⟩
  have HZ1 : Hid (w1.heap[r0]? = some (.cells zero31 102 (0, 0))) := Lib.hid ((hf1.keep r0 (by omega) (by simp)).trans HZ.out)
  have HF1 : Hid (Fs [r0 + 1] w w1) := Lib.hid ((HF.out.mono (by simp)).trans hf1)
  clear hf1
  go_upto_region 3 with fail
  apply wp_region_lit
  iterate 6 (first | (refine wpList_store_row rfl 102 (.tmp 2) (.tmp 15) rfl r0 zero31 rfl rfl 102 zero31 HZ1.out (by kernel_rfl) rfl (by simp [zero31, Value.oneCell']) ?_) | go_step)
  go_wp2_with fail
  refine ret_row_tmp (.bool false) rfl r0 102 zero31 (0, 0) _ rfl rfl (setRow_heap _ _ _ _ _ _ HZ1.out) Try.underlying102 rfl (by kernel_rfl) rfl ?_
  refine ⟨?_, zero31, rfl, rfl, by simp [zero31, Value.oneCell']⟩
  have h := fs_bel (HF1.out.mono (l' := [r0, r0 + 1]) (by simp)) (by have := HR0.out; simp; omega)
  exact below_setRow h (by have := HR0.out; omega) _

theorem chg_tls {lo : Nat} {v : Value} {bs : List UInt8} (w : World) (hIn : InB w lo v bs) (hlo : lo ≤ w.heap.size) (hbs : bs.length ≤ 4294967295) : Calls Try.prog 65 #[v] w (UnGot w lo bs) := by
  rcases id hIn with ⟨a, cap, rfl, h4⟩ | ⟨h4, C, g, T, fr, hg1, hg, hV⟩
  · refine (chu_short w h4).mono ?_
    rintro e w' ⟨hb, h⟩
    exact ⟨hb, .inl ⟨chRead_short h4, h⟩⟩
  · refine (chu_tls w hg hV hbs).mono ?_
    rintro e w' ⟨hb, h | ⟨f, D, base, hy, he, hs, h1, hbase, hrel⟩⟩
    · exact ⟨hb, .inl h⟩
    · exact ⟨hb, .inr ⟨f, D, base, C, g, hy, he, hs, h1, hbase, hg1, ⟨T, fr, (hb.block g (by omega)).trans hg⟩, hrel⟩⟩

set_option maxRecDepth 100000 in
set_option maxHeartbeats 4000000 in
theorem chg_impl {lo : Nat} {v : Value} {bs : List UInt8} (w : World) (hIn : InB w lo v bs) (hlo : lo ≤ w.heap.size) (hbs : bs.length ≤ 4294967295) :
    Calls Try.prog 30 #[v] w (UnGot w lo bs) := by
  obtain ⟨ad, cap, rfl⟩ := hIn.slice
  obtain ⟨r0, hr0⟩ : ∃ x, x = w.heap.size := ⟨_, rfl⟩
  obtain ⟨W, hW⟩ : ∃ x, x = w.alloc (.cells zero31 52) := ⟨_, rfl⟩
  have hWs : W.heap.size = r0 + 1 := by rw [hW, hr0]; simp
  have HZ : Hid (W.heap[r0]? = some (.cells zero31 52 (0, 0))) := by rw [hW, hr0]; exact heap_alloc_new _ _
  have hf : Fs [] w W := by rw [hW]; exact (Fs.refl [] w).push _
  have HF := Lib.hid hf
  have HIN : Hid (InB W lo (.slice ad bs.length cap) bs) := Lib.hid (hIn.up7 ((fs_bel hf (by simp)).mono hlo) (Nat.le_refl _))
  have HGL : Hid (w.heap.size ≤ W.heap.size) := Lib.hid (by omega)
  have HW := Lib.hid hW
  have HR0 := Lib.hid hr0
  have HWS := Lib.hid hWs
  clear hIn hW hf hWs
  go_enter Try.func30, Try.ntmps30
  go_wp2_with fail
  change Calls _ _ _ (w.alloc (.cells zero31 52)) _
  rw [← HW.out, ← HR0.out]
  clear hr0
  refine (chg_tls W HIN.out (by have := HGL.out; omega) hbs).mono ?_
  intro e w1 hgot
  obtain ⟨D, he, hDs, hD1⟩ := hgot.val
  obtain ⟨b, hb⟩ : ∃ b, b = (chRead bs).isSome := ⟨_, rfl⟩
  rw [← hb] at he
  subst he
  have HC := Lib.hid hgot
  have HB1 := Lib.hid hgot.1
  have HBB := Lib.hid hb
  have HZ1 := Lib.hid ((hgot.1.block r0 (by have := HWS.out; omega)).trans HZ.out)
  have hiD : (Try.prog.info? 102).map (·.size) = some D.size := by rw [hDs]; kernel_rfl
  have hiD2 : (Try.prog.info? 52).map (·.size) = some D.size := by rw [hDs]; kernel_rfl
  have hs0 : zero31.size = D.size := by rw [hDs]; rfl
  have hne : r0 ≠ w1.heap.size := by have := lt_of_heap HZ1.out; omega
  have HDS := Lib.hid hDs
  clear hgot hb hDs
  dsimp only
  repeat (first | (with_reducible refine wpList_store_row rfl 102 (.tmp 4) (.tmp 9) rfl w1.heap.size D rfl rfl 102 zero31 (heap_alloc_new w1 _) hiD hs0 hD1 ?_) | (with_reducible refine wpList_load_row rfl 102 (.tmp 4) rfl w1.heap.size rfl 102 D (0, 0) _ (setRow_heap _ _ _ _ _ _ (heap_alloc_new w1 _)) Try.underlying102 rfl hiD ?_) | (with_reducible refine wpList_store_row rfl 52 (.tmp 2) (.tmp 11) rfl r0 D rfl rfl 52 zero31 ((setRow_other _ _ _ _ hne).trans (heap_push HZ1.out)) hiD2 hs0 hD1 ?_) | go_step)
  refine ret_row_tmp (.bool b) rfl r0 52 D (0, 0) _ rfl rfl (setRow_heap _ _ _ _ _ _ ((setRow_other _ _ _ _ hne).trans (heap_push HZ1.out))) Try.underlying52 rfl hiD2 rfl ?_
  have hr := HR0.out
  have hws := HWS.out
  have hw : w.heap.size ≤ w1.heap.size := by have := HB1.out.size; omega
  have hb : Below w.heap.size w w1 := (fs_bel HF.out (by simp)).trans (HB1.out.mono (by omega))
  refine ⟨below_setRow (below_setRow (hb.alloc hw _) hw _) (by omega) _, ?_⟩
  rcases HC.out.2 with ⟨hno, D', he, h1, h2⟩ | ⟨f, D', base, C, g, hy, he, h1, h2, hbase, hgl, hgd, hrel⟩
  · simp only [Ending.returned.injEq, Value.tuple.injEq, Array.mk.injEq, List.cons.injEq, Value.agg.injEq, Value.bool.injEq, and_true] at he
    obtain ⟨rfl, rfl⟩ := he
    exact .inl ⟨hno, D, rfl, HDS.out, hD1⟩
  · simp only [Ending.returned.injEq, Value.tuple.injEq, Array.mk.injEq, List.cons.injEq, Value.agg.injEq, Value.bool.injEq, and_true] at he
    obtain ⟨rfl, rfl⟩ := he
    obtain ⟨T, fr, hgd⟩ := hgd
    have hkeep : ∀ k, k < w1.heap.size → k ≠ r0 → (((w1.alloc (.cells zero31 102)).setRow w1.heap.size D).setRow r0 D).heap[k]? = w1.heap[k]? := fun k hk hn =>
      (setRow_other _ _ _ _ hn).trans ((setRow_other _ _ _ _ (by omega)).trans (Below.heap_alloc _ _ _ hk))
    have hgr : g ≠ r0 := by omega
    refine .inr ⟨f, D, base, C, g, hy, rfl, HDS.out, hD1, by have := HGL.out; omega, hgl, ⟨T, fr, (hkeep g (lt_of_heap hgd) hgr).trans hgd⟩, fun i fd hi => ?_⟩
    obtain ⟨x, hx, hr2⟩ := hrel i fd hi
    exact ⟨x, hx, hr2.kept fun ho k hk => hkeep k (hr2.lt ho k hk).2 (by have := (hr2.lt ho k hk).1; omega)⟩

end Go.Proofs.Ytopcljikkdlffaa
