/- UnmarshalServerHello of package tls and of package impl: bytes that are refused. No statement of the seat is proved here. -/
import Derived.Test.YtopcljikkdlffaaSe
namespace Go.Proofs.Ytopcljikkdlffaa
open Go.RowKit

theorem fs_below {w w' : World} {l : List Nat} (hf : Fs l w w') (hl : ∀ p ∈ l, w.heap.size ≤ p) : Below w.heap.size w w' :=
  ⟨hf.os, hf.tape, hf.output, hf.size, fun k hk => hf.keep k hk (fun hm => by have := hl k hm; omega)⟩

/-- Reading was refused. -/
def ShuNo (w : World) (e : Ending) (w' : World) : Prop := Below w.heap.size w w' ∧ ∃ D : Array Value, e = .returned (.tuple #[.agg D, .bool false]) ∧ D.size = 22 ∧ D.all (·.oneCell') = true

set_option maxRecDepth 100000 in
set_option maxHeartbeats 8000000 in
/-- Fewer than four bytes, whatever their address. -/
theorem sh_short {m : Nat} {ad : Option Addr} {n cap : Nat} (w : World) (hm : w.heap[m]? = some (.cells (zero23 (.slice none 0 0)) 131 (0, 0))) (h4 : n < 4) :
    Calls Try.prog 84 #[.pointer (some ⟨m, 0, none⟩), .slice ad n cap] w fun e w' => Fs [m] w w' ∧ e = .returned (.bool false) := by
  have HM := Lib.hid hm
  obtain ⟨W, hW⟩ : ∃ x, x = w.setRow m (zero23 (.slice ad n cap)) := ⟨_, rfl⟩
  have HWF : Hid (Fs [m] w W) := by rw [hW]; exact ⟨rfl, rfl, rfl, by rw [size_setRow]; exact Nat.le_refl _, fun k _ hn => setRow_other _ _ _ _ (fun e => hn (by simp [e]))⟩
  have hWs : W.heap.size = w.heap.size := by rw [hW, size_setRow]
  obtain ⟨sB, hsB⟩ : ∃ x, x = w.heap.size := ⟨_, rfl⟩
  have hWs2 : W.heap.size = sB := by rw [hWs, hsB]
  obtain ⟨W1, hW1⟩ : ∃ x, x = W.alloc (.cells #[.slice ad n cap] 152) := ⟨_, rfl⟩
  have hd : W1.heap[sB]? = some (.cells #[.slice ad n cap] 152 (0, 0)) := by
    have h := heap_alloc_new W (.cells #[.slice ad n cap] 152)
    rw [hWs2] at h
    rw [hW1]; exact h
  have HF1 : Hid (Fs [m] w W1) := by rw [hW1]; exact HWF.out.push _
  have HW := Lib.hid hW
  have HW1 := Lib.hid hW1
  have c0 := cell_head hd
  clear hm hW hWs hsB hW1 hd
  go_enter Try.func84, Try.ntmps84
  go_upto_region 1 with fail
  apply wp_region_lit
  iterate 12 (first | (refine wpList_store_row rfl 131 (.tmp 17) (.tmp 16) rfl m (zero23 (.slice ad n cap)) rfl rfl 131 (zero23 (.slice none 0 0)) HM.out (by kernel_rfl) rfl (by simp [zero23, Value.oneCell']) ?_) | go_step)
  refine wpList_store_row rfl 131 (.tmp 17) (.tmp 16) rfl m (zero23 (.slice ad n cap)) rfl rfl 131 (zero23 (.slice none 0 0)) HM.out (by kernel_rfl) rfl (by simp [zero23, Value.oneCell']) ?_
  rw [← HW.out]
  clear HW HM
  go_wp2_with fail
  rw [← HW1.out]
  clear hWs2 HW1
  refine (skip_no ⟨sB, 0, none⟩ 4 W1 (by omega) (by omega) (by omega) c0).mono ?_
  rintro e wx ⟨rfl, rfl⟩
  go_wp2_with fail
  go_ret
  exact ⟨HF1.out, rfl⟩

theorem shRead_short {bs : List UInt8} (h : bs.length < 4) : shRead bs = none := by
  have h1 : rd 4 bs = none := by unfold rd; rw [if_neg (by omega)]
  simp [shRead, shHead, h1]

theorem sh_no {m lo : Nat} {v : Value} {bs : List UInt8} (w : World) (hm : w.heap[m]? = some (.cells (zero23 (.slice none 0 0)) 131 (0, 0))) (hlo : lo ≤ m) (hIn : InB w lo v bs) (hno : shRead bs = none) :
    Calls Try.prog 84 #[.pointer (some ⟨m, 0, none⟩), v] w fun e w' => Fs [m] w w' ∧ e = .returned (.bool false) := by
  rcases hIn with ⟨a, cap, rfl, h4⟩ | ⟨h4, C, g, T, fr, hg1, hg, hV⟩
  · exact sh_short w hm h4
  · refine (sh_unmarshal w hm hg (by omega) hV).mono ?_
    rintro e w' ⟨hf, ⟨_, he⟩ | ⟨f, hy, _⟩⟩
    · exact ⟨hf, he⟩
    · rw [hno] at hy; cases hy

set_option maxRecDepth 100000 in
set_option maxHeartbeats 8000000 in
theorem shu_tls_no {v : Value} {bs : List UInt8} (w : World) (hIn : InB w w.heap.size v bs) (hno : shRead bs = none) :
    Calls Try.prog 58 #[v] w (ShuNo w) := by
  have HN := Lib.hid hno
  clear hno
  obtain ⟨ad, cap, rfl⟩ := hIn.slice
  have HIN := Lib.hid hIn
  obtain ⟨r0, hr0⟩ : ∃ x, x = w.heap.size := ⟨_, rfl⟩
  obtain ⟨W, hW⟩ : ∃ x, x = (w.alloc (.cells zero22 90)).alloc (.cells (zero23 (.slice none 0 0)) 131) := ⟨_, rfl⟩
  have hWs : W.heap.size = r0 + 2 := by rw [hW, hr0]; simp
  have HZ : Hid (W.heap[r0]? = some (.cells zero22 90 (0, 0))) := by rw [hW, hr0]; exact heap_push (heap_alloc_new _ _)
  have hM : W.heap[r0 + 1]? = some (.cells (zero23 (.slice none 0 0)) 131 (0, 0)) := by
    have h := heap_alloc_new (w.alloc (.cells zero22 90)) (.cells (zero23 (.slice none 0 0)) 131)
    rw [World.size_alloc] at h
    rw [hW, hr0]; exact h
  have hf : Fs [] w W := by rw [hW]; exact ((Fs.refl [] w).push _).push _
  have HF := Lib.hid hf
  have HM := Lib.hid hM
  have HW := Lib.hid hW
  have HR0 := Lib.hid hr0
  have HB := Lib.hid (HIN.out.below (fs_below hf (by simp)))
  clear hIn hW hM hf
  go_enter Try.func58, Try.ntmps58
  go_wp2_with fail
  change Calls _ _ _ ((w.alloc (.cells zero22 90)).alloc (.cells (zero23 (.slice none 0 0)) 131)) _
  rw [← HW.out, ← HR0.out]
  clear hr0
  refine (sh_no (m := r0 + 1) (lo := w.heap.size) W HM.out (by have := HR0.out; omega) HB.out HN.out).mono ?_
  rintro e w1 ⟨hf1, rfl⟩
  have hz1 : w1.heap[r0]? = some (.cells zero22 90 (0, 0)) := (hf1.keep r0 (by omega) (by simp)).trans HZ.out
  have HF1 : Hid (Fs [r0 + 1] w w1) := (HF.out.mono (by simp)).trans hf1
  have HZ1 := Lib.hid hz1
  clear hz1 hf1
  go_upto_region 3 with fail
  apply wp_region_lit
  iterate 6 (first | (refine wpList_store_row rfl 90 (.tmp 2) (.tmp 10) rfl r0 zero22 rfl rfl 90 zero22 HZ1.out (by kernel_rfl) rfl (by simp [zero22, Value.oneCell']) ?_) | go_step)
  go_wp2_with fail
  refine ret_row_tmp (.bool false) rfl r0 90 zero22 (0, 0) _ rfl rfl (setRow_heap _ _ _ _ _ _ HZ1.out) Try.underlying90 rfl (by kernel_rfl) rfl ?_
  refine ⟨?_, zero22, rfl, rfl, by simp [zero22, Value.oneCell']⟩
  have h := fs_below (HF1.out.mono (l' := [r0, r0 + 1]) (by simp)) (by have := HR0.out; simp; omega)
  exact below_setRow h (by have := HR0.out; omega) _

set_option maxRecDepth 100000 in
set_option maxHeartbeats 4000000 in
theorem shu_impl_no {v : Value} {bs : List UInt8} (w : World) (hIn : InB w w.heap.size v bs) (hno : shRead bs = none) :
    Calls Try.prog 25 #[v] w (ShuNo w) := by
  obtain ⟨ad, cap, rfl⟩ := hIn.slice
  obtain ⟨r0, hr0⟩ : ∃ x, x = w.heap.size := ⟨_, rfl⟩
  obtain ⟨W, hW⟩ : ∃ x, x = w.alloc (.cells zero22 37) := ⟨_, rfl⟩
  have hWs : W.heap.size = r0 + 1 := by rw [hW, hr0]; simp
  have HZ : Hid (W.heap[r0]? = some (.cells zero22 37 (0, 0))) := by rw [hW, hr0]; exact heap_alloc_new _ _
  have hf : Fs [] w W := by rw [hW]; exact (Fs.refl [] w).push _
  have HF := Lib.hid hf
  have HIN : Hid (InB W W.heap.size (.slice ad bs.length cap) bs) := by
    rcases hIn.below (fs_below hf (by simp)) with h | ⟨h4, C, g, T, fr, h1, h2⟩
    · exact .inl h
    · exact .inr ⟨h4, C, g, T, fr, by omega, h2⟩
  have HW := Lib.hid hW
  have HR0 := Lib.hid hr0
  have HN := Lib.hid hno
  clear hIn hW hf hno
  go_enter Try.func25, Try.ntmps25
  go_wp2_with fail
  change Calls _ _ _ (w.alloc (.cells zero22 37)) _
  rw [← HW.out, ← HR0.out]
  clear hr0
  refine (shu_tls_no W HIN.out HN.out).mono ?_
  rintro e w1 ⟨hb1, D, rfl, hDs, hD1⟩
  have HB1 := Lib.hid hb1
  have HZ1 := Lib.hid ((hb1.block r0 (by omega)).trans HZ.out)
  clear hb1
  have hiD : (Try.prog.info? 90).map (·.size) = some D.size := by rw [hDs]; kernel_rfl
  have hiD2 : (Try.prog.info? 37).map (·.size) = some D.size := by rw [hDs]; kernel_rfl
  have hz2 : (w1.alloc (.cells zero22 90)).heap[r0]? = some (.cells zero22 37 (0, 0)) := heap_push HZ1.out
  have hs0 : zero22.size = D.size := by rw [hDs]; rfl
  have hne : r0 ≠ w1.heap.size := by have := lt_of_heap HZ1.out; omega
  dsimp only
  repeat (first | (with_reducible refine wpList_store_row rfl 90 (.tmp 4) (.tmp 9) rfl w1.heap.size D rfl rfl 90 zero22 (heap_alloc_new w1 _) hiD hs0 hD1 ?_) | (with_reducible refine wpList_load_row rfl 90 (.tmp 4) rfl w1.heap.size rfl 90 D (0, 0) _ (setRow_heap _ _ _ _ _ _ (heap_alloc_new w1 _)) Try.underlying90 rfl hiD ?_) | (with_reducible refine wpList_store_row rfl 37 (.tmp 2) (.tmp 11) rfl r0 D rfl rfl 37 zero22 ((setRow_other _ _ _ _ hne).trans (heap_push HZ1.out)) hiD2 hs0 hD1 ?_) | go_step)
  refine ret_row_tmp (.bool false) rfl r0 37 D (0, 0) _ rfl rfl (setRow_heap _ _ _ _ _ _ ((setRow_other _ _ _ _ hne).trans (heap_push HZ1.out))) Try.underlying37 rfl hiD2 rfl ?_
  refine ⟨?_, D, rfl, hDs, hD1⟩
  have hr := HR0.out
  have hw : w.heap.size ≤ w1.heap.size := by have := HB1.out.size; omega
  have hb : Below w.heap.size w w1 := (fs_below HF.out (by simp)).trans (HB1.out.mono (by omega))
  exact below_setRow (below_setRow (hb.alloc hw _) hw _) (by omega) _

end Go.Proofs.Ytopcljikkdlffaa
