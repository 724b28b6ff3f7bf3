/- The reference's reader: the head of a message. No statement of the seat is proved here. -/
import Derived.Test.YtopcljikkdlffaaRu
namespace Go.Proofs.Ytopcljikkdlffaa
open Go.RowKit

/-- The length that the head tells must be that of what is left. -/
def rbody2 (s3 : Nat × (Nat × List UInt8)) : Nat × List UInt8 := if s3.1 = s3.2.2.length then s3.2 else rfail 1 s3.2

/-- The head of a message. -/
def rbody (kind : Nat) (bs : List UInt8) : Nat × List UInt8 :=
  rbody2 (rnum 3 (if (rnum 1 (0, bs)).1 = kind then (rnum 1 (0, bs)).2 else rfail 1 (rnum 1 (0, bs)).2))

set_option maxRecDepth 100000 in
set_option maxHeartbeats 400000 in
/-- Fewer than four bytes, whatever their address. -/
theorem body_short {a : Option Addr} {n cap : Nat} {C : Array Value} {g : Nat} (kind : Nat) (w : World) (hn : n < 4) :
    Calls Try.prog 48 #[.int .i64 kind, .slice a n cap] w fun e w' => e = .returned (.pointer (some ⟨w.heap.size, 0, none⟩)) ∧ RAt w' w.heap.size C g (1, []) ∧ Fs [] w w' := by
  have hfz : (w.alloc (.cells #[.slice a n cap, .int .i64 0] 80)).frozen? ⟨w.heap.size, 1, none⟩ = false := frozen_of_heap (heap_alloc_new _ _)
  have hl : ((n : Nat) : Int) < 4 := by omega
  -- what 'fail' does to a reader whose bytes lie anywhere
  have hfail : Calls Try.prog 52 #[.pointer (some ⟨w.heap.size, 0, none⟩), .int .i64 1] (w.alloc (.cells #[.slice a n cap, .int .i64 0] 80)) fun e w' => e = .returned (.tuple #[]) ∧ RAt w' w.heap.size C g (1, []) ∧ Fs [] w w' := by
    go_enter Try.func52, Try.ntmps52
    go_wp2_with fail
    go_end0
    exact ⟨rfl, ⟨.slice none 0 0, heap_alloc_new _ _, .inl ⟨rfl, rfl⟩⟩, ⟨rfl, rfl, rfl, by simp, fun k hk _ => Below.heap_alloc _ _ _ hk⟩⟩
  have HFA := Lib.hid hfail
  clear hfail hfz
  go_enter Try.func48, Try.ntmps48
  go_wp2_with fail
  refine HFA.out.mono ?_
  rintro e w1 ⟨rfl, hr, hf⟩
  have HR := Lib.hid hr
  have HF := Lib.hid hf
  clear hr hf
  go_wp2_with fail
  go_ret
  exact ⟨rfl, HR.out, HF.out⟩

set_option maxRecDepth 100000 in
set_option maxHeartbeats 1000000 in
theorem body_ok {C : Array Value} {g : Nat} {T : TypeId} {fr : Nat × Nat} {v : Value} {bs : List UInt8} (kind : Nat) (w : World) (hn : 4 ≤ bs.length) (hg : w.heap[g]? = some (.cells C T fr)) (hV : View C g v bs) :
    Calls Try.prog 48 #[.int .i64 kind, v] w fun e w' => e = .returned (.pointer (some ⟨w.heap.size, 0, none⟩)) ∧ RAt w' w.heap.size C g (rbody kind bs) ∧ Fs [] w w' := by
  have HV := Lib.hid hV
  have HG := Lib.hid hg
  have hgl := lt_of_heap hg
  obtain ⟨off, cap, rfl, _, _, _⟩ := id hV
  have hl : ¬ ((bs.length : Nat) : Int) < 4 := by omega
  have HR0 : Hid (RAt (w.alloc (.cells #[.slice (some ⟨g, off, none⟩) bs.length cap, .int .i64 0] 80)) w.heap.size C g (0, bs)) := ⟨_, heap_alloc_new _ _, .inr HV.out⟩
  have HF0 : Hid (Fs [w.heap.size] w (w.alloc (.cells #[.slice (some ⟨g, off, none⟩) bs.length cap, .int .i64 0] 80))) := ⟨rfl, rfl, rfl, by simp, fun k hk _ => Below.heap_alloc _ _ _ hk⟩
  have HG0 := Lib.hid ((Below.heap_alloc w (.cells #[.slice (some ⟨g, off, none⟩) bs.length cap, .int .i64 0] 80) _ hgl).trans HG.out)
  clear hg hV
  go_enter Try.func48, Try.ntmps48
  go_wp2_with fail
  refine (num_ok 1 _ (by omega) HG0.out (by omega) HR0.out).mono ?_
  rintro e w1 ⟨rfl, hr1, hf1⟩
  obtain ⟨s1, hs1⟩ : ∃ s, s = rnum 1 (0, bs) := ⟨_, rfl⟩
  rw [← hs1] at hr1 ⊢
  have hrest : Hid (∀ (w2 : World) (s2 : Nat × List UInt8), s2 = (if s1.1 = kind then s1.2 else rfail 1 s1.2) → RAt w2 w.heap.size C g s2 → Fs [w.heap.size] w w2 → Calls Try.prog 49 #[.pointer (some ⟨w.heap.size, 0, none⟩), .int .i64 3] w2 fun e w3 => ∃ n, e = .returned (.int .i64 (n : Nat)) ∧ ∃ st3 : Nat × List UInt8, RAt w3 w.heap.size C g st3 ∧ Fs [w.heap.size] w w3 ∧ rbody kind bs = (if n = st3.2.length then st3 else rfail 1 st3)) := by
    intro w2 s2 h2 hr2 hf2
    refine (num_ok 3 w2 (by omega) ((hf2.keep g hgl (by simp; omega)).trans HG.out) (by omega) hr2).mono ?_
    rintro e w3 ⟨rfl, hr3, hf3⟩
    refine ⟨_, rfl, _, hr3, hf2.trans (hf3.fs (by simp)), ?_⟩
    unfold rbody
    rw [← hs1, ← h2]
    rfl
  have HR1 := Lib.hid hr1
  have HF1 := Lib.hid (HF0.out.trans (hf1.fs (by simp)))
  clear hr1 hf1 hs1
  by_cases hk : ((s1.1 : Nat) : Int) = (kind : Int)
  · have hk' : s1.1 = kind := by omega
    have HK := Lib.hid hk'
    clear hk'
    go_wp2_with fail
    refine (hrest.out w1 _ (by rw [if_pos HK.out]) HR1.out HF1.out).mono ?_
    rintro e w3 ⟨n, rfl, ⟨code, rs⟩, hr3, hf3, hb⟩
    obtain ⟨v3, hh3, hv3⟩ := id hr3
    obtain ⟨a3, c3, rfl, _, _⟩ := hv3.len
    simp only at hh3 hb
    have f3 : w3.cell? ⟨w.heap.size, 0, none⟩ = some (.slice a3 rs.length c3) := by rw [cell_of_heap hh3]; rfl
    have HR3 := Lib.hid hr3
    have HF3 := Lib.hid hf3
    have HB := Lib.hid hb
    clear hr3 hf3 hh3 hv3 hb
    by_cases hnl : ((n : Nat) : Int) = (rs.length : Int)
    · have hnl' : n = rs.length := by omega
      have HNL := Lib.hid hnl'
      clear hnl'
      go_wp2_with fail
      go_ret
      exact ⟨rfl, by rw [HB.out, if_pos HNL.out]; exact HR3.out, HF3.out.fresh (Nat.le_refl _)⟩
    · have hnl' : ¬ n = rs.length := by omega
      have HNL := Lib.hid hnl'
      clear hnl'
      go_wp2_with fail
      refine (fail_ok 1 w3 HR3.out).mono ?_
      rintro e w4 ⟨rfl, hr4, hf4⟩
      have HR4 := Lib.hid hr4
      have HF4 := Lib.hid (HF3.out.trans (hf4.fs (by simp)))
      clear hr4 hf4
      go_wp2_with fail
      go_ret
      exact ⟨rfl, by rw [HB.out, if_neg HNL.out]; exact HR4.out, HF4.out.fresh (Nat.le_refl _)⟩
  · have hk' : ¬ s1.1 = kind := by omega
    have HK := Lib.hid hk'
    clear hk'
    go_wp2_with fail
    refine (fail_ok 1 w1 HR1.out).mono ?_
    rintro e w2 ⟨rfl, hr2, hf2⟩
    have HR2 := Lib.hid hr2
    have HF2 := Lib.hid (HF1.out.trans (hf2.fs (by simp)))
    clear hr2 hf2
    go_wp2_with fail
    refine (hrest.out w2 _ (by rw [if_neg HK.out]) HR2.out HF2.out).mono ?_
    rintro e w3 ⟨n, rfl, ⟨code, rs⟩, hr3, hf3, hb⟩
    obtain ⟨v3, hh3, hv3⟩ := id hr3
    obtain ⟨a3, c3, rfl, _, _⟩ := hv3.len
    simp only at hh3 hb
    have f3 : w3.cell? ⟨w.heap.size, 0, none⟩ = some (.slice a3 rs.length c3) := by rw [cell_of_heap hh3]; rfl
    have HR3 := Lib.hid hr3
    have HF3 := Lib.hid hf3
    have HB := Lib.hid hb
    clear hr3 hf3 hh3 hv3 hb
    by_cases hnl : ((n : Nat) : Int) = (rs.length : Int)
    · have hnl' : n = rs.length := by omega
      have HNL := Lib.hid hnl'
      clear hnl'
      go_wp2_with fail
      go_ret
      exact ⟨rfl, by rw [HB.out, if_pos HNL.out]; exact HR3.out, HF3.out.fresh (Nat.le_refl _)⟩
    · have hnl' : ¬ n = rs.length := by omega
      have HNL := Lib.hid hnl'
      clear hnl'
      go_wp2_with fail
      refine (fail_ok 1 w3 HR3.out).mono ?_
      rintro e w4 ⟨rfl, hr4, hf4⟩
      have HR4 := Lib.hid hr4
      have HF4 := Lib.hid (HF3.out.trans (hf4.fs (by simp)))
      clear hr4 hf4
      go_wp2_with fail
      go_ret
      exact ⟨rfl, by rw [HB.out, if_neg HNL.out]; exact HR4.out, HF4.out.fresh (Nat.le_refl _)⟩

end Go.Proofs.Ytopcljikkdlffaa
