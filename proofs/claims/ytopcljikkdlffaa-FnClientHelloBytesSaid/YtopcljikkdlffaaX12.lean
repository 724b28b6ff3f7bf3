/- The reference's reader: the head of a message. The reference's reader: extensions (pure part). The reference's reader: extensions (walk). No statement of the seat is proved here. -/
import Derived.Test.YtopcljikkdlffaaX09
namespace Go.Proofs.Ytopcljikkdlffaa
open Go.RowKit

/-- The length that the head tells must be that of what is left. -/
def rbody2 (s3 : Nat × (Nat × List UInt8)) : Nat × List UInt8 := if s3.1 = s3.2.2.length then s3.2 else rfail 1 s3.2

/-- The head of a message. -/
def rbody (kind : Nat) (bs : List UInt8) : Nat × List UInt8 :=
  rbody2 (rnum 3 (if (rnum 1 (0, bs)).1 = kind then (rnum 1 (0, bs)).2 else rfail 1 (rnum 1 (0, bs)).2))

set_option maxRecDepth 100000 in
set_option maxHeartbeats 400000 in
/-- Fewer than four bytes, whatever their address. -/
theorem body_short {a : Option Addr} {n cap : Nat} {C : Array Value} {g : Nat} (kind : Nat) (w : World) (hn : n < 4) :
    Calls Try.prog 48 #[.int .i64 kind, .slice a n cap] w fun e w' => e = .returned (.pointer (some ⟨w.heap.size, 0, none⟩)) ∧ RAt w' w.heap.size C g (1, []) ∧ Fs [] w w' := by
  have hfz : (w.alloc (.cells #[.slice a n cap, .int .i64 0] 80)).frozen? ⟨w.heap.size, 1, none⟩ = false := frozen_of_heap (heap_alloc_new _ _)
  have hl : ((n : Nat) : Int) < 4 := by omega
  -- what 'fail' does to a reader whose bytes lie anywhere
  have hfail : Calls Try.prog 52 #[.pointer (some ⟨w.heap.size, 0, none⟩), .int .i64 1] (w.alloc (.cells #[.slice a n cap, .int .i64 0] 80)) fun e w' => e = .returned (.tuple #[]) ∧ RAt w' w.heap.size C g (1, []) ∧ Fs [] w w' := by
    go_enter Try.func52, Try.ntmps52
    go_wp2_with fail
    go_end0
    exact ⟨rfl, ⟨.slice none 0 0, heap_alloc_new _ _, .inl ⟨rfl, rfl⟩⟩, ⟨rfl, rfl, rfl, by simp, fun k hk _ => Below.heap_alloc _ _ _ hk⟩⟩
  have HFA := Lib.hid hfail
  clear hfail hfz
  go_enter Try.func48, Try.ntmps48
  go_wp2_with fail
  refine HFA.out.mono ?_
  rintro e w1 ⟨rfl, hr, hf⟩
  have HR := Lib.hid hr
  have HF := Lib.hid hf
  clear hr hf
  go_wp2_with fail
  go_ret
  exact ⟨rfl, HR.out, HF.out⟩

set_option maxRecDepth 100000 in
set_option maxHeartbeats 1000000 in
theorem body_ok {C : Array Value} {g : Nat} {T : TypeId} {fr : Nat × Nat} {v : Value} {bs : List UInt8} (kind : Nat) (w : World) (hn : 4 ≤ bs.length) (hg : w.heap[g]? = some (.cells C T fr)) (hV : View C g v bs) :
    Calls Try.prog 48 #[.int .i64 kind, v] w fun e w' => e = .returned (.pointer (some ⟨w.heap.size, 0, none⟩)) ∧ RAt w' w.heap.size C g (rbody kind bs) ∧ Fs [] w w' := by
  have HV := Lib.hid hV
  have HG := Lib.hid hg
  have hgl := lt_of_heap hg
  obtain ⟨off, cap, rfl, _, _, _⟩ := id hV
  have hl : ¬ ((bs.length : Nat) : Int) < 4 := by omega
  have HR0 : Hid (RAt (w.alloc (.cells #[.slice (some ⟨g, off, none⟩) bs.length cap, .int .i64 0] 80)) w.heap.size C g (0, bs)) := ⟨_, heap_alloc_new _ _, .inr HV.out⟩
  have HF0 : Hid (Fs [w.heap.size] w (w.alloc (.cells #[.slice (some ⟨g, off, none⟩) bs.length cap, .int .i64 0] 80))) := ⟨rfl, rfl, rfl, by simp, fun k hk _ => Below.heap_alloc _ _ _ hk⟩
  have HG0 := Lib.hid ((Below.heap_alloc w (.cells #[.slice (some ⟨g, off, none⟩) bs.length cap, .int .i64 0] 80) _ hgl).trans HG.out)
  clear hg hV
  go_enter Try.func48, Try.ntmps48
  go_wp2_with fail
  refine (num_ok 1 _ (by omega) HG0.out (by omega) HR0.out).mono ?_
  rintro e w1 ⟨rfl, hr1, hf1⟩
  obtain ⟨s1, hs1⟩ : ∃ s, s = rnum 1 (0, bs) := ⟨_, rfl⟩
  rw [← hs1] at hr1 ⊢
  have hrest : Hid (∀ (w2 : World) (s2 : Nat × List UInt8), s2 = (if s1.1 = kind then s1.2 else rfail 1 s1.2) → RAt w2 w.heap.size C g s2 → Fs [w.heap.size] w w2 → Calls Try.prog 49 #[.pointer (some ⟨w.heap.size, 0, none⟩), .int .i64 3] w2 fun e w3 => ∃ n, e = .returned (.int .i64 (n : Nat)) ∧ ∃ st3 : Nat × List UInt8, RAt w3 w.heap.size C g st3 ∧ Fs [w.heap.size] w w3 ∧ rbody kind bs = (if n = st3.2.length then st3 else rfail 1 st3)) := by
    intro w2 s2 h2 hr2 hf2
    refine (num_ok 3 w2 (by omega) ((hf2.keep g hgl (by simp; omega)).trans HG.out) (by omega) hr2).mono ?_
    rintro e w3 ⟨rfl, hr3, hf3⟩
    refine ⟨_, rfl, _, hr3, hf2.trans (hf3.fs (by simp)), ?_⟩
    unfold rbody
    rw [← hs1, ← h2]
    rfl
  have HR1 := Lib.hid hr1
  have HF1 := Lib.hid (HF0.out.trans (hf1.fs (by simp)))
  clear hr1 hf1 hs1
  by_cases hk : ((s1.1 : Nat) : Int) = (kind : Int)
  · have hk' : s1.1 = kind := by omega
    have HK := Lib.hid hk'
    clear hk'
    go_wp2_with fail
    refine (hrest.out w1 _ (by rw [if_pos HK.out]) HR1.out HF1.out).mono ?_
    rintro e w3 ⟨n, rfl, ⟨code, rs⟩, hr3, hf3, hb⟩
    obtain ⟨v3, hh3, hv3⟩ := id hr3
    obtain ⟨a3, c3, rfl, _, _⟩ := hv3.len
    simp only at hh3 hb
    have f3 : w3.cell? ⟨w.heap.size, 0, none⟩ = some (.slice a3 rs.length c3) := by rw [cell_of_heap hh3]; rfl
    have HR3 := Lib.hid hr3
    have HF3 := Lib.hid hf3
    have HB := Lib.hid hb
    clear hr3 hf3 hh3 hv3 hb
    by_cases hnl : ((n : Nat) : Int) = (rs.length : Int)
    · have hnl' : n = rs.length := by omega
      have HNL := Lib.hid hnl'
      clear hnl'
      go_wp2_with fail
      go_ret
      exact ⟨rfl, by rw [HB.out, if_pos HNL.out]; exact HR3.out, HF3.out.fresh (Nat.le_refl _)⟩
    · have hnl' : ¬ n = rs.length := by omega
      have HNL := Lib.hid hnl'
      clear hnl'
      go_wp2_with fail
      refine (fail_ok 1 w3 HR3.out).mono ?_
      rintro e w4 ⟨rfl, hr4, hf4⟩
      have HR4 := Lib.hid hr4
      have HF4 := Lib.hid (HF3.out.trans (hf4.fs (by simp)))
      clear hr4 hf4
      go_wp2_with fail
      go_ret
      exact ⟨rfl, by rw [HB.out, if_neg HNL.out]; exact HR4.out, HF4.out.fresh (Nat.le_refl _)⟩
  · have hk' : ¬ s1.1 = kind := by omega
    have HK := Lib.hid hk'
    clear hk'
    go_wp2_with fail
    refine (fail_ok 1 w1 HR1.out).mono ?_
    rintro e w2 ⟨rfl, hr2, hf2⟩
    have HR2 := Lib.hid hr2
    have HF2 := Lib.hid (HF1.out.trans (hf2.fs (by simp)))
    clear hr2 hf2
    go_wp2_with fail
    refine (hrest.out w2 _ (by rw [if_neg HK.out]) HR2.out HF2.out).mono ?_
    rintro e w3 ⟨n, rfl, ⟨code, rs⟩, hr3, hf3, hb⟩
    obtain ⟨v3, hh3, hv3⟩ := id hr3
    obtain ⟨a3, c3, rfl, _, _⟩ := hv3.len
    simp only at hh3 hb
    have f3 : w3.cell? ⟨w.heap.size, 0, none⟩ = some (.slice a3 rs.length c3) := by rw [cell_of_heap hh3]; rfl
    have HR3 := Lib.hid hr3
    have HF3 := Lib.hid hf3
    have HB := Lib.hid hb
    clear hr3 hf3 hh3 hv3 hb
    by_cases hnl : ((n : Nat) : Int) = (rs.length : Int)
    · have hnl' : n = rs.length := by omega
      have HNL := Lib.hid hnl'
      clear hnl'
      go_wp2_with fail
      go_ret
      exact ⟨rfl, by rw [HB.out, if_pos HNL.out]; exact HR3.out, HF3.out.fresh (Nat.le_refl _)⟩
    · have hnl' : ¬ n = rs.length := by omega
      have HNL := Lib.hid hnl'
      clear hnl'
      go_wp2_with fail
      refine (fail_ok 1 w3 HR3.out).mono ?_
      rintro e w4 ⟨rfl, hr4, hf4⟩
      have HR4 := Lib.hid hr4
      have HF4 := Lib.hid (HF3.out.trans (hf4.fs (by simp)))
      clear hr4 hf4
      go_wp2_with fail
      go_ret
      exact ⟨rfl, by rw [HB.out, if_neg HNL.out]; exact HR4.out, HF4.out.fresh (Nat.le_refl _)⟩

end Go.Proofs.Ytopcljikkdlffaa
namespace Go.Proofs.Ytopcljikkdlffaa
open Go.RowKit

/-- Extensions until nothing is left: their types and bytes. -/
def rexts : Nat → List (Nat × List UInt8) → Nat × List UInt8 → List (Nat × List UInt8) × (Nat × List UInt8)
  | 0, out, sp => (out, sp)
  | f + 1, out, sp => if sp.2 = [] then (out, sp) else
    rexts f (out ++ [((rnum 2 sp).1, (rvec 2 0 65535 (rnum 2 sp).2).1)])
      (if (out.any fun x => x.1 == (rnum 2 sp).1) = true then rfail 4 (rvec 2 0 65535 (rnum 2 sp).2).2 else (rvec 2 0 65535 (rnum 2 sp).2).2)

/-- Extensions with their length. -/
def rextensions (st : Nat × List UInt8) : List (Nat × List UInt8) × (Nat × List UInt8) :=
  ((rexts (rvec 2 0 65535 st).1.length [] (rin (rvec 2 0 65535 st).2 (rvec 2 0 65535 st).1)).1,
    rdone (rvec 2 0 65535 st).2 (rexts (rvec 2 0 65535 st).1.length [] (rin (rvec 2 0 65535 st).2 (rvec 2 0 65535 st).1)).2)

/-- Not a length out of its range. -/
def fine (c : Nat) : Prop := c ≠ 2

theorem fine_rfail {k : Nat} {st : Nat × List UInt8} (h : fine st.1) (hk : fine k) : fine (rfail k st).1 := by
  unfold rfail; split <;> assumption

theorem fine_rnum {k : Nat} {st : Nat × List UInt8} (h : fine st.1) : fine (rnum k st).2.1 := by
  unfold rnum; split
  · exact fine_rfail h (show _ ≠ 2 by decide)
  · exact h

/-- A vector whose range is all that its length can say is never out of range. -/
theorem fine_rvec {k high : Nat} {st : Nat × List UInt8} (h : fine st.1) (hk : 256 ^ k ≤ high + 1) : fine (rvec k 0 high st).2.1 := by
  have h1 := fine_rnum (k := k) h
  have h2 : (rnum k st).1 < 256 ^ k := by
    rcases rnum_lt (k := k) (st := st) with h | h
    · exact h
    · rw [h]; exact Nat.pow_pos (by omega)
  unfold rvec
  split
  · exact h1
  · split
    · show (3 : Nat) ≠ 2; decide
    · split
      · omega
      · show (0 : Nat) ≠ 2; decide

theorem fine_rexts : ∀ (f : Nat) (out : List (Nat × List UInt8)) (sp : Nat × List UInt8), fine sp.1 → fine (rexts f out sp).2.1
  | 0, _, _, h => h
  | f + 1, out, sp, h => by
    unfold rexts
    split
    · exact h
    · refine fine_rexts f _ _ ?_
      have h1 := fine_rvec (k := 2) (high := 65535) (fine_rnum (k := 2) h) (by decide)
      split
      · exact fine_rfail h1 (show _ ≠ 2 by decide)
      · exact h1

theorem fine_rend {st : Nat × List UInt8} (h : fine st.1) : fine (rend st).1 := by
  unfold rend; split
  · exact h
  · exact fine_rfail h (show _ ≠ 2 by decide)

theorem fine_rdone {st p : Nat × List UInt8} (h : fine st.1) (hp : fine p.1) : fine (rdone st p).1 := by
  unfold rdone; split
  · exact h
  · exact fine_rfail h (fine_rend hp)

theorem fine_rextensions {st : Nat × List UInt8} (h : fine st.1) : fine (rextensions st).2.1 := by
  unfold rextensions
  have h1 := fine_rvec (k := 2) (high := 65535) h (by decide)
  exact fine_rdone h1 (fine_rexts _ _ _ h1)

end Go.Proofs.Ytopcljikkdlffaa
namespace Go.Proofs.Ytopcljikkdlffaa
open Go.RowKit

theorem Try.info85 : (Try.prog.info? 85).map (fun i => (i.zero, i.size, i.bytes)) = some (some (.agg #[.int .u16 0, .slice none 0 0]), 2, 32) := by kernel_rfl

/-- The cells of extensions: number and bytes of each. -/
def ExL (w : World) (base : Nat) (C : Array Value) (g : Nat) (v : Value) (L : List (Nat × List UInt8)) : Prop :=
  ∃ xs : List Value, w.ownsRow base 85 2 v L.length xs ∧ (∀ x ∈ L, x.1 < 65536) ∧
    ∀ (j : Nat) (x : Nat × List UInt8), L[j]? = some x → xs[2 * j]? = some (.int .u16 (x.1 : Nat)) ∧ ∃ u, xs[2 * j + 1]? = some u ∧ VN C g u x.2

theorem Fm.fresh_set {m b : Nat} {a w : World} (h : Fm m a w) (hb : a.heap.size ≤ b) (o : Nat) (u : Value) : Fm m a (w.setCell ⟨b, o, none⟩ u) :=
  ⟨h.os, h.tape, h.output, by have := h.size; simpa [World.setCell] using this, fun k hk hm => (Below.heap_setCell _ _ _ _ (by show k ≠ b; omega)).trans (h.keep k hk hm)⟩

theorem Fm.grown_fresh {m : Nat} {a w w' : World} {row : Option Nat} (h : Fm m a w) (g : w.grownBy w' row) (hr : ∀ k, row = some k → a.heap.size ≤ k) : Fm m a w' :=
  ⟨g.os.trans h.os, g.tape.trans h.tape, g.output.trans h.output, Nat.le_trans h.size g.size, fun k hk hm => by
    rw [g.block k (Nat.lt_of_lt_of_le hk h.size) ?_, h.keep k hk hm]
    intro e
    have := hr k e.symm
    omega⟩

theorem rvec_le {k low high : Nat} {st : Nat × List UInt8} : (rvec k low high st).2.2.length ≤ st.2.length := by
  have h1 : (rnum k st).2.2.length ≤ st.2.length := by unfold rnum; split <;> simp [rfail]
  unfold rvec
  split
  · exact h1
  · split
    · simp
    · split
      · simp
      · simp only [List.length_drop]; omega

theorem rvec_len {k low high : Nat} {st : Nat × List UInt8} : (rvec k low high st).1.length < 256 ^ k := by
  have h0 : 0 < 256 ^ k := Nat.pow_pos (by omega)
  have h1 : (rnum k st).1 < 256 ^ k := by
    rcases rnum_lt (k := k) (st := st) with h | h
    · exact h
    · rw [h]; exact h0
  unfold rvec
  split
  · simpa using h0
  · split
    · simpa using h0
    · split <;> (simp only [List.length_take]; omega)

theorem rfail_rfail (k : Nat) (st : Nat × List UInt8) : rfail k (rfail k st) = rfail k st := by
  unfold rfail; simp only; split <;> rename_i h <;> (try split at h) <;> simp_all

set_option maxRecDepth 100000 in
set_option maxHeartbeats 2000000 in
theorem rextensions_ok {c g : Nat} {C : Array Value} {T : TypeId} {fr : Nat × Nat} {st : Nat × List UInt8} (w : World) (hg : w.heap[g]? = some (.cells C T fr)) (hgc : g ≠ c) (hR : RAt w c C g st) :
    Calls Try.prog 53 #[.pointer (some ⟨c, 0, none⟩)] w fun e w' => ∃ o, e = .returned o ∧ ExL w' w.heap.size C g o (rextensions st).1 ∧ RAt w' c C g (rextensions st).2 ∧ Fs [c] w w' := by
  obtain ⟨i0, hi, hz0, hz1, hz2⟩ := info_parts Try.info85
  have HR := Lib.hid hR
  have HG := Lib.hid hg
  have hcl : c < w.heap.size := by obtain ⟨v, hh, _⟩ := hR; exact lt_of_heap hh
  have hgl := lt_of_heap hg
  clear hR hg
  go_enter Try.func53, Try.ntmps53
  go_wp2_with fail
  refine (vec_ok 2 0 65535 w (by omega) HG.out hgc HR.out).mono ?_
  rintro e w1 ⟨u1, rfl, hv1, hr1, hf1⟩
  have HV1 := Lib.hid hv1
  obtain ⟨a1, c1, rfl, _, _⟩ := hv1.len
  have HR1 := Lib.hid hr1
  have HF1 := Lib.hid (hf1.fs (l := [c]) (by simp))
  have hs1 := hf1.size
  clear hv1 hr1 hf1
  go_wp2_with fail
  refine (within_ok w1 HV1.out HR1.out).mono ?_
  rintro e w2 ⟨rfl, hp2, hf2⟩
  have HP2 : Hid (RAt w2 w1.heap.size C g (rin (rvec 2 0 65535 st).2 (rvec 2 0 65535 st).1)) := hp2
  have HR2 := Lib.hid (HR1.out.fs hf2 (by simp))
  have HF2 := Lib.hid (HF1.out.trans (hf2.mono (l' := [c]) (by simp)))
  have hs2 := hf2.size
  clear hp2 hf2
  go_wp2_with fail
  obtain ⟨tot, htot⟩ : ∃ t, t = rexts (rvec 2 0 65535 st).1.length [] (rin (rvec 2 0 65535 st).2 (rvec 2 0 65535 st).1) := ⟨_, rfl⟩
  have HTOT := Lib.hid htot
  clear htot
  go_loopw [3] (fun o wr => ∃ (out : List (Nat × List UInt8)) (sp : Nat × List UInt8) (f : Nat), ExL wr w2.heap.size C g o out ∧ RAt wr w1.heap.size C g sp ∧ sp.2.length ≤ f ∧ sp.2.length + out.length ≤ 2147483647 ∧ rexts f out sp = tot ∧ Fs [w1.heap.size] w2 wr) (fun _ wr => cellLen wr w1.heap.size)
  case atStart =>
    refine ⟨[], _, _, ⟨[], World.ownsRow_nil _ _ _ _, fun x hx => by simp at hx, fun j s hj => by simp at hj⟩, HP2.out, ?_, ?_, HTOT.out.symm, Fs.refl _ _⟩
    · unfold rin; split <;> simp
    · have h := rvec_len (k := 2) (low := 0) (high := 65535) (st := st)
      unfold rin; split <;> simp <;> omega
  case round =>
    obtain ⟨w0, rfl⟩ : ∃ x, x = wr := ⟨_, rfl⟩
    obtain ⟨out, ⟨code, bs⟩, f, hout, hp, hf, hlen, he, hfs⟩ := hrel
    obtain ⟨v2, hh, hv2⟩ := id hp
    obtain ⟨a2, cap2, rfl, _, _⟩ := hv2.len
    simp only at hh hf hlen
    have f0 : w0.cell? ⟨w1.heap.size, 0, none⟩ = some (.slice a2 bs.length cap2) := by rw [cell_of_heap hh]; rfl
    have HP := Lib.hid hp
    have HOUT := Lib.hid hout
    have HFS := Lib.hid hfs
    have HH := Lib.hid hh
    have HE := Lib.hid he
    clear hp hout hfs hh hv2 he
    by_cases h0 : bs = []
    · subst h0
      have hz : rexts f out (code, []) = (out, (code, [])) := by
        cases f with
        | zero => rfl
        | succ f => show (if ([] : List UInt8) = [] then _ else _) = _; rw [if_pos rfl]
      have hE := HE.out
      rw [hz] at hE
      have HE3 := Lib.hid hE
      have HRr := Lib.hid (HR2.out.fs HFS.out (by simp; omega))
      obtain ⟨us, hown, hlt, hus⟩ := HOUT.out
      obtain ⟨ao, co, rfl⟩ := row_slice hown
      have HO := Lib.hid hown
      have HUS := Lib.hid hus
      have HLT := Lib.hid hlt
      clear hz hE hown hus hlt
      go_wp2_with fail
      refine (done_ok w0 (by omega : c ≠ w1.heap.size) HRr.out HP.out).mono ?_
      rintro e w5 ⟨rfl, hr5, hf5⟩
      have hown5 : w5.ownsRow w2.heap.size 85 2 (.slice ao out.length co) out.length us := by
        refine ⟨HO.out.1, ?_⟩
        rcases HO.out.2 with h2 | ⟨g', cp, cur, hv, hg', hh', r⟩
        · exact .inl h2
        · refine .inr ⟨g', cp, cur, hv, hg', (hf5.keep g' (lt_of_heap hh') ?_).trans hh', r⟩
          intro hm
          simp at hm
          rcases hm with e | e
          · omega
          · subst e
            rw [HH.out] at hh'
            simp at hh'
      have HO5 := Lib.hid (ownsRow_mono hown5 (Nat.le_trans hs1 hs2))
      have HR5 := Lib.hid hr5
      have HF5 : Hid (Fs [c] w w5) := (((HF2.out.mono (l' := [w1.heap.size, c]) (by simp)).trans (HFS.out.mono (by simp))).trans (hf5.mono (by simp))).fresh hs1
      clear hr5 hf5 hown5
      go_wp2_with fail
      go_ret
      have e1 : (rextensions st).1 = out := by
        show (rexts _ _ _).1 = _
        rw [← HTOT.out, ← HE3.out]
      have e2 : (rextensions st).2 = rdone (rvec 2 0 65535 st).2 (code, []) := by
        show rdone _ (rexts _ _ _).2 = _
        rw [← HTOT.out, ← HE3.out]
      exact ⟨_, rfl, ⟨us, by rw [e1]; exact HO5.out, by rw [e1]; exact HLT.out, by rw [e1]; exact HUS.out⟩, by rw [e2]; exact HR5.out, HF5.out⟩
    · have hl : ((bs.length : Nat) : Int) > 0 := by have := List.length_pos_iff.2 h0; omega
      obtain ⟨f, rfl⟩ : ∃ f', f = f' + 1 := ⟨f - 1, by omega⟩
      have hgr : w0.heap[g]? = some (.cells C T fr) := by
        rw [HFS.out.keep g (by omega) (by simp; omega), HF2.out.keep g hgl (by simpa using hgc)]
        exact HG.out
      have HGR := Lib.hid hgr
      clear hgr
      go_wp2_with fail
      refine (num_ok 2 w0 (by omega) HGR.out (by omega) HP.out).mono ?_
      rintro e w3 ⟨rfl, hr3, hf3⟩
      obtain ⟨s1, hs1d⟩ : ∃ s, s = rnum 2 (code, bs) := ⟨_, rfl⟩
      have hty : s1.1 < 65536 := by
        rw [hs1d]
        rcases rnum_lt (k := 2) (st := (code, bs)) with h | h
        · exact h
        · rw [h]; omega
      rw [← hs1d] at hr3 ⊢
      have HS1 := Lib.hid hs1d
      have HR3 := Lib.hid hr3
      have HF3 := Lib.hid hf3
      have hw16 : IntKind.u16.wrap ((s1.1 : Nat) : Int) = (s1.1 : Int) := by simp [IntKind.wrap, IntKind.signed, IntKind.bits]; omega
      clear hr3 hf3 hs1d
      obtain ⟨us, hown, hlt, hus⟩ := HOUT.out
      obtain ⟨ao, co, rfl⟩ := row_slice hown
      have HUS := Lib.hid hus
      have HLT := Lib.hid hlt
      have hown3 := own_fm hown HF3.out HH.out (by decide)
      have HO3 := Lib.hid (hown3.alloc (Obj.cells #[Value.int IntKind.u16 ↑s1.1, Value.slice none 0 0] 85))
      have hr4 : RAt (w3.alloc (Obj.cells #[Value.int IntKind.u16 ↑s1.1, Value.slice none 0 0] 85)) w1.heap.size C g s1.2 := by
        obtain ⟨vv, h1, h2⟩ := HR3.out
        exact ⟨vv, (Below.heap_alloc _ _ _ (lt_of_heap h1)).trans h1, h2⟩
      have HR4 := Lib.hid hr4
      have hsz3 := HF3.out.size
      have hszr := HFS.out.size
      have hg3 : (w3.alloc (Obj.cells #[Value.int IntKind.u16 ↑s1.1, Value.slice none 0 0] 85)).heap[g]? = some (.cells C T fr) := by
        rw [Below.heap_alloc _ _ _ (by omega), HF3.out.keep g (by omega) (by omega)]
        exact HGR.out
      have HG3 := Lib.hid hg3
      have he3 : (w3.alloc (Obj.cells #[Value.int IntKind.u16 ↑s1.1, Value.slice none 0 0] 85)).heap[w3.heap.size]? = some (.cells #[Value.int IntKind.u16 ↑s1.1, Value.slice none 0 0] 85 (0, 0)) := heap_alloc_new _ _
      have HE3 := Lib.hid he3
      have HOWN := Lib.hid hown
      clear hown hown3 hr4 hg3 he3 hus hlt
      go_wp2_with fail
      refine (vec_ok 2 0 65535 _ (by omega) HG3.out (by omega) HR4.out).mono ?_
      rintro e w4 ⟨d, rfl, hd, hr5, hf5⟩
      obtain ⟨Y, hY⟩ : ∃ Y, Y = rvec 2 0 65535 s1.2 := ⟨_, rfl⟩
      rw [← hY] at hd hr5
      obtain ⟨ad, cd, rfl, _, _⟩ := hd.len
      have hpl := lt_of_heap HH.out
      have he4 := (hf5.keep w3.heap.size (by simp) (by omega)).trans HE3.out
      have e0 : w4.cell? ⟨w3.heap.size, 0, none⟩ = some (.int .u16 (s1.1 : Nat)) := by rw [cell_of_heap he4]; rfl
      have e1 : w4.cell? ⟨w3.heap.size, 1, none⟩ = some (.slice none 0 0) := by rw [cell_of_heap he4]; rfl
      have efz : ∀ o, w4.frozen? ⟨w3.heap.size, o, none⟩ = false := fun o => frozen_of_heap he4
      have hsz4 := hf5.size
      simp only [World.size_alloc] at hsz4
      have HD := Lib.hid hd
      have HR5 := Lib.hid hr5
      have HF5 := Lib.hid hf5
      have HE4 := Lib.hid he4
      have HYY := Lib.hid hY
      clear hd hr5 hf5 he4 hY
      go_wp2_with fail
      obtain ⟨w5, hw5⟩ : ∃ x, x = w4.setCell ⟨w3.heap.size, 1, none⟩ (.slice ad Y.1.length cd) := ⟨_, rfl⟩
      rw [← hw5]
      have HE5 : Hid (w5.heap[w3.heap.size]? = some (.cells #[.int .u16 (s1.1 : Nat), .slice ad Y.1.length cd] 85 (0, 0))) := by rw [hw5]; exact (heap_set_same HE4.out).trans rfl
      have HR6 : Hid (RAt w5 w1.heap.size C g Y.2) := by
        obtain ⟨vv, h1, h2⟩ := HR5.out
        exact ⟨vv, by rw [hw5]; exact (Below.heap_setCell _ _ _ _ (by show w1.heap.size ≠ w3.heap.size; omega)).trans h1, h2⟩
      have hfm5 : Fm w1.heap.size w0 w5 := by
        rw [hw5]
        refine Fm.fresh_set ?_ hsz3 _ _
        exact (HF3.out.alloc _).trans HF5.out
      have HFM5 := Lib.hid hfm5
      have hsz5 : w3.heap.size < w5.heap.size := by rw [hw5]; simp [World.setCell]; omega
      clear hw5 hfm5 e0 e1 efz
      go_loopw [27] (fun i ws => ∃ j : Nat, i = .int .i64 j ∧ j ≤ out.length ∧ RAt ws w1.heap.size C g (if ((out.take j).any fun x => x.1 == s1.1) = true then rfail 4 Y.2 else Y.2) ∧
        ws.heap[w3.heap.size]? = some (.cells #[.int .u16 (s1.1 : Nat), .slice ad Y.1.length cd] 85 (0, 0)) ∧ Fm w1.heap.size w0 ws ∧ w3.heap.size < ws.heap.size) (fun i _ => out.length - (intOf i).toNat)
      case atStart => exact ⟨0, rfl, Nat.zero_le _, by simpa using HR6.out, HE5.out, HFM5.out, hsz5⟩
      case round =>
        obtain ⟨j, rfl, hj, hr7, he7, hf7, hsz7⟩ := hrel
        have hown7 := own_fm HOWN.out hf7 HH.out (by decide)
        have HR7 := Lib.hid hr7
        have HE7 := Lib.hid he7
        have HF7 := Lib.hid hf7
        have e70 : wr.cell? ⟨w3.heap.size, 0, none⟩ = some (.int .u16 (s1.1 : Nat)) := by rw [cell_of_heap he7]; rfl
        by_cases hjn : j < out.length
        · obtain ⟨ob, cap7, cur, hv7, hob, hh7, hc1, hc2, hc3, hc4⟩ : ∃ g cap cur, Value.slice ao out.length co = .slice (some ⟨g, 0, none⟩) out.length cap ∧ w2.heap.size ≤ g ∧ wr.heap[g]? = some (.cells cur 85 (0, 0)) ∧ out.length ≤ cap ∧ cap ≤ maxLen ∧ cur.size = cap * 2 ∧ cur.toList.take (out.length * 2) = us := by
            rcases hown7.2 with ⟨_, h⟩ | h
            · omega
            · exact h
          simp only [Value.slice.injEq, true_and] at hv7
          obtain ⟨rfl, rfl⟩ := hv7
          obtain ⟨hx1, ux, hx2, hx3⟩ := HUS.out j out[j] (List.getElem?_eq_getElem hjn)
          have q0 : wr.cell? ⟨ob, j * 2, none⟩ = some (.int .u16 (out[j].1 : Nat)) := by rw [hown7.cellAt (j * 2) (by omega), Nat.mul_comm j 2]; exact hx1
          have q1 : wr.cell? ⟨ob, j * 2 + 1, none⟩ = some ux := by rw [hown7.cellAt (j * 2 + 1) (by omega), Nat.mul_comm j 2]; exact hx2
          obtain ⟨ax, cx, rfl, _, _⟩ := hx3.len
          clear hr7 he7 hf7 hh7 hc4 hown7 hx1 hx2 hx3
          obtain ⟨ty, hty7⟩ : ∃ t, t = out[j].1 := ⟨_, rfl⟩
          rw [← hty7] at q0
          have hany : (out.take (j + 1)).any (fun x => x.1 == s1.1) = ((out.take j).any (fun x => x.1 == s1.1) || ty == s1.1) := by
            rw [List.take_add_one, List.getElem?_eq_getElem hjn, List.any_append, hty7]
            simp
          have HANY := Lib.hid hany
          clear hany hty7
          by_cases hE : ((ty : Nat) : Int) = ((s1.1 : Nat) : Int)
          · have hE2 : ty = s1.1 := by omega
            clear hE
            subst hE2
            have hr8 : RAt (wr.alloc (Obj.cells #[Value.int .u16 (s1.1 : Nat), Value.slice ax out[j].2.length cx] 85)) w1.heap.size C g (if ((out.take j).any fun x => x.1 == s1.1) = true then rfail 4 Y.2 else Y.2) := by
              obtain ⟨vv, h1, h2⟩ := HR7.out
              exact ⟨vv, (Below.heap_alloc _ _ _ (lt_of_heap h1)).trans h1, h2⟩
            have HR8 := Lib.hid hr8
            clear hr8
            go_wp2_with fail
            refine (fail_ok 4 _ HR8.out).mono ?_
            rintro e w8 ⟨rfl, hr9, hf9⟩
            have HR9 := Lib.hid hr9
            have HF9 := Lib.hid hf9
            clear hr9 hf9
            go_wp2_with fail
            refine ⟨⟨j + 1, by simp, by omega, ?_, ?_, ?_, ?_⟩, by simp [intOf]; omega⟩
            · rw [HANY.out, beq_self_eq_true, Bool.or_true, if_pos rfl]
              have h := HR9.out
              split at h
              · rwa [rfail_rfail] at h
              · exact h
            · rw [HF9.out.keep w3.heap.size (by simp; omega) (by omega), Below.heap_alloc _ _ _ (by omega)]
              exact HE7.out
            · exact (HF7.out.alloc _).trans HF9.out
            · have := HF9.out.size; simp at this; omega
          · have hE2 : (ty == s1.1) = false := by simp; omega
            have HE2 := Lib.hid hE2
            clear hE2
            go_wp2_with fail
            refine ⟨⟨j + 1, by simp, by omega, ?_, ?_, ?_, ?_⟩, by simp [intOf]; omega⟩
            · rw [HANY.out, HE2.out, Bool.or_false]
              obtain ⟨vv, h1, h2⟩ := HR7.out
              exact ⟨vv, (Below.heap_alloc _ _ _ (lt_of_heap h1)).trans h1, h2⟩
            · rw [Below.heap_alloc _ _ _ (by omega)]
              exact HE7.out
            · exact HF7.out.alloc _
            · simp; omega
        · have hjn' : j = out.length := by omega
          subst hjn'
          have e71 : wr.cell? ⟨w3.heap.size, 1, none⟩ = some (.slice ad Y.1.length cd) := by rw [cell_of_heap he7]; rfl
          have hr8 := hr7
          rw [List.take_length] at hr8
          obtain ⟨sp, hsp⟩ : ∃ sp, sp = (if (out.any fun x => x.1 == s1.1) = true then rfail 4 Y.2 else Y.2) := ⟨_, rfl⟩
          rw [← hsp] at hr8
          have HR8 := Lib.hid hr8
          have HSP := Lib.hid hsp
          have HO7 := Lib.hid hown7
          have hszz := hf7.size
          clear hr7 he7 hf7 hown7 hr8 hsp HR7
          go_wp2_with (at_builtin; go_loud (refine wpList_append_own _ rfl (.tmp 39) (.tmp 41) 82 rfl w2.heap.size 85 i0 (.agg #[.int .u16 0, .slice none 0 0]) 2 32 Try.underlying82 hi hz0 hz1 hz2 rfl (by decide) _ out.length us rfl (HO7.out.alloc _) ⟨wr.heap.size, 0, none⟩ 1 1 [.int .u16 (s1.1 : Nat), .slice ad Y.1.length cd] rfl rfl ?_ ?_ ?_ ?_ ?_ ?_))
          · intro j u hu
            match j, hu with
            | 0, hu => simp at hu; subst hu; exact (cell_of_heap (heap_alloc_new _ _)).trans rfl
            | 1, hu => simp at hu; subst hu; exact (cell_of_heap (heap_alloc_new _ _)).trans rfl
          · intro u hu
            simp at hu
            rcases hu with rfl | rfl <;> rfl
          · unfold maxLen; omega
          · omega
          · simp; omega
          intro v' w6 hown6 hgrow _
          obtain ⟨ao6, co6, rfl⟩ := row_slice hown6
          have hrat : RAt w6 w1.heap.size C g sp := by
            obtain ⟨vv, h1, h2⟩ := HR8.out
            exact ⟨vv, grown_keep hgrow (HO7.out.alloc _) ((Below.heap_alloc _ _ _ (lt_of_heap h1)).trans h1) (.inl (by decide)), h2⟩
          have hfs6 : Fs [w1.heap.size] w2 w6 := by
            have h2 : Fs [w1.heap.size] w2 wr := HFS.out.trans (HF7.out.fs (by simp))
            refine ⟨hgrow.os.trans h2.os, hgrow.tape.trans h2.tape, hgrow.output.trans h2.output, ?_, fun i hi' hn => ?_⟩
            · have h := hgrow.size; have h3 := h2.size; simp at h; omega
            · have h3 := h2.size
              have hb : (wr.alloc (Obj.cells #[Value.int .u16 (s1.1 : Nat), Value.slice ad Y.1.length cd] 85)).heap[i]? = wr.heap[i]? := Below.heap_alloc _ _ _ (by omega)
              rw [← h2.keep i hi' hn, ← hb]
              refine hgrow.block i (by simp; omega) ?_
              intro h
              rcases HOWN.out.2 with ⟨e, _⟩ | ⟨g', cp, cur, e, hb', hh', _⟩
              · rw [e] at h; cases h
              · rw [e] at h
                simp only [Value.ownBlock, Option.some.injEq] at h
                omega
          have HO6 := Lib.hid hown6
          have HR6' := Lib.hid hrat
          have HFS6 := Lib.hid hfs6
          clear hown6 hgrow hrat hfs6
          have hsl : sp.2.length < bs.length := by
            have h1 := rnum_rest (k := 2) (st := (code, bs)) (by omega) h0
            rw [← HS1.out] at h1
            have h2 := rvec_le (k := 2) (low := 0) (high := 65535) (st := s1.2)
            rw [← HYY.out] at h2
            simp only at h1
            rw [HSP.out]
            split
            · rw [rfail_rest]; exact List.length_pos_iff.2 h0
            · omega
          go_wp2_with fail
          refine ⟨⟨out ++ [(s1.1, Y.1)], sp, f, ⟨us ++ [.int .u16 (s1.1 : Nat), .slice ad Y.1.length cd], by simpa using HO6.out, ?_, fun j x hj => ?_⟩, HR6'.out, by omega, by simp; omega, ?_, HFS6.out⟩, by rw [HR6'.out.cellLen, HP.out.cellLen]; exact hsl⟩
          · intro x hx
            rcases List.mem_append.1 hx with h | h
            · exact HLT.out x h
            · obtain rfl : x = (s1.1, Y.1) := by simpa using h
              exact hty
          · have hul : us.length = out.length * 2 := HOWN.out.1
            by_cases hjd : j < out.length
            · rw [List.getElem?_append_left hjd] at hj
              obtain ⟨a1, u, a2, a3⟩ := HUS.out j x hj
              exact ⟨by rw [List.getElem?_append_left (by omega)]; exact a1, u, by rw [List.getElem?_append_left (by omega)]; exact a2, a3⟩
            · rw [List.getElem?_append_right (by omega)] at hj
              have h0j : j - out.length = 0 := by
                have := (List.getElem?_eq_some_iff.1 hj).1
                simp at this
                omega
              rw [h0j] at hj
              simp only [List.getElem?_cons_zero, Option.some.injEq] at hj
              subst hj
              obtain rfl : j = out.length := by omega
              exact ⟨by rw [List.getElem?_append_right (by omega), show 2 * out.length - us.length = 0 by omega]; rfl, _, by rw [List.getElem?_append_right (by omega), show 2 * out.length + 1 - us.length = 1 by omega]; rfl, HD.out⟩
          · rw [← HE.out, HSP.out, HYY.out, HS1.out]
            show _ = (if bs = [] then _ else _)
            rw [if_neg h0]

end Go.Proofs.Ytopcljikkdlffaa
