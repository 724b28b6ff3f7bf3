/- The walk of the statement FnCertificate13Again. No statement of the seat is proved here. -/
import Derived.Test.YtopcljikkdlffaaCo
namespace Go.Proofs.Ytopcljikkdlffaa
open Go.RowKit

theorem C13Got.val {w w' : World} {lo : Nat} {bs : List UInt8} {e : Ending} (h : C13Got w lo bs e w') (hlo : lo ≤ w.heap.size) : Below w.heap.size w w' ∧ ((c13Read bs = none ∧ e = .returned (.tuple #[.agg zero5b, .bool false])) ∨
    ∃ (f : C13) (D : Array Value), c13Read bs = some f ∧ e = .returned (.tuple #[.agg D, .bool true]) ∧ C13Val w' w'.heap.size f D) := by
  obtain ⟨hb, h | ⟨f, C, g, T, fr, v0, v1, v2, hy, hg1, hg, he, h0, h1, h2⟩⟩ := h
  · exact ⟨hb, .inl h⟩
  · have hg' : w'.heap[g]? = some (.cells C T fr) := (hb.block g (by omega)).trans hg
    obtain ⟨s0, _⟩ := srcL_of h0 hg' (Nat.le_refl _)
    obtain ⟨s1, n1⟩ := srcB_of h1 hg' (Nat.le_refl _)
    obtain ⟨s2, n2⟩ := srcL_of h2 hg' (Nat.le_refl _)
    exact ⟨hb, .inr ⟨f, _, hy, he, v0, v1, v2, rfl, s0, s1, n1, s2, n2⟩⟩

/-- Bytes of a row that is owned come in. -/
theorem inB_own {w : World} {base lo : Nat} {v : Value} {s : List UInt8} (h : w.ownsRow base 5 1 v s.length (s.map by8)) (h4 : 4 ≤ s.length) (hlo : w.heap.size ≤ lo) : InB w lo v s := by
  rcases h.2 with ⟨_, hn⟩ | ⟨p, cap, cur, rfl, hb, hh, hnc, hcm, hcs, htake⟩
  · omega
  · refine .inr ⟨h4, cur, p, _, _, by have := lt_of_heap hh; omega, hh, 0, cap, rfl, hnc, hcm, fun i hi => ?_⟩
    have e : (s.map by8)[i]? = some (by8 (s.getD i 0)) := by simp [hi]
    rw [← htake, List.getElem?_take] at e
    split at e
    · rw [Nat.zero_add, ← Array.getElem?_toList]; exact e
    · cases e

set_option maxRecDepth 100000 in
set_option maxHeartbeats 4000000 in
theorem c13Again_walk {v : Value} {bs : List UInt8} (w : World) (hIn : InB w w.heap.size v bs) (hl : bs.length ≤ maxLen) :
    Calls Try.prog 7 #[v] w fun e w' => e = .returned (.bool true) ∧ Below w.heap.size w w' := by
  obtain ⟨ad, cap, rfl⟩ := hIn.slice
  unfold maxLen at hl
  have HIN := Lib.hid hIn
  clear hIn
  by_cases hbig : ((bs.length : Nat) : Int) > 2147483647
  · go_enter Try.func7, Try.ntmps7
    go_wp2_with fail
    go_ret
    exact ⟨rfl, Below.refl _ _⟩
  · go_enter Try.func7, Try.ntmps7
    go_wp2_with fail
    refine (c13u_impl w (Nat.le_refl _) HIN.out (by omega)).mono ?_
    intro e w1 hgot
    obtain ⟨hb1, hcase⟩ := hgot.val (Nat.le_refl _)
    have HB1 := Lib.hid hb1
    clear hgot hb1
    rcases hcase with ⟨hno, rfl⟩ | ⟨f, D, hy, rfl, hD⟩
    · unfold zero5b
      clear hno
      go_wp2_with fail
      refine (alive_ok _).mono ?_
      rintro e w4 ⟨rfl, hb4⟩
      have HB4 := Lib.hid hb4
      clear hb4
      go_wp2_with fail
      go_ret
      refine ⟨rfl, (HB1.out.alloc HB1.out.size _).trans (HB4.out.mono ?_)⟩
      have := HB1.out.size
      simp; omega
    · obtain ⟨v0, v1, v2, rfl, h0, h1, h1n, h2, h2n⟩ := id hD
      obtain ⟨a0, k0, rfl, _⟩ := h0.len
      obtain ⟨a1, k1, rfl⟩ := h1.len
      obtain ⟨a2, k2, rfl, _⟩ := h2.len
      obtain ⟨n1, hn1⟩ : ∃ n, n = f.staple.length := ⟨_, rfl⟩
      obtain ⟨n2, hn2⟩ : ∃ n, n = f.stamps.length := ⟨_, rfl⟩
      obtain ⟨n0, hn0⟩ : ∃ n, n = f.certs.length := ⟨_, rfl⟩
      obtain ⟨b3, hb3⟩ : ∃ b, b = decide (f.staple ≠ []) := ⟨_, rfl⟩
      obtain ⟨b4, hb4⟩ : ∃ b, b = decide (f.stamps ≠ []) := ⟨_, rfl⟩
      rw [← hn0, ← hn1, ← hn2, ← hb3, ← hb4] at hD ⊢
      have q3 : (decide (0 < n1)) = b3 := by rw [hb3, hn1, decide_eq_decide]; exact List.length_pos_iff
      have q4 : (decide (0 < n2)) = b4 := by rw [hb4, hn2, decide_eq_decide]; exact List.length_pos_iff
      have q3' : (decide ((0 : Int) < (n1 : Int))) = b3 := by rw [← q3, decide_eq_decide]; omega
      have q4' : (decide ((0 : Int) < (n2 : Int))) = b4 := by rw [← q4, decide_eq_decide]; omega
      have HD := Lib.hid hD
      have HY := Lib.hid hy
      have HN0 := Lib.hid hn0
      have HN1 := Lib.hid hn1
      have HN2 := Lib.hid hn2
      clear h0 h1 h1n h2 h2n hn0 hn1 hn2 hb3 hb4 hy hD
      by_cases hlong : ((bs.length : Nat) : Int) > 60000
      · go_wp2_with fail
        refine (alive_ok _).mono ?_
        rintro e w4 ⟨rfl, hb4⟩
        have HB4 := Lib.hid hb4
        clear hb4
        go_wp2_with fail
        go_ret
        refine ⟨rfl, (HB1.out.alloc HB1.out.size _).trans (HB4.out.mono ?_)⟩
        have := HB1.out.size
        simp; omega
      · have hok := c13_okay HY.out (by omega)
        obtain ⟨hag, hwl, _, _⟩ := c13_again HY.out (by omega)
        have HOK := Lib.hid hok
        have HAG := Lib.hid hag
        clear hok hag
        obtain ⟨W, hW⟩ : ∃ W, W = w1.alloc (.cells #[.slice a0 n0 k0, .bool b3, .bool b4, .slice a1 n1 k1, .slice a2 n2 k2] 43) := ⟨_, rfl⟩
        have hWd : W.heap[w1.heap.size]? = some (.cells #[.slice a0 n0 k0, .bool b3, .bool b4, .slice a1 n1 k1, .slice a2 n2 k2] 43 (0, 0)) := by rw [hW]; exact heap_alloc_new _ _
        have hk : ∀ k, k < w1.heap.size → W.heap[k]? = w1.heap[k]? := fun k hk => by rw [hW]; exact Below.heap_alloc _ _ _ hk
        have hWs : W.heap.size = w1.heap.size + 1 := by rw [hW]; simp
        have HDW : Hid (C13Val W W.heap.size f #[.slice a0 n0 k0, .bool b3, .bool b4, .slice a1 n1 k1, .slice a2 n2 k2]) := Lib.hid (HD.out.keep (by omega) hk)
        have HBW : Hid (Below w.heap.size w W) := Lib.hid (by rw [hW]; exact HB1.out.alloc HB1.out.size _)
        have HWD := Lib.hid hWd
        have HWS := Lib.hid hWs
        have HW := Lib.hid hW
        clear hW hWd hk hWs
        go_wp2_with fail
        rw [← HW.out]
        refine (c13m_impl W HOK.out HDW.out).mono ?_
        rintro e w2 ⟨b, rfl, hown, hb2⟩
        have hlen : 4 ≤ (w13 f).length := by simp [w13, en_length]; omega
        have hle : (w13 f).length ≤ 4294967296 := by simp [w13, en_length]; omega
        obtain ⟨ab, cb, rfl⟩ := row_slice hown
        have HIN2 := Lib.hid (inB_own hown hlen (Nat.le_refl _))
        have HB2 := Lib.hid hb2
        clear hown hb2
        go_wp2_with fail
        refine (c13u_impl w2 (Nat.le_refl _) HIN2.out hle).mono ?_
        intro e w3 hgot
        obtain ⟨hb3', hcase⟩ := hgot.val (Nat.le_refl _)
        have HB3 := Lib.hid hb3'
        clear hgot hb3'
        rcases hcase with ⟨hno, _⟩ | ⟨f', E, hy', rfl, hE⟩
        · rw [HAG.out] at hno; cases hno
        · rw [HAG.out] at hy'
          obtain rfl : f = f' := by simpa using hy'
          have hs1 := HB3.out.size
          have hs2 := HB2.out.size
          have hsw := HWS.out
          have hbf : ∀ k, k < W.heap.size → w3.heap[k]? = W.heap[k]? := fun k hk => (HB3.out.block k (by omega)).trans (HB2.out.block k hk)
          have hD3 := HDW.out.keep (by omega : W.heap.size ≤ w3.heap.size) hbf
          have hd3 : w3.heap[w1.heap.size]? = some (.cells #[.slice a0 n0 k0, .bool b3, .bool b4, .slice a1 n1 k1, .slice a2 n2 k2] 43 (0, 0)) := (hbf _ (by omega)).trans HWD.out
          have d0 : w3.cell? ⟨w1.heap.size, 0, none⟩ = some (.slice a0 n0 k0) := by rw [cell_of_heap hd3]; rfl
          have d1 : w3.cell? ⟨w1.heap.size, 1, none⟩ = some (.bool b3) := by rw [cell_of_heap hd3]; rfl
          have d2 : w3.cell? ⟨w1.heap.size, 2, none⟩ = some (.bool b4) := by rw [cell_of_heap hd3]; rfl
          have d3 : w3.cell? ⟨w1.heap.size, 3, none⟩ = some (.slice a1 n1 k1) := by rw [cell_of_heap hd3]; rfl
          have d4 : w3.cell? ⟨w1.heap.size, 4, none⟩ = some (.slice a2 n2 k2) := by rw [cell_of_heap hd3]; rfl
          have hlt3 : w1.heap.size < w3.heap.size := by omega
          obtain ⟨u0, u1, u2, hEe, q0, q1, _, q2, _⟩ := id hE
          obtain ⟨c0, l0, rfl, _⟩ := q0.len
          obtain ⟨c1, l1, rfl⟩ := q1.len
          obtain ⟨c2, l2, rfl, _⟩ := q2.len
          obtain ⟨m1, hm1⟩ : ∃ n, n = f.staple.length := ⟨_, rfl⟩
          obtain ⟨m2, hm2⟩ : ∃ n, n = f.stamps.length := ⟨_, rfl⟩
          obtain ⟨m0, hm0⟩ : ∃ n, n = f.certs.length := ⟨_, rfl⟩
          obtain ⟨e3, he3⟩ : ∃ b, b = decide (f.staple ≠ []) := ⟨_, rfl⟩
          obtain ⟨e4, he4⟩ : ∃ b, b = decide (f.stamps ≠ []) := ⟨_, rfl⟩
          rw [← hm0, ← hm1, ← hm2, ← he3, ← he4] at hEe
          have hc1 := HOK.out.n
          have hc2 : f.stamps.length ≤ 2147483647 := by
            have := vecs_many (k := 2) (by omega) f.stamps
            have := HOK.out.fit.2.2
            omega
          subst hEe
          have HE3 : Hid (C13Val (w3.alloc (.cells #[.slice c0 m0 l0, .bool e3, .bool e4, .slice c1 m1 l1, .slice c2 m2 l2] 43)) w3.heap.size f #[.slice c0 m0 l0, .bool e3, .bool e4, .slice c1 m1 l1, .slice c2 m2 l2]) :=
            Lib.hid (hE.keep (Nat.le_refl _) fun k hk => Below.heap_alloc _ _ _ hk)
          have HD3 : Hid (C13Val (w3.alloc (.cells #[.slice c0 m0 l0, .bool e3, .bool e4, .slice c1 m1 l1, .slice c2 m2 l2] 43)) w3.heap.size f #[.slice a0 n0 k0, .bool b3, .bool b4, .slice a1 n1 k1, .slice a2 n2 k2]) :=
            Lib.hid (hD3.keep (Nat.le_refl _) fun k hk => Below.heap_alloc _ _ _ hk)
          clear hE hy' hD3 hd3 q0 q1 q2 hm0 hm1 hm2 he3 he4 hbf
          go_wp2_with fail
          refine (c13_same _ (by simp) HE3.out HD3.out hc1 hc2).mono ?_
          rintro e w4 ⟨rfl, hb4⟩
          have HB4 := Lib.hid hb4
          clear hb4
          go_wp2_with fail
          go_ret
          have hs0 := HBW.out.size
          exact ⟨rfl, (((HBW.out.trans (HB2.out.mono hs0)).trans (HB3.out.mono (by omega))).alloc (by omega) _).trans (HB4.out.mono (by simp; omega))⟩

end Go.Proofs.Ytopcljikkdlffaa
