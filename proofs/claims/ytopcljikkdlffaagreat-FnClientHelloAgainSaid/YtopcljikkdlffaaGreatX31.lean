/- ClientHello.msg of package tls, and MarshalClientHello. MarshalClientHello of package tls and of package impl. No statement of the seat is proved here. -/
import Derived.Test.YtopcljikkdlffaaGreatX30
import Derived.Test.YtopcljikkdlffaaGreatX29
namespace Go.Proofs.YtopcljikkdlffaaGreat
open Go.RowKit

theorem shr_of {W w : World} {mB base n : Nat} {v : Value} {us : List Value} {L : List (Nat × List UInt8)} (ho : w.ownsRow (mB + 1) 56 2 v n us) (hus : UsK W mB L us) (hle : mB ≤ base) (hk : ∀ k, k < mB → w.heap[k]? = W.heap[k]?) (hb : base = w.heap.size) : ShrS w base v L := by
  have hn : n = L.length := by have h1 := ho.1; have h2 := hus.1; omega
  subst hn
  rcases ho.2 with ⟨rfl, h0⟩ | ⟨p, cap, cur, rfl, hbp, hh, hnc, _, hcs, htake⟩
  · exact .inl ⟨rfl, List.length_eq_zero_iff.1 h0⟩
  · refine .inr ⟨p, cap, cur, rfl, by have := lt_of_heap hh; omega, hh, fun j x hj => ?_⟩
    obtain ⟨k1, u, k2, k3⟩ := hus.2 j x hj
    have hat : ∀ i y, us[i]? = some y → cur[i]? = some y := fun i y hy => by
      rw [← htake, List.getElem?_take] at hy
      split at hy
      · rw [← Array.getElem?_toList]; exact hy
      · cases hy
    exact ⟨hat _ _ k1, u, hat _ _ k2, k3.keep hle hk⟩

theorem psk_of {W w : World} {mB base n : Nat} {v : Value} {us : List Value} {L : List (List UInt8 × Nat)} (ho : w.ownsRow (mB + 1) 59 2 v n us) (hus : UsP W mB L us) (hle : mB ≤ base) (hk : ∀ k, k < mB → w.heap[k]? = W.heap[k]?) (hb : base = w.heap.size) : PskS w base v L := by
  have hn : n = L.length := by have h1 := ho.1; have h2 := hus.1; omega
  subst hn
  rcases ho.2 with ⟨rfl, h0⟩ | ⟨p, cap, cur, rfl, hbp, hh, hnc, _, hcs, htake⟩
  · exact .inl ⟨rfl, List.length_eq_zero_iff.1 h0⟩
  · refine .inr ⟨p, cap, cur, rfl, by have := lt_of_heap hh; omega, hh, fun j x hj => ?_⟩
    obtain ⟨⟨u, k2, k3⟩, k1⟩ := hus.2 j x hj
    have hat : ∀ i y, us[i]? = some y → cur[i]? = some y := fun i y hy => by
      rw [← htake, List.getElem?_take] at hy
      split at hy
      · rw [← Array.getElem?_toList]; exact hy
      · cases hy
    exact ⟨⟨u, hat _ _ k2, k3.keep hle hk⟩, hat _ _ k1⟩

theorem wpList_buildC {P : Program} {ops : Array Oper} {rest : List Oper} {o : Oper} {a : Act} {w : World} {Q : Exit → Act → World → Prop} (hgd : o.guard = none) (t : TypeId) (parts : Array (Nat × Operand)) (cells : Array Value) (ho : o.op = .build t parts)
    (hf : P.built t (parts.map fun (i, x) => (i, a.eval x)).toList = some cells) (h : wpList P ops Q rest (a.put o.dst (.agg cells)) w) : wpList P ops Q (o :: rest) a w :=
  wpList_plain hgd fun _ hK => by
    unfold Oper.wp
    rw [exec_build t parts cells ho hf]
    exact hK _ _ h

/-- The message is laid. -/
def MsgPost (w : World) (f : CH) (e : Ending) (w' : World) : Prop := ∃ m, e = .returned (.pointer (some ⟨m, 0, none⟩)) ∧ Below w.heap.size w w' ∧ ChIn w' w'.heap.size m f

set_option maxRecDepth 100000 in
set_option maxHeartbeats 16000000 in
theorem msg_ok {f : CH} {D : Array Value} {base : Nat} (w : World) (K : ChK f) (hb : base ≤ w.heap.size) (hD : ChS w base f D) : Calls Tryz.prog 22 #[.agg D] w (MsgPost w f) := by
  obtain ⟨W, hW⟩ : ∃ W, W = w.alloc (.cells D 37) := ⟨_, rfl⟩
  obtain ⟨p, hp⟩ : ∃ p, p = w.heap.size := ⟨_, rfl⟩
  have hsz : W.heap.size = p + 1 := by rw [hW, hp]; simp
  have xheap : W.heap[p]? = some (.cells D 37 (0, 0)) := by rw [hW, hp]; exact heap_alloc_new _ _
  have HBE : Hid (Below w.heap.size w W) := Lib.hid (by rw [hW]; exact (Below.refl _ w).alloc (Nat.le_refl _) _)
  have DX := Lib.hid (hD.keep (w' := W) (base' := W.heap.size) (by omega) fun k hk => by rw [hW]; exact Below.heap_alloc _ _ _ (by omega))
  obtain ⟨mB, hmB⟩ : ∃ m, m = W.heap.size := ⟨_, rfl⟩
  rw [← hmB] at DX
  have hsh : f.shares.length ≤ 2147483647 := by
    have h1 := wshr_many f.shares
    by_cases h : 0 < f.shares.length
    · have h2 := dl16 K h
      simp only [List.length_append, en_length] at h2
      omega
    · omega
  have hps : f.psks.length ≤ 2147483647 := by
    have h1 := widn_many (L := f.psks)
    by_cases h : 0 < f.psks.length
    · have h2 := dl18 K h
      simp only [List.length_append, en_length] at h2
      omega
    · omega
  have hqn : (f.quic.getD []).length ≤ 64000 := by
    cases hq : f.quic with
    | none => simp
    | some q =>
      have h2 := dl7 K (by rw [hq]; rfl)
      rw [hq] at h2
      exact h2
  obtain ⟨_, d0, h0⟩ := DX.out.rel 0 _ rfl
  cases h0
  have q0 : W.cell? ⟨p, 0, none⟩ = some (.int .u16 (f.vers : Nat)) := by rw [cell_of_heap xheap]; exact d0
  obtain ⟨_, d1, h1⟩ := DX.out.rel 1 _ rfl
  obtain ⟨a1, c1, rfl⟩ := SrcB.len h1
  have P1 := Lib.hid h1
  have q1 : W.cell? ⟨p, 1, none⟩ = some (.slice a1 f.random.length c1) := by rw [cell_of_heap xheap]; exact d1
  obtain ⟨_, d2, h2⟩ := DX.out.rel 2 _ rfl
  obtain ⟨a2, c2, rfl⟩ := SrcB.len h2
  have P2 := Lib.hid h2
  have q2 : W.cell? ⟨p, 2, none⟩ = some (.slice a2 f.session.length c2) := by rw [cell_of_heap xheap]; exact d2
  obtain ⟨_, d3, h3⟩ := DX.out.rel 3 _ rfl
  obtain ⟨a3, c3, rfl, _⟩ := RowS.len h3
  rw [List.length_map] at d3 h3
  have P3 := Lib.hid h3
  have q3 : W.cell? ⟨p, 3, none⟩ = some (.slice a3 f.suites.length c3) := by rw [cell_of_heap xheap]; exact d3
  obtain ⟨_, d4, h4⟩ := DX.out.rel 4 _ rfl
  obtain ⟨a4, c4, rfl⟩ := SrcB.len h4
  have P4 := Lib.hid h4
  have q4 : W.cell? ⟨p, 4, none⟩ = some (.slice a4 f.comps.length c4) := by rw [cell_of_heap xheap]; exact d4
  obtain ⟨_, d5, h5⟩ := DX.out.rel 5 _ rfl
  cases h5
  have q5 : W.cell? ⟨p, 5, none⟩ = some (.string ⟨f.name.toArray⟩) := by rw [cell_of_heap xheap]; exact d5
  obtain ⟨_, d6, h6⟩ := DX.out.rel 6 _ rfl
  cases h6
  have q6 : W.cell? ⟨p, 6, none⟩ = some (.bool f.ocsp) := by rw [cell_of_heap xheap]; exact d6
  obtain ⟨_, d7, h7⟩ := DX.out.rel 7 _ rfl
  obtain ⟨a7, c7, rfl, _⟩ := RowS.len h7
  rw [List.length_map] at d7 h7
  have P7 := Lib.hid h7
  have q7 : W.cell? ⟨p, 7, none⟩ = some (.slice a7 f.curves.length c7) := by rw [cell_of_heap xheap]; exact d7
  obtain ⟨_, d8, h8⟩ := DX.out.rel 8 _ rfl
  obtain ⟨a8, c8, rfl⟩ := SrcB.len h8
  have P8 := Lib.hid h8
  have q8 : W.cell? ⟨p, 8, none⟩ = some (.slice a8 f.points.length c8) := by rw [cell_of_heap xheap]; exact d8
  obtain ⟨_, d9, h9⟩ := DX.out.rel 9 _ rfl
  cases h9
  have q9 : W.cell? ⟨p, 9, none⟩ = some (.bool f.ticket) := by rw [cell_of_heap xheap]; exact d9
  obtain ⟨_, d10, h10⟩ := DX.out.rel 10 _ rfl
  obtain ⟨a10, c10, rfl⟩ := SrcB.len h10
  have P10 := Lib.hid h10
  have q10 : W.cell? ⟨p, 10, none⟩ = some (.slice a10 f.tickets.length c10) := by rw [cell_of_heap xheap]; exact d10
  obtain ⟨_, d11, h11⟩ := DX.out.rel 11 _ rfl
  obtain ⟨a11, c11, rfl, _⟩ := RowS.len h11
  rw [List.length_map] at d11 h11
  have P11 := Lib.hid h11
  have q11 : W.cell? ⟨p, 11, none⟩ = some (.slice a11 f.sigs.length c11) := by rw [cell_of_heap xheap]; exact d11
  obtain ⟨_, d12, h12⟩ := DX.out.rel 12 _ rfl
  obtain ⟨a12, c12, rfl, _⟩ := RowS.len h12
  rw [List.length_map] at d12 h12
  have P12 := Lib.hid h12
  have q12 : W.cell? ⟨p, 12, none⟩ = some (.slice a12 f.sigsC.length c12) := by rw [cell_of_heap xheap]; exact d12
  obtain ⟨_, d13, h13⟩ := DX.out.rel 13 _ rfl
  cases h13
  have q13 : W.cell? ⟨p, 13, none⟩ = some (.bool f.srs) := by rw [cell_of_heap xheap]; exact d13
  obtain ⟨_, d14, h14⟩ := DX.out.rel 14 _ rfl
  obtain ⟨a14, c14, rfl⟩ := SrcB.len h14
  have P14 := Lib.hid h14
  have q14 : W.cell? ⟨p, 14, none⟩ = some (.slice a14 f.sr.length c14) := by rw [cell_of_heap xheap]; exact d14
  obtain ⟨_, d15, h15⟩ := DX.out.rel 15 _ rfl
  cases h15
  have q15 : W.cell? ⟨p, 15, none⟩ = some (.bool f.ems) := by rw [cell_of_heap xheap]; exact d15
  obtain ⟨_, d16, h16⟩ := DX.out.rel 16 _ rfl
  obtain ⟨a16, c16, rfl, _⟩ := RowS.len h16
  rw [List.length_map] at d16 h16
  have P16 := Lib.hid h16
  have q16 : W.cell? ⟨p, 16, none⟩ = some (.slice a16 f.alpn.length c16) := by rw [cell_of_heap xheap]; exact d16
  obtain ⟨_, d17, h17⟩ := DX.out.rel 17 _ rfl
  cases h17
  have q17 : W.cell? ⟨p, 17, none⟩ = some (.bool f.scts) := by rw [cell_of_heap xheap]; exact d17
  obtain ⟨_, d18, h18⟩ := DX.out.rel 18 _ rfl
  obtain ⟨a18, c18, rfl, _⟩ := RowS.len h18
  rw [List.length_map] at d18 h18
  have P18 := Lib.hid h18
  have q18 : W.cell? ⟨p, 18, none⟩ = some (.slice a18 f.vers13.length c18) := by rw [cell_of_heap xheap]; exact d18
  obtain ⟨_, d19, h19⟩ := DX.out.rel 19 _ rfl
  obtain ⟨a19, c19, rfl⟩ := SrcB.len h19
  have P19 := Lib.hid h19
  have q19 : W.cell? ⟨p, 19, none⟩ = some (.slice a19 f.cookie.length c19) := by rw [cell_of_heap xheap]; exact d19
  obtain ⟨_, d20, h20⟩ := DX.out.rel 20 _ rfl
  obtain ⟨a20, c20, rfl, _⟩ := RowS.len h20
  rw [List.length_map] at d20 h20
  rw [List.length_map] at d20 h20
  have P20 := Lib.hid h20
  have q20 : W.cell? ⟨p, 20, none⟩ = some (.slice a20 f.shares.length c20) := by rw [cell_of_heap xheap]; exact d20
  obtain ⟨_, d21, h21⟩ := DX.out.rel 21 _ rfl
  obtain ⟨a21, c21, rfl, _⟩ := SrcL.len h21
  rw [List.length_map] at d21 h21
  have P21 := Lib.hid h21
  have q21 : W.cell? ⟨p, 21, none⟩ = some (.slice a21 f.shares.length c21) := by rw [cell_of_heap xheap]; exact d21
  obtain ⟨_, d22, h22⟩ := DX.out.rel 22 _ rfl
  cases h22
  have q22 : W.cell? ⟨p, 22, none⟩ = some (.bool f.early) := by rw [cell_of_heap xheap]; exact d22
  obtain ⟨_, d23, h23⟩ := DX.out.rel 23 _ rfl
  obtain ⟨a23, c23, rfl⟩ := SrcB.len h23
  have P23 := Lib.hid h23
  have q23 : W.cell? ⟨p, 23, none⟩ = some (.slice a23 f.modes.length c23) := by rw [cell_of_heap xheap]; exact d23
  obtain ⟨_, d24, h24⟩ := DX.out.rel 24 _ rfl
  obtain ⟨a24, c24, rfl, _⟩ := SrcL.len h24
  rw [List.length_map] at d24 h24
  have P24 := Lib.hid h24
  have q24 : W.cell? ⟨p, 24, none⟩ = some (.slice a24 f.psks.length c24) := by rw [cell_of_heap xheap]; exact d24
  obtain ⟨_, d25, h25⟩ := DX.out.rel 25 _ rfl
  obtain ⟨a25, c25, rfl, _⟩ := RowS.len h25
  rw [List.length_map] at d25 h25
  rw [List.length_map] at d25 h25
  have P25 := Lib.hid h25
  have q25 : W.cell? ⟨p, 25, none⟩ = some (.slice a25 f.psks.length c25) := by rw [cell_of_heap xheap]; exact d25
  obtain ⟨_, d26, h26⟩ := DX.out.rel 26 _ rfl
  obtain ⟨a26, c26, rfl, _⟩ := SrcL.len h26
  have P26 := Lib.hid h26
  have q26 : W.cell? ⟨p, 26, none⟩ = some (.slice a26 f.binders.length c26) := by rw [cell_of_heap xheap]; exact d26
  obtain ⟨_, d27, h27⟩ := DX.out.rel 27 _ rfl
  cases h27
  have q27 : W.cell? ⟨p, 27, none⟩ = some (.bool f.quic.isSome) := by rw [cell_of_heap xheap]; exact d27
  obtain ⟨_, d28, h28⟩ := DX.out.rel 28 _ rfl
  obtain ⟨a28, c28, rfl⟩ := SrcB.len h28
  have P28 := Lib.hid h28
  have q28 : W.cell? ⟨p, 28, none⟩ = some (.slice a28 (f.quic.getD []).length c28) := by rw [cell_of_heap xheap]; exact d28
  obtain ⟨_, d29, h29⟩ := DX.out.rel 29 _ rfl
  obtain ⟨a29, c29, rfl⟩ := SrcB.len h29
  have P29 := Lib.hid h29
  have q29 : W.cell? ⟨p, 29, none⟩ = some (.slice a29 f.ech.length c29) := by rw [cell_of_heap xheap]; exact d29
  clear d0 d1 h1 d2 h2 d3 h3 d4 h4 d5 d6 d7 h7 d8 h8 d9 d10 h10 d11 h11 d12 h12 d13 d14 h14 d15 d16 h16 d17 d18 h18 d19 h19 d20 h20 d21 h21 d22 d23 h23 d24 h24 d25 h25 d26 h26 d27 d28 h28 d29 h29
  have HW := Lib.hid hW
  have HP := Lib.hid hp
  have HMB := Lib.hid hmB
  have HSZ := Lib.hid hsz
  obtain ⟨W1, hW1⟩ : ∃ W1, W1 = W.alloc (.cells #[.slice none 0 0, .int .u16 (f.vers : Nat), .slice a1 f.random.length c1, .slice a2 f.session.length c2, .slice a3 f.suites.length c3, .slice a4 f.comps.length c4, .string ⟨f.name.toArray⟩, .bool f.ocsp, .slice a7 f.curves.length c7, .slice a8 f.points.length c8, .bool f.ticket, .slice a10 f.tickets.length c10, .slice a11 f.sigs.length c11, .slice a12 f.sigsC.length c12, .bool f.srs, .slice a14 f.sr.length c14, .bool f.ems, .slice a16 f.alpn.length c16, .bool f.scts, .slice a18 f.vers13.length c18, .slice a19 f.cookie.length c19, .slice none 0 0, .bool f.early, .slice a23 f.modes.length c23, .slice none 0 0, .slice a26 f.binders.length c26, .slice none 0 0, .slice a29 f.ech.length c29, .slice none 0 0] 54) := ⟨_, rfl⟩
  obtain ⟨vv, hvv⟩ : ∃ x : Nat → Value, x = fun i => ([.int .u16 (f.vers : Nat), .slice a1 f.random.length c1, .slice a2 f.session.length c2, .slice a3 f.suites.length c3, .slice a4 f.comps.length c4, .string ⟨f.name.toArray⟩, .bool f.ocsp, .slice a7 f.curves.length c7, .slice a8 f.points.length c8, .bool f.ticket, .slice a10 f.tickets.length c10, .slice a11 f.sigs.length c11, .slice a12 f.sigsC.length c12, .bool f.srs, .slice a14 f.sr.length c14, .bool f.ems, .slice a16 f.alpn.length c16, .bool f.scts, .slice a18 f.vers13.length c18, .slice a19 f.cookie.length c19, .slice a20 f.shares.length c20, .slice a21 f.shares.length c21, .bool f.early, .slice a23 f.modes.length c23, .slice a24 f.psks.length c24, .slice a25 f.psks.length c25, .slice a26 f.binders.length c26, .bool f.quic.isSome, .slice a28 (f.quic.getD []).length c28, .slice a29 f.ech.length c29, undef] : List Value).getD i undef := ⟨_, rfl⟩
  have VV0 : Hid (vv 0 = .int .u16 (f.vers : Nat)) := Lib.hid (by rw [hvv]; rfl)
  have VV1 : Hid (vv 1 = .slice a1 f.random.length c1) := Lib.hid (by rw [hvv]; rfl)
  have VV2 : Hid (vv 2 = .slice a2 f.session.length c2) := Lib.hid (by rw [hvv]; rfl)
  have VV3 : Hid (vv 3 = .slice a3 f.suites.length c3) := Lib.hid (by rw [hvv]; rfl)
  have VV4 : Hid (vv 4 = .slice a4 f.comps.length c4) := Lib.hid (by rw [hvv]; rfl)
  have VV5 : Hid (vv 5 = .string ⟨f.name.toArray⟩) := Lib.hid (by rw [hvv]; rfl)
  have VV6 : Hid (vv 6 = .bool f.ocsp) := Lib.hid (by rw [hvv]; rfl)
  have VV7 : Hid (vv 7 = .slice a7 f.curves.length c7) := Lib.hid (by rw [hvv]; rfl)
  have VV8 : Hid (vv 8 = .slice a8 f.points.length c8) := Lib.hid (by rw [hvv]; rfl)
  have VV9 : Hid (vv 9 = .bool f.ticket) := Lib.hid (by rw [hvv]; rfl)
  have VV10 : Hid (vv 10 = .slice a10 f.tickets.length c10) := Lib.hid (by rw [hvv]; rfl)
  have VV11 : Hid (vv 11 = .slice a11 f.sigs.length c11) := Lib.hid (by rw [hvv]; rfl)
  have VV12 : Hid (vv 12 = .slice a12 f.sigsC.length c12) := Lib.hid (by rw [hvv]; rfl)
  have VV13 : Hid (vv 13 = .bool f.srs) := Lib.hid (by rw [hvv]; rfl)
  have VV14 : Hid (vv 14 = .slice a14 f.sr.length c14) := Lib.hid (by rw [hvv]; rfl)
  have VV15 : Hid (vv 15 = .bool f.ems) := Lib.hid (by rw [hvv]; rfl)
  have VV16 : Hid (vv 16 = .slice a16 f.alpn.length c16) := Lib.hid (by rw [hvv]; rfl)
  have VV17 : Hid (vv 17 = .bool f.scts) := Lib.hid (by rw [hvv]; rfl)
  have VV18 : Hid (vv 18 = .slice a18 f.vers13.length c18) := Lib.hid (by rw [hvv]; rfl)
  have VV19 : Hid (vv 19 = .slice a19 f.cookie.length c19) := Lib.hid (by rw [hvv]; rfl)
  have VV20 : Hid (vv 20 = .slice a20 f.shares.length c20) := Lib.hid (by rw [hvv]; rfl)
  have VV21 : Hid (vv 21 = .slice a21 f.shares.length c21) := Lib.hid (by rw [hvv]; rfl)
  have VV22 : Hid (vv 22 = .bool f.early) := Lib.hid (by rw [hvv]; rfl)
  have VV23 : Hid (vv 23 = .slice a23 f.modes.length c23) := Lib.hid (by rw [hvv]; rfl)
  have VV24 : Hid (vv 24 = .slice a24 f.psks.length c24) := Lib.hid (by rw [hvv]; rfl)
  have VV25 : Hid (vv 25 = .slice a25 f.psks.length c25) := Lib.hid (by rw [hvv]; rfl)
  have VV26 : Hid (vv 26 = .slice a26 f.binders.length c26) := Lib.hid (by rw [hvv]; rfl)
  have VV27 : Hid (vv 27 = .bool f.quic.isSome) := Lib.hid (by rw [hvv]; rfl)
  have VV28 : Hid (vv 28 = .slice a28 (f.quic.getD []).length c28) := Lib.hid (by rw [hvv]; rfl)
  have VV29 : Hid (vv 29 = .slice a29 f.ech.length c29) := Lib.hid (by rw [hvv]; rfl)
  have hbl1 : Below mB W W1 := by rw [hW1, hmB]; exact (Below.refl _ W).alloc (Nat.le_refl _) _
  have HM1 : Hid (MsW W mB vv (.slice none 0 0) (.slice none 0 0) (.slice none 0 0) [] [] 0 0 W1) := Lib.hid ⟨hbl1, by rw [hW1, hmB, hvv]; exact heap_alloc_new _ _, World.ownsRow_nil _ _ _ _, World.ownsRow_nil _ _ _ _⟩
  have b20 : W1.cell? ⟨p, 20, none⟩ = some (.slice a20 f.shares.length c20) := (World.cell?_of_block (hbl1.block p (by omega))).trans q20
  have HQ21 := Lib.hid q21
  have HQ24 := Lib.hid q24
  have HQ25 := Lib.hid q25
  have HQ27 := Lib.hid q27
  have HQ28 := Lib.hid q28
  have hpm : p < mB := by omega
  have HW1 := Lib.hid hW1
  clear hD hW hp hmB hsz xheap hvv hbl1 hW1 hb
  go_enter Tryz.func22, Tryz.ntmps22
  go_upto_region 1 with fail
  rw [← HW.out, ← HP.out]
  go_upto_region 2 with (with_reducible refine wpList_buildC rfl 54 _ #[.slice none 0 0, .int .u16 (f.vers : Nat), .slice a1 f.random.length c1, .slice a2 f.session.length c2, .slice a3 f.suites.length c3, .slice a4 f.comps.length c4, .string ⟨f.name.toArray⟩, .bool f.ocsp, .slice a7 f.curves.length c7, .slice a8 f.points.length c8, .bool f.ticket, .slice a10 f.tickets.length c10, .slice a11 f.sigs.length c11, .slice a12 f.sigsC.length c12, .bool f.srs, .slice a14 f.sr.length c14, .bool f.ems, .slice a16 f.alpn.length c16, .bool f.scts, .slice a18 f.vers13.length c18, .slice a19 f.cookie.length c19, .slice none 0 0, .bool f.early, .slice a23 f.modes.length c23, .slice none 0 0, .slice a26 f.binders.length c26, .slice none 0 0, .slice a29 f.ech.length c29, .slice none 0 0] rfl (by kernel_rfl) ?_)
  rw [← HW1.out, ← HMB.out]
  clear q0 q1 q2 q3 q4 q5 q6 q7 q8 q9 q10 q11 q12 q13 q14 q15 q16 q17 q18 q19 q20 q21 q22 q23 q24 q25 q26 q27 q28 q29
  go_wp2_with fail
  clear b20
  refine wp_loop (MsI1 W p mB vv (.slice none 0 0) (.slice none 0 0) [] 0 f a20 c20) (fun a _ => f.shares.length - unIx 61 a) ⟨0, .slice none 0 0, [], Nat.zero_le _, ⟨rfl, rfl, rfl, rfl⟩, ⟨rfl, rfl, rfl⟩, HM1.out, rfl, fun i x h => by simp at h⟩ (fun a' w' hI => ms_round1 hsh HMB.out hpm HQ21.out P20.out P21.out ?_ hI)
  rintro a3 w3 hsl ⟨v21, us1, hm3, hu3⟩
  obtain ⟨s3, dl3⟩ := a3
  obtain ⟨hdf, hs3, k1, k3⟩ := hsl
  simp only at hdf hs3 k1 k3
  subst hdf
  obtain ⟨z, rfl⟩ := arr118 s3 hs3
  have e1 : z 1 = .pointer (some ⟨p, 0, none⟩) := Option.some.inj k1
  have e3 : z 3 = .pointer (some ⟨mB, 0, none⟩) := Option.some.inj k3
  rw [e1, e3]
  have HM3 := Lib.hid hm3
  have HU3 := Lib.hid hu3
  have b24 : w3.cell? ⟨p, 24, none⟩ = some (.slice a24 f.psks.length c24) := (World.cell?_of_block (hm3.bel.block p hpm)).trans HQ24.out
  clear hs3 k1 k3 e1 e3 hm3 hu3
  go_wp2_with fail
  clear b24
  refine wp_loop (MsI2 W p mB vv v21 (.slice none 0 0) us1 f.shares.length f a24 c24) (fun a _ => f.psks.length - unIx 86 a) ⟨0, .slice none 0 0, [], Nat.zero_le _, ⟨rfl, rfl, rfl, rfl⟩, ⟨rfl, rfl, rfl⟩, HM3.out, rfl, fun i x h => by simp at h⟩ (fun a' w' hI => ms_round2 hps HMB.out hpm HQ25.out P24.out P25.out ?_ hI)
  rintro a4 w4 hsl ⟨v24, us2, hm4, hu4⟩
  obtain ⟨s4, dl4⟩ := a4
  obtain ⟨hdf, hs4, k1, k3⟩ := hsl
  simp only at hdf hs4 k1 k3
  subst hdf
  obtain ⟨y, rfl⟩ := arr118 s4 hs4
  have e1 : y 1 = .pointer (some ⟨p, 0, none⟩) := Option.some.inj k1
  have e3 : y 3 = .pointer (some ⟨mB, 0, none⟩) := Option.some.inj k3
  rw [e1, e3]
  have HM4 := Lib.hid hm4
  have HU4 := Lib.hid hu4
  have b27 : w4.cell? ⟨p, 27, none⟩ = some (.bool f.quic.isSome) := (World.cell?_of_block (hm4.bel.block p hpm)).trans HQ27.out
  have b28 : w4.cell? ⟨p, 28, none⟩ = some (.slice a28 (f.quic.getD []).length c28) := (World.cell?_of_block (hm4.bel.block p hpm)).trans HQ28.out
  have hml := lt_of_heap hm4.msg
  clear hs4 k1 k3 e1 e3 hm4 hu4
  have fin : ∀ (v26 : Value) (w5 : World), MsW W mB vv v21 v24 v26 us1 us2 f.shares.length f.psks.length w5 → (CRel w5 w5.heap.size (.qc f.quic) v26) → MsgPost w f (.returned (.pointer (some ⟨mB, 0, none⟩))) w5 := by
    intro v26 w5 h hq26
    have hle : mB ≤ w5.heap.size := by have := lt_of_heap h.msg; omega
    have hbk : ∀ k, k < mB → w5.heap[k]? = W.heap[k]? := h.bel.block
    have hus1 := HU3.out
    have hus2 := HU4.out
    have e0 := HP.out
    have e2 := HSZ.out
    have e4 := HMB.out
    refine ⟨mB, rfl, HBE.out.trans (h.bel.mono (by omega)), _, h.msg, lt_of_heap h.msg, fun i cd hi => ?_⟩
    match i, hi with
    | 0, hi => cases hi; exact ⟨_, rfl, trivial⟩
    | 1, hi => cases hi; exact ⟨vv 0, rfl, VV0.out⟩
    | 2, hi => cases hi; exact ⟨vv 1, rfl, (by rw [VV1.out]; exact SrcB.keep P1.out hle hbk : SrcB _ _ _ _)⟩
    | 3, hi => cases hi; exact ⟨vv 2, rfl, (by rw [VV2.out]; exact SrcB.keep P2.out hle hbk : SrcB _ _ _ _)⟩
    | 4, hi => cases hi; exact ⟨vv 3, rfl, (by rw [VV3.out]; exact RowS.keep P3.out hle hbk : RowS _ _ _ _ _)⟩
    | 5, hi => cases hi; exact ⟨vv 4, rfl, (by rw [VV4.out]; exact SrcB.keep P4.out hle hbk : SrcB _ _ _ _)⟩
    | 6, hi => cases hi; exact ⟨vv 5, rfl, VV5.out⟩
    | 7, hi => cases hi; exact ⟨vv 6, rfl, VV6.out⟩
    | 8, hi => cases hi; exact ⟨vv 7, rfl, (by rw [VV7.out]; exact RowS.keep P7.out hle hbk : RowS _ _ _ _ _)⟩
    | 9, hi => cases hi; exact ⟨vv 8, rfl, (by rw [VV8.out]; exact SrcB.keep P8.out hle hbk : SrcB _ _ _ _)⟩
    | 10, hi => cases hi; exact ⟨vv 9, rfl, VV9.out⟩
    | 11, hi => cases hi; exact ⟨vv 10, rfl, (by rw [VV10.out]; exact SrcB.keep P10.out hle hbk : SrcB _ _ _ _)⟩
    | 12, hi => cases hi; exact ⟨vv 11, rfl, (by rw [VV11.out]; exact RowS.keep P11.out hle hbk : RowS _ _ _ _ _)⟩
    | 13, hi => cases hi; exact ⟨vv 12, rfl, (by rw [VV12.out]; exact RowS.keep P12.out hle hbk : RowS _ _ _ _ _)⟩
    | 14, hi => cases hi; exact ⟨vv 13, rfl, VV13.out⟩
    | 15, hi => cases hi; exact ⟨vv 14, rfl, (by rw [VV14.out]; exact SrcB.keep P14.out hle hbk : SrcB _ _ _ _)⟩
    | 16, hi => cases hi; exact ⟨vv 15, rfl, VV15.out⟩
    | 17, hi => cases hi; exact ⟨vv 16, rfl, (by rw [VV16.out]; exact RowS.keep P16.out hle hbk : RowS _ _ _ _ _)⟩
    | 18, hi => cases hi; exact ⟨vv 17, rfl, VV17.out⟩
    | 19, hi => cases hi; exact ⟨vv 18, rfl, (by rw [VV18.out]; exact RowS.keep P18.out hle hbk : RowS _ _ _ _ _)⟩
    | 20, hi => cases hi; exact ⟨vv 19, rfl, (by rw [VV19.out]; exact SrcB.keep P19.out hle hbk : SrcB _ _ _ _)⟩
    | 21, hi => cases hi; exact ⟨v21, rfl, shr_of h.o1 hus1 hle hbk rfl⟩
    | 22, hi => cases hi; exact ⟨vv 22, rfl, VV22.out⟩
    | 23, hi => cases hi; exact ⟨vv 23, rfl, (by rw [VV23.out]; exact SrcB.keep P23.out hle hbk : SrcB _ _ _ _)⟩
    | 24, hi => cases hi; exact ⟨v24, rfl, psk_of h.o2 hus2 hle hbk rfl⟩
    | 25, hi => cases hi; exact ⟨vv 26, rfl, (by rw [VV26.out]; exact SrcL.keep P26.out hle hbk : SrcL _ _ _ _)⟩
    | 26, hi => cases hi; exact ⟨v26, rfl, hq26⟩
    | 27, hi => cases hi; exact ⟨vv 29, rfl, (by rw [VV29.out]; exact SrcB.keep P29.out hle hbk : SrcB _ _ _ _)⟩
    | 28, hi => cases hi; exact ⟨_, rfl, trivial⟩
    | _ + 29, hi => simp [chS] at hi
  cases hqs : f.quic.isSome with
  | false =>
    have hq0 : f.quic = none := by simpa using hqs
    rw [hqs] at b27
    have HF : Hid (MsgPost w f (.returned (.pointer (some ⟨mB, 0, none⟩))) w4) := Lib.hid (fin (.slice none 0 0) w4 HM4.out (by rw [hq0]; exact ⟨.inl ⟨rfl, rfl⟩, none, 0, 0, rfl, rfl⟩))
    clear fin hq0 hqs
    go_wp2_with fail
    go_ret
    exact HF.out
  | true =>
    rw [hqs] at b27
    obtain ⟨i0, hi, hz0, hz1, hz2⟩ := info_parts Tryz.info5
    have hsrc := (SrcB.keep P28.out (Nat.le_refl _) HM4.out.bel.block : SrcB w4 mB _ _)
    obtain ⟨Q, hQ⟩ : ∃ Q, Q = f.quic.getD [] := ⟨_, rfl⟩
    rw [← hQ] at hsrc b28 hqn
    have HQQ := Lib.hid hQ
    obtain ⟨wE, hwE⟩ : ∃ x, x = w4.alloc (.cells #[] 5) := ⟨_, rfl⟩
    have hnewE : wE.heap[w4.heap.size]? = some (.cells #[] 5 (0, 0)) := by rw [hwE]; exact heap_alloc_new _ _
    have hkE : ∀ k, k < w4.heap.size → wE.heap[k]? = w4.heap[k]? := fun k hk => by rw [hwE]; exact Below.heap_alloc _ _ _ hk
    have hoE : wE.ownsRow (mB + 1) 5 1 (.slice (some ⟨w4.heap.size, 0, none⟩) 0 0) 0 [] := ⟨rfl, .inr ⟨w4.heap.size, 0, #[], rfl, by omega, hnewE, Nat.le_refl _, Nat.zero_le _, rfl, rfl⟩⟩
    have hsE : wE.heap.size = w4.heap.size + 1 := by rw [hwE]; simp
    have hbE : wE.os = w4.os ∧ wE.tape = w4.tape ∧ wE.output = w4.output := by rw [hwE]; exact ⟨rfl, rfl, rfl⟩
    have done : ∀ (v26 : Value) (w2 : World), w2.ownsRow (mB + 1) 5 1 v26 Q.length (Q.map by8) → (∃ a n c, v26 = .slice (some a) n c) → w4.heap.size ≤ w2.heap.size → (w2.os = w4.os ∧ w2.tape = w4.tape ∧ w2.output = w4.output) → (∀ k, k < w4.heap.size → w2.heap[k]? = w4.heap[k]?) →
        MsgPost w f (.returned (.pointer (some ⟨mB, 0, none⟩))) (w2.setCell ⟨mB, 26, none⟩ v26) := by
      intro v26 w2 hown hnn hs2 hot hk
      have h4 := HM4.out
      have hs : ∀ k, k ≠ mB → (w2.setCell ⟨mB, 26, none⟩ v26).heap[k]? = w2.heap[k]? := fun k hn => Below.heap_setCell _ _ _ k hn
      have hm2 := (hk mB (lt_of_heap h4.msg)).trans h4.msg
      refine fin v26 _ ⟨below_set ⟨hot.1.trans h4.bel.os, hot.2.1.trans h4.bel.tape, hot.2.2.trans h4.bel.output, Nat.le_trans h4.bel.size hs2, fun k hk' => (hk k (by omega)).trans (h4.bel.block k hk')⟩, (heap_set_same hm2).trans rfl, ?_, ?_⟩ ⟨?_, ?_⟩
      · exact own_kept h4.o1 fun k hk' => (hs k (by have := (h4.o1.lt k hk').1; omega)).trans (hk k (h4.o1.lt k hk').2)
      · exact own_kept h4.o2 fun k hk' => (hs k (by have := (h4.o2.lt k hk').1; omega)).trans (hk k (h4.o2.lt k hk').2)
      · rw [← HQQ.out]
        exact src_own (own_kept hown fun k hk' => hs k (by have := (hown.lt k hk').1; omega)) (Nat.le_refl _)
      · obtain ⟨a, n, c, rfl⟩ := hnn
        exact ⟨_, n, c, rfl, hqs.symm⟩
    have DONE := Lib.hid done
    have HWE := Lib.hid hwE
    have HOE := Lib.hid hoE
    have HM4c : w4.cell? ⟨mB, 26, none⟩ = some (.slice none 0 0) := by rw [cell_of_heap HM4.out.msg]; rfl
    clear fin done hQ hwE hoE hnewE
    rcases hsrc with ⟨e28, hq0⟩ | ⟨ad, cap, e28, hlt, hnews⟩
    · rw [e28] at b28
      have HK : Hid (∀ k, k < w4.heap.size → wE.heap[k]? = w4.heap[k]?) := Lib.hid hkE
      have HSE := Lib.hid hsE
      have HBE2 := Lib.hid hbE
      have bE : wE.cell? ⟨p, 28, none⟩ = some (.slice none 0 0) := (World.cell?_of_block (hkE p (by omega))).trans b28
      have cE : wE.cell? ⟨mB, 26, none⟩ = some (.slice none 0 0) := (World.cell?_of_block (hkE mB hml)).trans HM4c
      have fE : wE.frozen? ⟨mB, 26, none⟩ = false := frozen_of_heap ((hkE mB hml).trans HM4.out.msg)
      have hs0 : w4.heap.size ≤ wE.heap.size := by omega
      clear hkE hsE hbE
      go_upto_region 13 with fail
      apply wp_region_lit
      iterate 5 go_step
      rw [← HWE.out]
      go_wp2_with (at_builtin; refine wpList_append_own_none rfl (.tmp 111) (.tmp 113) 22 rfl (mB + 1) 5 i0 1 Tryz.underlying22 hi _ 0 [] rfl HOE.out rfl ?_)
      go_ret
      refine DONE.out _ wE (by rw [hq0]; exact HOE.out) ⟨_, _, _, rfl⟩ hs0 HBE2.out HK.out
    · obtain ⟨capv, hcapv⟩ : ∃ x, x = cap := ⟨_, rfl⟩
      rw [e28, ← hcapv] at b28
      clear e28 hcapv
      have HK : Hid (∀ k, k < w4.heap.size → wE.heap[k]? = w4.heap[k]?) := Lib.hid hkE
      have HSE := Lib.hid hsE
      have HBE2 := Lib.hid hbE
      have bE : wE.cell? ⟨p, 28, none⟩ = some (.slice (some ad) Q.length capv) := (World.cell?_of_block (hkE p (by omega))).trans b28
      have hnE : ∀ j u, (Q.map by8)[j]? = some u → wE.cell? (ad.add j) = some u := fun j u hu => by
        have h1 := hnews j u hu
        rw [← h1]
        exact World.cell?_of_block (hkE _ (World.block_lt_of_cell? w4 _ h1))
      have HNE := Lib.hid hnE
      clear hkE hbE hnE hnews
      go_upto_region 13 with fail
      apply wp_region_lit
      iterate 5 go_step
      rw [← HWE.out]
      go_wp2_with (at_builtin; go_loud (refine wpList_append_own _ rfl (.tmp 111) (.tmp 113) 22 rfl (mB + 1) 5 i0 (.int .u8 0) 1 1 Tryz.underlying22 hi hz0 hz1 hz2 rfl (by decide) _ 0 [] rfl HOE.out ad Q.length capv (Q.map by8) rfl (by simp) HNE.out (fun u hu => by obtain ⟨b, _, rfl⟩ := List.mem_map.1 hu; rfl) (by unfold maxLen; omega) (by omega) (by omega) ?_))
      intro v' w2 hown2 hgrow hnil
      have hk2 : ∀ k, k < w4.heap.size → w2.heap[k]? = w4.heap[k]? := fun k hk => (hgrow.block k (by omega) (by simp [Value.ownBlock]; omega)).trans (HK.out k hk)
      have c2 : w2.cell? ⟨mB, 26, none⟩ = some (.slice none 0 0) := (World.cell?_of_block (hk2 mB hml)).trans HM4c
      have f2 : w2.frozen? ⟨mB, 26, none⟩ = false := frozen_of_heap ((hk2 mB hml).trans HM4.out.msg)
      have hs2 : w4.heap.size ≤ w2.heap.size := by have := hgrow.size; omega
      have hot2 : w2.os = w4.os ∧ w2.tape = w4.tape ∧ w2.output = w4.output := ⟨hgrow.os.trans HBE2.out.1, hgrow.tape.trans HBE2.out.2.1, hgrow.output.trans HBE2.out.2.2⟩
      obtain ⟨ao, co, rfl⟩ := row_slice hown2
      have hnn : ∃ a n c, (Value.slice ao Q.length co) = .slice (some a) n c := by
        cases ao with
        | none =>
          exfalso
          rcases hown2.2 with ⟨e, _⟩ | ⟨_, _, _, e, _⟩
          · exact hnil (by simpa using e)
          · cases e
        | some a => exact ⟨a, _, _, rfl⟩
      have HRES := Lib.hid (DONE.out _ w2 (by simpa using hown2) hnn hs2 hot2 hk2)
      clear hown2 hgrow hnil hk2 hs2 hot2 hnn b28 bE
      go_wp2_with fail
      go_ret
      exact HRES.out

end Go.Proofs.YtopcljikkdlffaaGreat
namespace Go.Proofs.YtopcljikkdlffaaGreat
open Go.RowKit

set_option maxRecDepth 100000 in
set_option maxHeartbeats 4000000 in
theorem chm_tls {f : CH} {D : Array Value} {base : Nat} (w : World) (K : ChK f) (hb : base ≤ w.heap.size) (hD : ChS w base f D) :
    Calls Tryz.prog 12 #[.agg D] w fun e w' => ∃ v, e = .returned (.tuple #[v, .nilIface]) ∧ w'.ownsRow w.heap.size 5 1 v (wCH f).length ((wCH f).map by8) ∧ Below w.heap.size w w' := by
  obtain ⟨W, hW⟩ : ∃ W, W = w.alloc (.cells D 37) := ⟨_, rfl⟩
  obtain ⟨r0, hr0⟩ : ∃ r, r = w.heap.size := ⟨_, rfl⟩
  have hh : W.heap[r0]? = some (.cells D 37 (0, 0)) := by rw [hW, hr0]; exact heap_alloc_new _ _
  have HD : Hid (ChS W W.heap.size f D) := Lib.hid (hD.keep (by rw [hW]; simp; omega) fun k hk => by rw [hW]; exact Below.heap_alloc _ _ _ (by omega))
  have HB0 : Hid (Below w.heap.size w W) := Lib.hid (by rw [hW]; exact (Below.refl _ w).alloc (Nat.le_refl _) _)
  have HID : Hid ((Tryz.prog.info? 37).map (·.size) = some D.size) := Lib.hid (by rw [hD.size]; kernel_rfl)
  have HW := Lib.hid hW
  have HR0 := Lib.hid hr0
  have HH := Lib.hid hh
  clear hD hW hr0 hh
  go_enter Tryz.func12, Tryz.ntmps12
  go_upto_region 1 with fail
  rw [← HW.out, ← HR0.out]
  apply wp_region_lit
  repeat (first | (with_reducible refine wpList_load_row rfl 37 (.tmp 1) rfl r0 rfl 37 D (0, 0) _ HH.out Tryz.underlying37 rfl HID.out ?_) | go_step)
  refine (msg_ok W K (Nat.le_refl _) HD.out).mono ?_
  rintro e w1 ⟨m, rfl, hbel, hin⟩
  have HB1 := Lib.hid (HB0.out.trans (hbel.mono HB0.out.size))
  have HIN := Lib.hid hin
  clear hbel hin
  go_wp2_with fail
  refine (ch_marshal w1 K HIN.out).mono ?_
  rintro e w2 ⟨v, rfl, hown, hbel⟩
  have HO := Lib.hid hown
  have HB := Lib.hid hbel
  clear hown hbel
  go_wp2_with fail
  go_ret2
  exact ⟨v, rfl, ownsRow_mono HO.out HB1.out.size, HB1.out.trans (HB.out.mono HB1.out.size)⟩

set_option maxRecDepth 100000 in
set_option maxHeartbeats 4000000 in
theorem chm_impl {f : CH} {D : Array Value} {base : Nat} (w : World) (K : ChK f) (hb : base ≤ w.heap.size) (hD : ChS w base f D) :
    Calls Tryz.prog 6 #[.agg D] w fun e w' => ∃ v, e = .returned (.tuple #[v, .bool true]) ∧ w'.ownsRow w.heap.size 5 1 v (wCH f).length ((wCH f).map by8) ∧ Below w.heap.size w w' := by
  obtain ⟨W, hW⟩ : ∃ W, W = w.alloc (.cells D 29) := ⟨_, rfl⟩
  obtain ⟨r0, hr0⟩ : ∃ r, r = w.heap.size := ⟨_, rfl⟩
  have hh : W.heap[r0]? = some (.cells D 29 (0, 0)) := by rw [hW, hr0]; exact heap_alloc_new _ _
  have HD : Hid (ChS W W.heap.size f D) := Lib.hid (hD.keep (by rw [hW]; simp; omega) fun k hk => by rw [hW]; exact Below.heap_alloc _ _ _ (by omega))
  have HB0 : Hid (Below w.heap.size w W) := Lib.hid (by rw [hW]; exact (Below.refl _ w).alloc (Nat.le_refl _) _)
  have HID : Hid ((Tryz.prog.info? 29).map (·.size) = some D.size) := Lib.hid (by rw [hD.size]; kernel_rfl)
  have HW := Lib.hid hW
  have HR0 := Lib.hid hr0
  have HH := Lib.hid hh
  clear hD hW hr0 hh
  go_enter Tryz.func6, Tryz.ntmps6
  go_upto_region 1 with fail
  rw [← HW.out, ← HR0.out]
  apply wp_region_lit
  repeat (first | (with_reducible refine wpList_load_row rfl 29 (.tmp 1) rfl r0 rfl 29 D (0, 0) _ HH.out Tryz.underlying29 rfl HID.out ?_) | go_step)
  refine (chm_tls W K (Nat.le_refl _) HD.out).mono ?_
  rintro e w1 ⟨v, rfl, hown, hbel⟩
  have HO := Lib.hid hown
  have HB := Lib.hid hbel
  clear hown hbel
  go_wp2_with fail
  go_quiet (fail)
  go_wp2_with fail
  go_ret2
  exact ⟨v, rfl, ownsRow_mono HO.out HB0.out.size, Below_drewN (HB0.out.trans (HB.out.mono HB0.out.size)) nq⟩

end Go.Proofs.YtopcljikkdlffaaGreat
