/- Lists of texts and of identities, as the reference compares them. A ClientHello that was read: its numbers fit, its identities are short. No program and no memory stand here. No statement of the seat is proved here. -/
import Derived.Test.YtopcljikkdlffaaGreatX09
import Derived.Test.YtopcljikkdlffaaGreatX08
namespace Go.Proofs.YtopcljikkdlffaaGreat
open Go.RowKit

/-- A slice of bytes that is the whole head of its row. -/
def ByR (w : World) (u : Value) (s : List UInt8) : Prop :=
  ∃ b cap C fr, u = .slice (some ⟨b, 0, none⟩) s.length cap ∧ w.heap[b]? = some (.cells C 5 fr) ∧ ∀ (j : Nat) (x : Value), (s.map by8)[j]? = some x → C[j]? = some x

theorem ByR.src {w : World} {u : Value} {s : List UInt8} {base : Nat} (h : ByR w u s) (hb : w.heap.size ≤ base) : SrcB w base u s := by
  obtain ⟨b, cap, C, fr, rfl, hh, hc⟩ := h
  refine .inr ⟨_, cap, rfl, fun _ => by have := lt_of_heap hh; show b < base; omega, fun j x hx => ?_⟩
  rw [add_plain, Nat.zero_add, cell_of_heap hh]
  exact hc j x hx

theorem ByR.fs {w w' : World} {u : Value} {s : List UInt8} (h : ByR w u s) (hk : ∀ k, k < w.heap.size → (∃ C fr, w.heap[k]? = some (.cells C 5 fr)) → w'.heap[k]? = w.heap[k]?) : ByR w' u s := by
  obtain ⟨b, cap, C, fr, rfl, hh, hc⟩ := h
  exact ⟨b, cap, C, fr, rfl, (hk b (lt_of_heap hh) ⟨C, fr, hh⟩).trans hh, hc⟩

theorem conv_row (w : World) (s : List UInt8) : ∃ b cap w1, (convert 9 22 (.string ⟨s.toArray⟩)).run Tryz.prog w = .ok (.slice (some ⟨b, 0, none⟩) s.length cap) w1 ∧ ByR w1 (.slice (some ⟨b, 0, none⟩) s.length cap) s ∧ Fs [] w w1 := by
  have h := run_bytes_of_string (P := Tryz.prog) w 9 22 5 ⟨s.toArray⟩ Tryz.underlying9 Tryz.underlying22 Tryz.underlying5
  refine ⟨_, _, _, h, ⟨_, _, _, _, rfl, heap_alloc_new w.drew _, fun j u hu => ?_⟩, ((Fs.refl [] w).drew).push _⟩
  unfold bytesRow
  have hj : j < (s.map by8).length := (List.getElem?_eq_some_iff.1 hu).1
  rw [Array.getElem?_append_left (by simpa using hj)]
  rw [List.getElem?_map] at hu
  rw [Array.getElem?_map]
  obtain ⟨b, hb, rfl⟩ := Option.map_eq_some_iff.1 hu
  have e : (⟨s.toArray⟩ : ByteArray).data[j]? = some b := by rw [List.getElem?_toArray]; exact hb
  rw [e]
  rfl

set_option maxRecDepth 100000 in
set_option maxHeartbeats 1000000 in
theorem octets_ok {v : Value} {L : List (List UInt8)} (w : World) (hL : RowS w w.heap.size 9 v (L.map fun s => Value.string ⟨s.toArray⟩)) (hn : L.length ≤ 4294967296) :
    Calls Tryz.prog 16 #[v] w fun e w' => ∃ o, e = .returned o ∧ LstB w' w'.heap.size o L ∧ Fs [] w w' := by
  obtain ⟨i0, hi, hz0, hz1, hz2⟩ := info_parts Tryz.info22c
  obtain ⟨ad, cap, rfl, hx⟩ := hL.len
  rw [List.length_map] at hx hL ⊢
  have HL := Lib.hid hL
  clear hL
  go_enter Tryz.func16, Tryz.ntmps16
  go_wp2_with fail
  go_loopw [3, 8] (fun o i wr => ∃ (j : Nat) (us : List Value), i = .int .i64 j ∧ j ≤ L.length ∧ wr.ownsRow w.heap.size 22 1 o j us ∧ (∀ (k : Nat) (s : List UInt8), (L.take j)[k]? = some s → ∃ u, us[k]? = some u ∧ ByR wr u s) ∧ Fs [] w wr) (fun _ i _ => L.length - (intOf i).toNat)
  case atStart => exact ⟨0, [], rfl, Nat.zero_le _, World.ownsRow_nil _ _ _ _, fun k s h => by simp at h, Fs.refl _ _⟩
  case round =>
    obtain ⟨j, us, rfl, hj, ho, hs, hf⟩ := hrel
    by_cases hjn : j < L.length
    · have hjn2 : ((j : Nat) : Int) < ((L.length : Nat) : Int) := by omega
      obtain ⟨p, rfl⟩ := hx (by omega)
      obtain ⟨x, hxd⟩ : ∃ x, x = L[j] := ⟨_, rfl⟩
      have q0 : wr.cell? ⟨p, j, none⟩ = some (.string ⟨x.toArray⟩) := (HL.out.keep (Nat.le_refl _) fun k hk => hf.keep k hk (by simp)).at (by simp [hjn, hxd])
      obtain ⟨b, cb, w1, hcv, hby, hf1⟩ := conv_row wr x
      obtain ⟨ao, co, rfl⟩ := row_slice ho
      obtain ⟨n, hnx⟩ : ∃ n, n = x.length := ⟨_, rfl⟩
      rw [← hnx] at hcv
      have HNX := Lib.hid hnx
      have HO := Lib.hid (own_kept ho fun k hk => hf1.keep k (ho.lt k hk).2 (by simp))
      have HBY := Lib.hid hby
      have HS : Hid (∀ (k : Nat) (s : List UInt8), (L.take j)[k]? = some s → ∃ u, us[k]? = some u ∧ ByR w1 u s) := Lib.hid fun k s h => by
        obtain ⟨u, h1, h2⟩ := hs k s h
        exact ⟨u, h1, h2.fs fun k hk _ => hf1.keep k hk (by simp)⟩
      have HF := Lib.hid (hf.trans hf1)
      have HT : Hid (L.take j ++ [x] = L.take (j + 1)) := Lib.hid (by rw [List.take_succ_eq_append_getElem hjn, hxd])
      have hws := (hf.trans hf1).size
      have hbl : b < w1.heap.size := by
        obtain ⟨b', _, _, _, e, hh, _⟩ := hby
        simp only [Value.slice.injEq, Option.some.injEq, Addr.mk.injEq, and_true] at e
        rw [e.1]; exact lt_of_heap hh
      clear ho hs hf hby hf1 hxd hnx
      go_wp2_with (at_builtin; go_loud (refine wpList_append_own _ rfl (.tmp 12) (.tmp 15) 26 rfl w.heap.size 22 i0 (.slice none 0 0) 1 24 Tryz.underlying26 hi hz0 hz1 hz2 rfl (by decide) _ j us rfl (HO.out.alloc _) ⟨w1.heap.size, 0, none⟩ 1 1 [.slice (some ⟨b, 0, none⟩) n cb] rfl rfl ?_ ?_ ?_ ?_ ?_ ?_))
      · intro j u hu
        match j, hu with
        | 0, hu => simp at hu; subst hu; exact World.cell?_alloc_new _ _ _ _
      · intro u hu; simp at hu; subst hu; rfl
      · unfold maxLen; omega
      · omega
      · simp; omega
      intro v' w3 hown3 hgrow _
      have hgk : ∀ k, k < w1.heap.size → (∃ C fr, w1.heap[k]? = some (.cells C 5 fr)) → w3.heap[k]? = w1.heap[k]? := by
        rintro k hk ⟨C, fr, hh⟩
        have hb : (w1.alloc (Obj.cells #[Value.slice (some ⟨b, 0, none⟩) n cb] 22)).heap[k]? = w1.heap[k]? := Below.heap_alloc _ _ _ hk
        rw [← hb]
        refine hgrow.block k (by simp; omega) ?_
        intro h
        rcases HO.out.2 with ⟨e, _⟩ | ⟨g', cp, cur, e, hb', hh', _⟩
        · rw [e] at h; cases h
        · rw [e] at h
          simp only [Value.ownBlock, Option.some.injEq] at h
          rw [h, hh'] at hh
          simp at hh
      have hfs3 : Fs [] w w3 := by
        have h2 := HF.out
        refine ⟨hgrow.os.trans h2.os, hgrow.tape.trans h2.tape, hgrow.output.trans h2.output, ?_, fun i hi' hn => ?_⟩
        · have h := hgrow.size; simp at h; omega
        · have hb : (w1.alloc (Obj.cells #[Value.slice (some ⟨b, 0, none⟩) n cb] 22)).heap[i]? = w1.heap[i]? := Below.heap_alloc _ _ _ (by omega)
          rw [← h2.keep i hi' hn, ← hb]
          refine hgrow.block i (by simp; omega) ?_
          intro h
          rcases HO.out.2 with ⟨e, _⟩ | ⟨g', cp, cur, e, hb', _⟩
          · rw [e] at h; cases h
          · rw [e] at h
            simp only [Value.ownBlock, Option.some.injEq] at h
            omega
      obtain ⟨ao3, co3, rfl⟩ := row_slice hown3
      have HO3 := Lib.hid hown3
      have HFS3 := Lib.hid hfs3
      have HS3 : Hid (∀ (k : Nat) (s : List UInt8), (L.take (j + 1))[k]? = some s → ∃ u, (us ++ [.slice (some ⟨b, 0, none⟩) n cb])[k]? = some u ∧ ByR w3 u s) := Lib.hid fun k s h => by
        have hul : us.length = j := by have := HO.out.1; omega
        rw [← HT.out] at h
        rcases Nat.lt_or_ge k j with hlt | hge
        · rw [List.getElem?_append_left (by rw [List.length_take]; omega)] at h
          obtain ⟨u, h1, h2⟩ := HS.out k s h
          exact ⟨u, by rw [List.getElem?_append_left (by omega)]; exact h1, h2.fs hgk⟩
        · have hk : k = j := by
            have h1 := (List.getElem?_eq_some_iff.1 h).1
            simp at h1; omega
          subst hk
          rw [List.getElem?_append_right (by rw [List.length_take]; omega), List.length_take, Nat.min_eq_left (by omega), Nat.sub_self] at h
          simp only [List.getElem?_cons_zero, Option.some.injEq] at h
          subst h
          refine ⟨_, by rw [List.getElem?_append_right (by omega), hul, Nat.sub_self]; rfl, ?_⟩
          rw [HNX.out]
          exact HBY.out.fs hgk
      clear hown3 hgrow hfs3 q0 hcv hgk
      go_wp2_with fail
      exact ⟨⟨j + 1, us ++ [.slice (some ⟨b, 0, none⟩) n cb], rfl, by omega, HO3.out, HS3.out, HFS3.out⟩, by simp [intOf]; omega⟩
    · have e : j = L.length := by omega
      subst e
      rw [List.take_length] at hs
      have HO := Lib.hid ho
      have HS := Lib.hid hs
      have HF := Lib.hid hf
      clear ho hs hf
      go_wp2_with fail
      go_ret
      refine ⟨_, rfl, ?_, HF.out⟩
      rcases HO.out.2 with ⟨hv, h0⟩ | ⟨p, cap', cur, hv, hbp, hh, hnc, _, hcs, htake⟩
      · exact .inl ⟨hv, List.length_eq_zero_iff.1 h0⟩
      · refine .inr ⟨_, cap', hv, fun _ => lt_of_heap hh, fun k s hk => ?_⟩
        obtain ⟨u, h1, h2⟩ := HS.out k s hk
        refine ⟨u, ?_, h2.src (Nat.le_refl _)⟩
        rw [add_plain, Nat.zero_add, cell_of_heap hh, ← Array.getElem?_toList]
        rw [Nat.mul_one] at htake
        rw [← htake, List.getElem?_take] at h1
        split at h1
        · exact h1
        · cases h1

/-- Identities of pre-shared keys, one behind the other. -/
def widn (L : List (List UInt8 × Nat)) : List UInt8 := L.flatMap fun x => en 2 x.1.length ++ x.1 ++ en 4 x.2
theorem widn_snoc {L : List (List UInt8 × Nat)} {x : List UInt8 × Nat} : widn (L ++ [x]) = widn L ++ en 2 x.1.length ++ x.1 ++ en 4 x.2 := by simp [widn]
theorem widn_len : ∀ {L : List (List UInt8 × Nat)}, (widn L).length = (L.map fun x => x.1.length + 6).sum
  | [] => rfl
  | a :: L => by
    have h := widn_len (L := L)
    unfold widn at h ⊢
    rw [List.flatMap_cons, List.length_append, h, List.map_cons, List.sum_cons]
    simp [en_length]; omega
theorem widn_many : ∀ {L : List (List UInt8 × Nat)}, L.length ≤ (widn L).length
  | [] => Nat.zero_le _
  | a :: L => by
    have h := widn_many (L := L)
    unfold widn at h ⊢
    rw [List.flatMap_cons, List.length_append, List.length_cons]
    simp only [List.length_append, en_length]; omega
theorem widn_le {L : List (List UInt8 × Nat)} (j : Nat) : (widn (L.take j)).length ≤ (widn L).length := by
  have h : widn L = widn (L.take j) ++ widn (L.drop j) := by unfold widn; rw [← List.flatMap_append, List.take_append_drop]
  rw [h]; simp

set_option maxRecDepth 100000 in
set_option maxHeartbeats 1000000 in
theorem identities_ok {v u : Value} {P : List (List UInt8 × Nat)} (w : World) (hL : LstB w w.heap.size v (P.map (·.1))) (hA : RowS w w.heap.size 57 u ((P.map (·.2)).map fun n => Value.int .u32 (n : Nat))) (hw : (widn P).length ≤ 65535) (hb : ∀ x ∈ P, x.2 < 4294967296) :
    Calls Tryz.prog 25 #[v, u] w fun e w' => ∃ o, e = .returned (.agg #[o, .bool false]) ∧ w'.ownsRow w.heap.size 5 1 o (widn P).length ((widn P).map by8) ∧ Below w.heap.size w w' := by
  obtain ⟨ad, cap, rfl, hx⟩ := hL.len
  have hPn : P.length ≤ 65535 := by have := widn_many (L := P); omega
  obtain ⟨bd, cap2, rfl, hy⟩ := hA.len
  rw [List.length_map] at hx hL ⊢
  rw [List.length_map, List.length_map] at hy hA ⊢
  have HL := Lib.hid hL
  have HA := Lib.hid hA
  clear hL hA
  go_enter Tryz.func25, Tryz.ntmps25
  go_wp2_with fail
  have HW0 := Lib.hid (wat_new (w.alloc (.cells #[.slice none 0 0, .bool false] 63)) (base := w.heap.size) (by simp))
  rw [World.size_alloc] at HW0
  go_loopw [10] (fun i wr => ∃ j : Nat, j ≤ P.length ∧ i = .int .i64 j ∧ WAt wr w.heap.size (w.heap.size + 1) false (widn (P.take j)) ∧
      Fr w.heap.size (w.heap.size + 1) ((w.alloc (.cells #[.slice none 0 0, .bool false] 63)).alloc (.cells #[.slice none 0 0, .bool false] 63)) wr) (fun i _ => P.length - (intOf i).toNat)
  case atStart => exact ⟨0, by omega, rfl, by simpa [widn] using HW0.out, Fr.refl _ _ _⟩
  case round =>
    obtain ⟨j, hj, rfl, hW, hF⟩ := hrel
    have HB : Hid (Below w.heap.size w wr) := Lib.hid ((((Below.refl _ w).alloc (Nat.le_refl _) _).alloc (by simp) _).trans (hF.below (by simp; omega) (by omega)))
    have HW := Lib.hid hW
    have HF := Lib.hid hF
    clear hW hF
    by_cases hjn : j < P.length
    · obtain ⟨x, rfl⟩ := hx (by omega)
      obtain ⟨x2, rfl⟩ := hy (by omega)
      obtain ⟨y, hyd⟩ : ∃ y, y = P[j] := ⟨_, rfl⟩
      obtain ⟨vu, hu, hsrc⟩ := (HL.out.keep (Nat.le_refl _) HB.out.block).at (j := j) (by simpa using hjn)
      have hpj : (P.map (·.1))[j]'(by simpa using hjn) = y.1 := by rw [List.getElem_map, hyd]
      rw [hpj] at hsrc
      have hu2 : wr.cell? ⟨x2, j, none⟩ = some (.int .u32 (y.2 : Nat)) := (HA.out.keep (Nat.le_refl _) HB.out.block).at (by simp [hjn, hyd])
      have hyb : y.2 < 4294967296 := by rw [hyd]; exact hb _ (List.getElem_mem hjn)
      have HT : Hid (P.take j ++ [y] = P.take (j + 1)) := Lib.hid (by rw [List.take_succ_eq_append_getElem hjn, hyd])
      have hlt : (widn (P.take j)).length + 6 + y.1.length ≤ 65535 := by
        have h1 := widn_le (L := P) (j + 1)
        rw [← HT.out, widn_snoc] at h1
        simp [en_length] at h1
        omega
      obtain ⟨s, hs⟩ : ∃ s, s = y.1 := ⟨_, rfl⟩
      obtain ⟨m, hm⟩ : ∃ m, m = y.2 := ⟨_, rfl⟩
      rw [← hs] at hsrc hlt
      rw [← hm] at hu2 hyb
      have HE : Hid (widn (P.take (j + 1)) = widn (P.take j) ++ en 2 s.length ++ s ++ en 4 m) := Lib.hid (by rw [← HT.out, widn_snoc, hs, hm])
      obtain ⟨ad1, cap1, rfl⟩ := hsrc.len
      have HS := Lib.hid hsrc
      clear hyd hs hm hsrc hpj
      go_wp2_with fail
      refine (wvec_ok 2 _ (.inr (.inl rfl)) HW.out (by omega) HS.out (by omega) (by omega)).mono ?_
      rintro e w1 ⟨rfl, hW1, hF1⟩
      rw [decide_eq_false (by omega : ¬ 256 ^ 2 ≤ s.length), Bool.or_false] at hW1
      have HW1 := Lib.hid hW1
      have hu3 : w1.cell? ⟨x2, j, none⟩ = some (.int .u32 (m : Nat)) := by
        rw [← hu2]
        refine World.cell?_of_block (hF1.keep _ (World.block_lt_of_cell? wr _ hu2) ?_ (.inl ?_))
        · show x2 ≠ _
          rcases HA.out with ⟨e, _⟩ | ⟨p, _, _, e, hp, _⟩
          · cases e
          · simp only [Value.slice.injEq, Option.some.injEq, Addr.mk.injEq, and_true] at e
            omega
        · show x2 < _
          rcases HA.out with ⟨e, _⟩ | ⟨p, _, _, e, hp, _⟩
          · cases e
          · simp only [Value.slice.injEq, Option.some.injEq, Addr.mk.injEq, and_true] at e
            omega
      have HF1 := Lib.hid (HF.out.trans hF1)
      clear hW1 hF1 hu2 hu
      go_wp2_with fail
      refine (wnum_ok 4 _ _ (by omega) (by omega) HW1.out (by simp [en_length]; omega)).mono ?_
      rintro e w2 ⟨rfl, hW2, hF2⟩
      rw [show ((4 : Int).toNat) = 4 from rfl, Int.toNat_natCast, ← HE.out] at hW2
      have HW2 := Lib.hid hW2
      have HF2 := Lib.hid (HF1.out.trans hF2)
      clear hW2 hF2
      go_wp2_with fail
      exact ⟨⟨j + 1, by omega, by simp, HW2.out, HF2.out⟩, by simp [intOf]; omega⟩
    · have hjn' : j = P.length := by omega
      subst hjn'
      rw [List.take_length] at HW
      have c1 : wr.heap[w.heap.size]? = some (.cells #[.slice none 0 0, .bool false] 63 (0, 0)) := by
        rw [HF.out.keep _ (by simp; omega) (by omega) (.inr ?_)]
        · exact (Below.heap_alloc _ _ _ (by simp)).trans (heap_alloc_new _ _)
        · rintro ⟨cs, fr, e⟩
          rw [(Below.heap_alloc _ _ _ (by simp)).trans (heap_alloc_new _ _)] at e
          simp at e
      obtain ⟨v, hh, hown, hb⟩ := HW.out
      obtain ⟨ao, capw, rfl⟩ := row_slice hown
      have g0 : wr.cell? ⟨w.heap.size + 1, 0, none⟩ = some (.slice ao (widn P).length capw) := by rw [cell_of_heap hh]; rfl
      have g1 : wr.cell? ⟨w.heap.size + 1, 1, none⟩ = some (.bool false) := by rw [cell_of_heap hh]; rfl
      have d0 : wr.cell? ⟨w.heap.size, 0, none⟩ = some (.slice none 0 0) := by rw [cell_of_heap c1]; rfl
      have d1 : wr.cell? ⟨w.heap.size, 1, none⟩ = some (.bool false) := by rw [cell_of_heap c1]; rfl
      have hfz : ∀ o, wr.frozen? ⟨w.heap.size, o, none⟩ = false := fun o => frozen_of_heap c1
      have HO := Lib.hid hown
      have HC := Lib.hid c1
      clear hh hown c1 hw
      go_wp2_with fail
      (try simp only [Exit.inBlock, Exit.then])
      refine bodyPost_ret (v := .agg #[.slice ao (widn P).length capw, .bool false]) ?_ rfl ⟨_, rfl, wr_back HC.out HO.out, (HB.out.setCell (Nat.le_refl _) _).setCell (Nat.le_refl _) _⟩
      rw [results_cell1 rfl]
      go_simp

end Go.Proofs.YtopcljikkdlffaaGreat
namespace Go.Proofs.YtopcljikkdlffaaGreat

/-- Numbers fit, and the identities with n more bytes are short. -/
structure CH.fine (f : CH) (n : Nat) : Prop where
  suites : ∀ x ∈ f.suites, x < 65536
  curves : ∀ x ∈ f.curves, x < 65536
  sigs : ∀ x ∈ f.sigs, x < 65536
  sigsC : ∀ x ∈ f.sigsC, x < 65536
  vers13 : ∀ x ∈ f.vers13, x < 65536
  shares : ∀ x ∈ f.shares, x.1 < 65536
  psks : ∀ x ∈ f.psks, x.2 < 4294967296
  wt : (f.psks.map fun x => x.1.length + 6).sum + n ≤ 65535

theorem be_lt2 {x r s : List UInt8} (h : rd 2 s = some (x, r)) : be x < 65536 := by
  have h1 := be_lt x
  rw [(rd_some h).2] at h1
  exact h1
theorem be_lt4 {x r s : List UInt8} (h : rd 4 s = some (x, r)) : be x < 4294967296 := by
  have h1 := be_lt x
  rw [(rd_some h).2] at h1
  exact h1

theorem twords_fine : ∀ {n : Nat} {s : List UInt8} {L : List Nat}, twords n s = some L → ∀ x ∈ L, x < 65536
  | n, [], L, h => by rw [twords_nil] at h; cases h; simp
  | 0, c :: s, L, h => by simp [twords] at h
  | n + 1, c :: s, L, h => by
    rw [twords_succ (by simp)] at h
    obtain ⟨⟨x, r⟩, h1, h2⟩ := Option.bind_eq_some_iff.1 h
    obtain ⟨L', h3, rfl⟩ := Option.map_eq_some_iff.1 h2
    have h4 := twords_fine h3
    intro y hy
    rcases List.mem_cons.1 hy with rfl | hy
    · exact be_lt2 h1
    · exact h4 y hy

theorem tshares_fine : ∀ {n : Nat} {s : List UInt8} {L : List (Nat × List UInt8)}, tshares n s = some L → ∀ x ∈ L, x.1 < 65536
  | n, [], L, h => by rw [tshares_nil] at h; cases h; simp
  | 0, c :: s, L, h => by simp [tshares] at h
  | n + 1, c :: s, L, h => by
    rw [tshares_succ (by simp)] at h
    obtain ⟨⟨x, r⟩, h1, h2⟩ := Option.bind_eq_some_iff.1 h
    obtain ⟨⟨y, r2⟩, h3, h4⟩ := Option.bind_eq_some_iff.1 h2
    by_cases hy : y = []
    · rw [if_pos hy] at h4; cases h4
    · rw [if_neg hy] at h4
      obtain ⟨L', h5, rfl⟩ := Option.map_eq_some_iff.1 h4
      have h6 := tshares_fine h5
      intro y hy
      rcases List.mem_cons.1 hy with rfl | hy
      · exact be_lt2 h1
      · exact h6 y hy

theorem tpsks_fine : ∀ {n : Nat} {s : List UInt8} {L : List (List UInt8 × Nat)}, tpsks n s = some L → (∀ x ∈ L, x.2 < 4294967296) ∧ (L.map fun x => x.1.length + 6).sum ≤ s.length
  | n, [], L, h => by rw [tpsks_nil] at h; cases h; simp
  | 0, c :: s, L, h => by simp [tpsks] at h
  | n + 1, c :: s, L, h => by
    rw [tpsks_succ (by simp)] at h
    obtain ⟨⟨y, r⟩, h1, h2⟩ := Option.bind_eq_some_iff.1 h
    obtain ⟨⟨x, r2⟩, h3, h4⟩ := Option.bind_eq_some_iff.1 h2
    by_cases hy : y = []
    · rw [if_pos hy] at h4; cases h4
    · rw [if_neg hy] at h4
      obtain ⟨L', h5, rfl⟩ := Option.map_eq_some_iff.1 h4
      obtain ⟨h6, h7⟩ := tpsks_fine h5
      obtain ⟨e4, _⟩ := rdv_some h1
      obtain ⟨e1, e2⟩ := rd_some h3
      have e5 : (c :: s).length = 2 + y.length + r.length := by rw [e4]; simp [en_length]; omega
      have e3 : r.length = x.length + r2.length := by simp only at e1; rw [e1]; simp
      refine ⟨fun z hz => ?_, ?_⟩
      · rcases List.mem_cons.1 hz with rfl | hz
        · exact be_lt4 h3
        · exact h6 z hz
      · simp only [List.map_cons, List.sum_cons]
        simp only [List.length_cons] at e5 ⊢
        simp only at h7
        omega

theorem chExt_fine {f f' : CH} {ty n : Nat} {d rest r : List UInt8} (h : chExt f ty d rest = some (f', r)) (hm : f.fine (d.length + n)) : f'.fine n := by
  have dl2 : ∀ {x r : List UInt8} {d : List UInt8}, rdv 2 d = some (x, r) → x.length ≤ d.length ∧ r.length ≤ d.length := by
    intro x r d h; rw [(rdv_some h).1]; simp; omega
  have app : ∀ {A B : List Nat}, (∀ x ∈ A, x < 65536) → (∀ x ∈ B, x < 65536) → ∀ x ∈ A ++ B, x < 65536 := fun hA hB x hx => (List.mem_append.1 hx).elim (hA x) (hB x)
  obtain ⟨m1, m2, m3, m4, m5, m6, m7, m8⟩ := hm
  unfold chExt at h
  by_cases k0 : ty = 0
  · rw [if_pos k0] at h
    obtain ⟨⟨l, l2⟩, h1, h2⟩ := Option.bind_eq_some_iff.1 h
    by_cases hl : l = []
    · rw [if_pos hl] at h2; cases h2
    · rw [if_neg hl] at h2
      obtain ⟨x, h3, h4⟩ := Option.map_eq_some_iff.1 h2
      cases h4
      exact ⟨m1, m2, m3, m4, m5, m6, m7, by first | omega | (dsimp only; omega)⟩
  rw [if_neg k0] at h
  by_cases k1 : ty = 5
  · rw [if_pos k1] at h
    obtain ⟨l, h1, h2⟩ := Option.bind_eq_some_iff.1 h
    obtain ⟨l2, h3, h4⟩ := Option.bind_eq_some_iff.1 h2
    obtain ⟨x, h5, h6⟩ := Option.map_eq_some_iff.1 h4
    cases h6
    exact ⟨m1, m2, m3, m4, m5, m6, m7, by first | omega | (dsimp only; omega)⟩
  rw [if_neg k1] at h
  by_cases k2 : ty = 10
  · rw [if_pos k2] at h
    obtain ⟨⟨l, l2⟩, h1, h2⟩ := Option.bind_eq_some_iff.1 h
    by_cases hl : l = []
    · rw [if_pos hl] at h2; cases h2
    · rw [if_neg hl] at h2
      obtain ⟨x, h3, h4⟩ := Option.map_eq_some_iff.1 h2
      cases h4
      exact ⟨m1, app m2 (twords_fine h3), m3, m4, m5, m6, m7, by first | omega | (dsimp only; omega)⟩
  rw [if_neg k2] at h
  by_cases k3 : ty = 11
  · rw [if_pos k3] at h
    obtain ⟨l, h1, h2⟩ := Option.bind_eq_some_iff.1 h
    by_cases hl : l.1 = []
    · rw [if_pos hl] at h2; cases h2
    · rw [if_neg hl] at h2
      cases h2
      exact ⟨m1, m2, m3, m4, m5, m6, m7, by first | omega | (dsimp only; omega)⟩
  rw [if_neg k3] at h
  by_cases k4 : ty = 35
  · rw [if_pos k4] at h
    cases h
    exact ⟨m1, m2, m3, m4, m5, m6, m7, by first | omega | (dsimp only; omega)⟩
  rw [if_neg k4] at h
  by_cases k5 : ty = 13
  · rw [if_pos k5] at h
    obtain ⟨⟨l, l2⟩, h1, h2⟩ := Option.bind_eq_some_iff.1 h
    by_cases hl : l = []
    · rw [if_pos hl] at h2; cases h2
    · rw [if_neg hl] at h2
      obtain ⟨x, h3, h4⟩ := Option.map_eq_some_iff.1 h2
      cases h4
      exact ⟨m1, m2, app m3 (twords_fine h3), m4, m5, m6, m7, by first | omega | (dsimp only; omega)⟩
  rw [if_neg k5] at h
  by_cases k6 : ty = 50
  · rw [if_pos k6] at h
    obtain ⟨⟨l, l2⟩, h1, h2⟩ := Option.bind_eq_some_iff.1 h
    by_cases hl : l = []
    · rw [if_pos hl] at h2; cases h2
    · rw [if_neg hl] at h2
      obtain ⟨x, h3, h4⟩ := Option.map_eq_some_iff.1 h2
      cases h4
      exact ⟨m1, m2, m3, app m4 (twords_fine h3), m5, m6, m7, by first | omega | (dsimp only; omega)⟩
  rw [if_neg k6] at h
  by_cases k7 : ty = 65281
  · rw [if_pos k7] at h
    obtain ⟨x, h3, h4⟩ := Option.map_eq_some_iff.1 h
    cases h4
    exact ⟨m1, m2, m3, m4, m5, m6, m7, by first | omega | (dsimp only; omega)⟩
  rw [if_neg k7] at h
  by_cases k8 : ty = 23
  · rw [if_pos k8] at h
    cases h
    exact ⟨m1, m2, m3, m4, m5, m6, m7, by first | omega | (dsimp only; omega)⟩
  rw [if_neg k8] at h
  by_cases k9 : ty = 16
  · rw [if_pos k9] at h
    obtain ⟨⟨l, l2⟩, h1, h2⟩ := Option.bind_eq_some_iff.1 h
    by_cases hl : l = []
    · rw [if_pos hl] at h2; cases h2
    · rw [if_neg hl] at h2
      obtain ⟨x, h3, h4⟩ := Option.map_eq_some_iff.1 h2
      cases h4
      exact ⟨m1, m2, m3, m4, m5, m6, m7, by first | omega | (dsimp only; omega)⟩
  rw [if_neg k9] at h
  by_cases k10 : ty = 18
  · rw [if_pos k10] at h
    cases h
    exact ⟨m1, m2, m3, m4, m5, m6, m7, by first | omega | (dsimp only; omega)⟩
  rw [if_neg k10] at h
  by_cases k11 : ty = 43
  · rw [if_pos k11] at h
    obtain ⟨⟨l, l2⟩, h1, h2⟩ := Option.bind_eq_some_iff.1 h
    by_cases hl : l = []
    · rw [if_pos hl] at h2; cases h2
    · rw [if_neg hl] at h2
      obtain ⟨x, h3, h4⟩ := Option.map_eq_some_iff.1 h2
      cases h4
      exact ⟨m1, m2, m3, m4, app m5 (twords_fine h3), m6, m7, by first | omega | (dsimp only; omega)⟩
  rw [if_neg k11] at h
  by_cases k12 : ty = 44
  · rw [if_pos k12] at h
    obtain ⟨l, h1, h2⟩ := Option.bind_eq_some_iff.1 h
    by_cases hl : l.1 = []
    · rw [if_pos hl] at h2; cases h2
    · rw [if_neg hl] at h2
      cases h2
      exact ⟨m1, m2, m3, m4, m5, m6, m7, by first | omega | (dsimp only; omega)⟩
  rw [if_neg k12] at h
  by_cases k13 : ty = 51
  · rw [if_pos k13] at h
    obtain ⟨⟨l, l2⟩, h1, h2⟩ := Option.bind_eq_some_iff.1 h
    obtain ⟨x, h3, h4⟩ := Option.map_eq_some_iff.1 h2
    cases h4
    exact ⟨m1, m2, m3, m4, m5, fun y hy => (List.mem_append.1 hy).elim (m6 y) (tshares_fine h3 y), m7, by first | omega | (dsimp only; omega)⟩
  rw [if_neg k13] at h
  by_cases k14 : ty = 42
  · rw [if_pos k14] at h
    cases h
    exact ⟨m1, m2, m3, m4, m5, m6, m7, by first | omega | (dsimp only; omega)⟩
  rw [if_neg k14] at h
  by_cases k15 : ty = 45
  · rw [if_pos k15] at h
    obtain ⟨x, h3, h4⟩ := Option.map_eq_some_iff.1 h
    cases h4
    exact ⟨m1, m2, m3, m4, m5, m6, m7, by first | omega | (dsimp only; omega)⟩
  rw [if_neg k15] at h
  by_cases k16 : ty = 57
  · rw [if_pos k16] at h
    cases h
    exact ⟨m1, m2, m3, m4, m5, m6, m7, by first | omega | (dsimp only; omega)⟩
  rw [if_neg k16] at h
  by_cases k17 : ty = 41
  · rw [if_pos k17] at h
    by_cases hrest : rest ≠ []
    · rw [if_pos hrest] at h; cases h
    rw [if_neg hrest] at h
    obtain ⟨⟨l, l2⟩, h1, h2⟩ := Option.bind_eq_some_iff.1 h
    by_cases hl : l = []
    · rw [if_pos hl] at h2; cases h2
    rw [if_neg hl] at h2
    obtain ⟨x, h3, h4⟩ := Option.bind_eq_some_iff.1 h2
    obtain ⟨⟨b, b2⟩, h5, h6⟩ := Option.bind_eq_some_iff.1 h4
    by_cases hb : b = []
    · rw [if_pos hb] at h6; cases h6
    rw [if_neg hb] at h6
    obtain ⟨y, h7, h8⟩ := Option.map_eq_some_iff.1 h6
    cases h8
    obtain ⟨t1, t2⟩ := tpsks_fine h3
    have t3 := dl2 h1
    simp only at t2
    exact ⟨m1, m2, m3, m4, m5, m6, fun y hy => (List.mem_append.1 hy).elim (m7 y) (t1 y), by simp only [List.map_append, List.sum_append]; omega⟩
  rw [if_neg k17] at h
  by_cases k18 : ty = 65037
  · rw [if_pos k18] at h
    cases h
    exact ⟨m1, m2, m3, m4, m5, m6, m7, by first | omega | (dsimp only; omega)⟩
  rw [if_neg k18] at h
  cases h
  exact ⟨m1, m2, m3, m4, m5, m6, m7, by first | omega | (dsimp only; omega)⟩

theorem chExts_fine : ∀ {n : Nat} {seen : List Nat} {f f' : CH} {s : List UInt8}, chExts n seen f s = some f' → f.fine s.length → f'.fine 0
  | n, seen, f, f', [], h, hm => by rw [chExts_nil] at h; cases h; exact hm
  | 0, seen, f, f', c :: s, h, hm => by simp [chExts] at h
  | n + 1, seen, f, f', c :: s, h, hm => by
    rw [chExts_succ (by simp)] at h
    obtain ⟨⟨t, r1⟩, h1, h2⟩ := Option.bind_eq_some_iff.1 h
    obtain ⟨⟨d, r2⟩, h3, h4⟩ := Option.bind_eq_some_iff.1 h2
    by_cases hin : be t ∈ seen
    · rw [if_pos hin] at h4; cases h4
    · rw [if_neg hin] at h4
      obtain ⟨⟨f1, r3⟩, h5, h6⟩ := Option.bind_eq_some_iff.1 h4
      by_cases hr : r3 = []
      · rw [if_pos hr] at h6
        obtain ⟨e1, e2⟩ := rd_some h1
        obtain ⟨e3, _⟩ := rdv_some h3
        have l1 : (c :: s).length = 2 + r1.length := by rw [e1, List.length_append, e2]
        have l2 : r1.length = 2 + d.length + r2.length := by simp only at e3; rw [e3]; simp [en_length]; omega
        refine chExts_fine h6 (chExt_fine h5 ?_)
        obtain ⟨m1, m2, m3, m4, m5, m6, m7, m8⟩ := hm
        exact ⟨m1, m2, m3, m4, m5, m6, m7, by dsimp only; omega⟩
      · rw [if_neg hr] at h6; cases h6

theorem chRead_fine {bs : List UInt8} {f : CH} (h : chRead bs = some f) : f.fine 0 := by
  unfold chRead at h
  obtain ⟨⟨f0, r⟩, h1, h2⟩ := Option.bind_eq_some_iff.1 h
  have hs : f0.fine 65535 := by
    unfold chHead at h1
    obtain ⟨a1, _, h1⟩ := Option.bind_eq_some_iff.1 h1
    obtain ⟨a2, _, h1⟩ := Option.bind_eq_some_iff.1 h1
    obtain ⟨a3, _, h1⟩ := Option.bind_eq_some_iff.1 h1
    obtain ⟨a4, _, h1⟩ := Option.bind_eq_some_iff.1 h1
    obtain ⟨⟨a5, a5'⟩, h5, h1⟩ := Option.bind_eq_some_iff.1 h1
    obtain ⟨L, hL, h1⟩ := Option.bind_eq_some_iff.1 h1
    obtain ⟨a6, _, h1⟩ := Option.map_eq_some_iff.1 h1
    cases h1
    exact ⟨twords_fine hL, by simp, by simp, by simp, by simp, by simp, by simp, by simp⟩
  by_cases hr : r = []
  · rw [if_pos hr] at h2
    cases h2
    obtain ⟨m1, m2, m3, m4, m5, m6, m7, m8⟩ := hs
    exact ⟨m1, m2, m3, m4, m5, m6, m7, by dsimp only; omega⟩
  · rw [if_neg hr] at h2
    obtain ⟨⟨e, e2⟩, h3, h4⟩ := Option.bind_eq_some_iff.1 h2
    by_cases he : e2 = []
    · rw [if_pos he] at h4
      have hl : e.length < 65536 := (rdv_some h3).2
      refine chExts_fine h4 ?_
      dsimp only
      obtain ⟨m1, m2, m3, m4, m5, m6, m7, m8⟩ := hs
      exact ⟨m1, m2, m3, m4, m5, m6, m7, by omega⟩
    · rw [if_neg he] at h4; cases h4

end Go.Proofs.YtopcljikkdlffaaGreat
