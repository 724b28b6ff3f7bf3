/- Lists of numbers, of texts and of identities, as the reference compares them. Lists of texts and of identities, as the reference compares them. No statement of the seat is proved here. -/
import Derived.Test.YtopcljikkdlffaaX14
import Derived.Test.YtopcljikkdlffaaX06
import Derived.Test.YtopcljikkdlffaaX17
import Derived.Laws.IdiomStrings
namespace Go.Proofs.Ytopcljikkdlffaa
open Go.RowKit

/-- A row of values, below base. -/
def RowS (w : World) (base : Nat) (e : TypeId) (v : Value) (us : List Value) : Prop :=
  (v = .slice none 0 0 ∧ us = []) ∨ ∃ p cap cur, v = .slice (some ⟨p, 0, none⟩) us.length cap ∧ p < base ∧ w.heap[p]? = some (.cells cur e (0, 0)) ∧ ∀ (j : Nat) (u : Value), us[j]? = some u → cur[j]? = some u

theorem RowS.keep {w w' : World} {base base' : Nat} {e : TypeId} {v : Value} {us : List Value} (h : RowS w base e v us) (hb : base ≤ base') (hk : ∀ k, k < base → w'.heap[k]? = w.heap[k]?) : RowS w' base' e v us := by
  rcases h with h | ⟨p, cap, cur, ev, hlt, hh, hc⟩
  · exact .inl h
  · exact .inr ⟨p, cap, cur, ev, by omega, (hk p hlt).trans hh, hc⟩

theorem RowS.len {w : World} {base : Nat} {e : TypeId} {v : Value} {us : List Value} (h : RowS w base e v us) : ∃ ad cap, v = .slice ad us.length cap ∧ (0 < us.length → ∃ x, ad = some ⟨x, 0, none⟩) := by
  rcases h with ⟨rfl, rfl⟩ | ⟨p, cap, cur, rfl, _⟩
  · exact ⟨none, 0, rfl, fun h => by simp at h⟩
  · exact ⟨_, cap, rfl, fun _ => ⟨_, rfl⟩⟩

theorem RowS.at {w : World} {base len cap x : Nat} {e : TypeId} {us : List Value} (h : RowS w base e (.slice (some ⟨x, 0, none⟩) len cap) us) {j : Nat} {u : Value} (hj : us[j]? = some u) : w.cell? ⟨x, j, none⟩ = some u := by
  rcases h with ⟨h, _⟩ | ⟨p, cap, cur, ev, _, hh, hc⟩
  · cases h
  · simp only [Value.slice.injEq, Option.some.injEq, Addr.mk.injEq, and_true] at ev
    obtain ⟨rfl, _, _⟩ := ev
    rw [cell_of_heap hh]
    exact hc j u hj

theorem rowS_of {w : World} {base B n : Nat} {e : TypeId} {v : Value} {us : List Value} (h : w.ownsRow base e 1 v n us) (hB : w.heap.size ≤ B) : RowS w B e v us := by
  have hn : n = us.length := by have := h.1; omega
  subst hn
  rcases h.2 with ⟨rfl, h0⟩ | ⟨p, cap, cur, rfl, hbp, hh, hnc, _, hcs, htake⟩
  · exact .inl ⟨rfl, List.length_eq_zero_iff.1 h0⟩
  · refine .inr ⟨p, cap, cur, rfl, by have := lt_of_heap hh; omega, hh, fun j u hj => ?_⟩
    rw [Nat.mul_one] at htake
    rw [← htake, List.getElem?_take] at hj
    split at hj
    · rw [← Array.getElem?_toList]; exact hj
    · cases hj

/-- Numbers of k bytes, one behind the other. -/
def wnums (k : Nat) (L : List Nat) : List UInt8 := L.flatMap (en k)
theorem wnums_snoc {k : Nat} {L : List Nat} {n : Nat} : wnums k (L ++ [n]) = wnums k L ++ en k n := by simp [wnums]
theorem wnums_len {k : Nat} : ∀ {L : List Nat}, (wnums k L).length = L.length * k
  | [] => by simp [wnums]
  | a :: L => by
    have h := wnums_len (k := k) (L := L)
    unfold wnums at h ⊢
    rw [List.flatMap_cons, List.length_append, en_length, h, List.length_cons, Nat.add_mul]
    omega

/-- A writer that is handed back. -/
theorem wr_back {w : World} {base c : Nat} {bs : List UInt8} (hc : w.heap[c]? = some (.cells #[.slice none 0 0, .bool false] 62 (0, 0))) {v : Value} (hown : w.ownsRow base 5 1 v bs.length (bs.map by8)) :
    ((w.setCell ⟨c, 0, none⟩ v).setCell ⟨c, 1, none⟩ (.bool false)).ownsRow base 5 1 v bs.length (bs.map by8) :=
  ownsRow_set (ownsRow_set hown hc (by decide)) ((heap_set_same hc).trans rfl) (by decide)

set_option maxRecDepth 100000 in
set_option maxHeartbeats 1000000 in
theorem wds_ok {v : Value} {L : List Nat} (w : World) (hL : RowS w w.heap.size 35 v (L.map fun n => Value.int .u16 (n : Nat))) (hn : L.length ≤ 4294967296) (hb : ∀ n ∈ L, n < 65536) :
    Calls Try.prog 90 #[v] w fun e w' => ∃ u, e = .returned (.agg #[u, .bool false]) ∧ w'.ownsRow w.heap.size 5 1 u (wnums 2 L).length ((wnums 2 L).map by8) ∧ Below w.heap.size w w' := by
  obtain ⟨ad, cap, rfl, hx⟩ := hL.len
  rw [List.length_map] at hx hL ⊢
  have HL := Lib.hid hL
  clear hL
  go_enter Try.func90, Try.ntmps90
  go_wp2_with fail
  have HW0 := Lib.hid (wat_new (w.alloc (.cells #[.slice none 0 0, .bool false] 62)) (base := w.heap.size) (by simp))
  rw [World.size_alloc] at HW0
  go_loopw [8] (fun i wr => ∃ j : Nat, j ≤ L.length ∧ i = .int .i64 j ∧ WAt wr w.heap.size (w.heap.size + 1) false (wnums 2 (L.take j)) ∧
      Fr w.heap.size (w.heap.size + 1) ((w.alloc (.cells #[.slice none 0 0, .bool false] 62)).alloc (.cells #[.slice none 0 0, .bool false] 62)) wr) (fun i _ => L.length - (intOf i).toNat)
  case atStart => exact ⟨0, by omega, rfl, by simpa [wnums] using HW0.out, Fr.refl _ _ _⟩
  case round =>
    obtain ⟨j, hj, rfl, hW, hF⟩ := hrel
    have HB : Hid (Below w.heap.size w wr) := Lib.hid ((((Below.refl _ w).alloc (Nat.le_refl _) _).alloc (by simp) _).trans (hF.below (by simp; omega) (by omega)))
    have HW := Lib.hid hW
    have HF := Lib.hid hF
    clear hW hF
    by_cases hjn : j < L.length
    · obtain ⟨x, rfl⟩ := hx (by omega)
      obtain ⟨y, hy⟩ : ∃ y, y = L[j] := ⟨_, rfl⟩
      have hu : wr.cell? ⟨x, j, none⟩ = some (.int .u16 (y : Nat)) := (HL.out.keep (Nat.le_refl _) HB.out.block).at (by simp [hjn, hy])
      have hyb : y < 65536 := by rw [hy]; exact hb _ (List.getElem_mem hjn)
      have hl : (wnums 2 (L.take j)).length + 4 ≤ 70368744177664 := by rw [wnums_len, List.length_take]; omega
      have HT : Hid (L.take j ++ [y] = L.take (j + 1)) := Lib.hid (by rw [List.take_succ_eq_append_getElem hjn, hy])
      clear hy
      go_wp2_with fail
      refine (wnum_ok 2 _ _ (by omega) (by omega) HW.out hl).mono ?_
      rintro e w1 ⟨rfl, hW1, hF1⟩
      rw [show ((2 : Int).toNat) = 2 from rfl, Int.toNat_natCast, ← wnums_snoc, HT.out] at hW1
      have HW1 := Lib.hid hW1
      have HF1 := Lib.hid (HF.out.trans hF1)
      clear hW1 hF1
      go_wp2_with fail
      exact ⟨⟨j + 1, by omega, by simp, HW1.out, HF1.out⟩, by simp [intOf]; omega⟩
    · have hjn' : j = L.length := by omega
      subst hjn'
      rw [List.take_length] at HW
      have c1 : wr.heap[w.heap.size]? = some (.cells #[.slice none 0 0, .bool false] 62 (0, 0)) := by
        rw [HF.out.keep _ (by simp; omega) (by omega) (.inr ?_)]
        · exact (Below.heap_alloc _ _ _ (by simp)).trans (heap_alloc_new _ _)
        · rintro ⟨cs, fr, e⟩
          rw [(Below.heap_alloc _ _ _ (by simp)).trans (heap_alloc_new _ _)] at e
          simp at e
      obtain ⟨v, hh, hown, hb⟩ := HW.out
      obtain ⟨ao, capw, rfl⟩ := row_slice hown
      have g0 : wr.cell? ⟨w.heap.size + 1, 0, none⟩ = some (.slice ao (wnums 2 L).length capw) := by rw [cell_of_heap hh]; rfl
      have g1 : wr.cell? ⟨w.heap.size + 1, 1, none⟩ = some (.bool false) := by rw [cell_of_heap hh]; rfl
      have d0 : wr.cell? ⟨w.heap.size, 0, none⟩ = some (.slice none 0 0) := by rw [cell_of_heap c1]; rfl
      have d1 : wr.cell? ⟨w.heap.size, 1, none⟩ = some (.bool false) := by rw [cell_of_heap c1]; rfl
      have hfz : ∀ o, wr.frozen? ⟨w.heap.size, o, none⟩ = false := fun o => frozen_of_heap c1
      have HO := Lib.hid hown
      have HC := Lib.hid c1
      clear hh hown c1
      go_wp2_with fail
      (try simp only [Exit.inBlock, Exit.then])
      refine bodyPost_ret (v := .agg #[.slice ao (wnums 2 L).length capw, .bool false]) ?_ rfl ⟨_, rfl, wr_back HC.out HO.out, (HB.out.setCell (Nat.le_refl _) _).setCell (Nat.le_refl _) _⟩
      rw [results_cell1 rfl]
      go_simp

@[go_sem] theorem fieldWr (a b : Value) (w : World) : (Instr.field 62 (.agg #[a, b]) 0).run Try.prog w = .ok a w := by kernel_rfl

set_option maxRecDepth 100000 in
set_option maxHeartbeats 1000000 in
theorem sameWords_ok {u v : Value} {L : List Nat} (w : World) (hu : RowS w w.heap.size 35 u (L.map fun n => Value.int .u16 (n : Nat))) (hv : RowS w w.heap.size 35 v (L.map fun n => Value.int .u16 (n : Nat))) (hn : L.length ≤ 4294967296) (hb : ∀ n ∈ L, n < 65536) :
    Calls Try.prog 66 #[u, v] w fun e w' => e = .returned (.bool true) ∧ Below w.heap.size w w' := by
  obtain ⟨ad, cap, rfl, _⟩ := hu.len
  obtain ⟨bd, cap2, rfl, _⟩ := hv.len
  rw [List.length_map] at hu hv ⊢
  have HU := Lib.hid hu
  have HV := Lib.hid hv
  clear hu hv
  go_enter Try.func66, Try.ntmps66
  go_wp2_with fail
  refine (wds_ok w HU.out hn hb).mono ?_
  rintro e w1 ⟨x, rfl, hx, hb1⟩
  obtain ⟨ax, cx, rfl⟩ := row_slice hx
  have HX := Lib.hid hx
  have HB1 := Lib.hid hb1
  have HV1 := Lib.hid (HV.out.keep hb1.size hb1.block)
  clear hx hb1
  go_wp2_with fail
  refine (wds_ok w1 HV1.out hn hb).mono ?_
  rintro e w2 ⟨y, rfl, hy, hb2⟩
  obtain ⟨ay, cy, rfl⟩ := row_slice hy
  have HS1 := Lib.hid (src_own (base := w2.heap.size) (own_kept HX.out fun k hk => hb2.block k (HX.out.lt k hk).2) (Nat.le_refl _)).src
  have HS2 := Lib.hid (src_own (base := w2.heap.size) hy (Nat.le_refl _)).src
  have HB2 := Lib.hid (HB1.out.trans (hb2.mono HB1.out.size))
  clear hy hb2
  go_wp2_with fail
  refine (same_ok w2 HS1.out HS2.out).mono ?_
  rintro e w3 ⟨rfl, rfl⟩
  rw [decide_eq_true rfl]
  go_wp2_with fail
  go_ret
  exact ⟨rfl, HB2.out⟩

end Go.Proofs.Ytopcljikkdlffaa
namespace Go.Proofs.Ytopcljikkdlffaa
open Go.RowKit

/-- A slice of bytes that is the whole head of its row. -/
def ByR (w : World) (u : Value) (s : List UInt8) : Prop :=
  ∃ b cap C fr, u = .slice (some ⟨b, 0, none⟩) s.length cap ∧ w.heap[b]? = some (.cells C 5 fr) ∧ ∀ (j : Nat) (x : Value), (s.map by8)[j]? = some x → C[j]? = some x

theorem ByR.src {w : World} {u : Value} {s : List UInt8} {base : Nat} (h : ByR w u s) (hb : w.heap.size ≤ base) : SrcB w base u s := by
  obtain ⟨b, cap, C, fr, rfl, hh, hc⟩ := h
  refine .inr ⟨_, cap, rfl, fun _ => by have := lt_of_heap hh; show b < base; omega, fun j x hx => ?_⟩
  rw [add_plain, Nat.zero_add, cell_of_heap hh]
  exact hc j x hx

theorem ByR.fs {w w' : World} {u : Value} {s : List UInt8} (h : ByR w u s) (hk : ∀ k, k < w.heap.size → (∃ C fr, w.heap[k]? = some (.cells C 5 fr)) → w'.heap[k]? = w.heap[k]?) : ByR w' u s := by
  obtain ⟨b, cap, C, fr, rfl, hh, hc⟩ := h
  exact ⟨b, cap, C, fr, rfl, (hk b (lt_of_heap hh) ⟨C, fr, hh⟩).trans hh, hc⟩

theorem conv_row (w : World) (s : List UInt8) : ∃ b cap w1, (convert 9 22 (.string ⟨s.toArray⟩)).run Try.prog w = .ok (.slice (some ⟨b, 0, none⟩) s.length cap) w1 ∧ ByR w1 (.slice (some ⟨b, 0, none⟩) s.length cap) s ∧ Fs [] w w1 := by
  have h := run_bytes_of_string (P := Try.prog) w 9 22 5 ⟨s.toArray⟩ Try.underlying9 Try.underlying22 Try.underlying5
  refine ⟨_, _, _, h, ⟨_, _, _, _, rfl, heap_alloc_new w.drew _, fun j u hu => ?_⟩, ((Fs.refl [] w).drew).push _⟩
  unfold bytesRow
  have hj : j < (s.map by8).length := (List.getElem?_eq_some_iff.1 hu).1
  rw [Array.getElem?_append_left (by simpa using hj)]
  rw [List.getElem?_map] at hu
  rw [Array.getElem?_map]
  obtain ⟨b, hb, rfl⟩ := Option.map_eq_some_iff.1 hu
  have e : (⟨s.toArray⟩ : ByteArray).data[j]? = some b := by rw [List.getElem?_toArray]; exact hb
  rw [e]
  rfl

set_option maxRecDepth 100000 in
set_option maxHeartbeats 1000000 in
theorem octets_ok {v : Value} {L : List (List UInt8)} (w : World) (hL : RowS w w.heap.size 9 v (L.map fun s => Value.string ⟨s.toArray⟩)) (hn : L.length ≤ 4294967296) :
    Calls Try.prog 67 #[v] w fun e w' => ∃ o, e = .returned o ∧ LstB w' w'.heap.size o L ∧ Fs [] w w' := by
  obtain ⟨i0, hi, hz0, hz1, hz2⟩ := info_parts Try.info22c
  obtain ⟨ad, cap, rfl, hx⟩ := hL.len
  rw [List.length_map] at hx hL ⊢
  have HL := Lib.hid hL
  clear hL
  go_enter Try.func67, Try.ntmps67
  go_wp2_with fail
  go_loopw [3, 8] (fun o i wr => ∃ (j : Nat) (us : List Value), i = .int .i64 j ∧ j ≤ L.length ∧ wr.ownsRow w.heap.size 22 1 o j us ∧ (∀ (k : Nat) (s : List UInt8), (L.take j)[k]? = some s → ∃ u, us[k]? = some u ∧ ByR wr u s) ∧ Fs [] w wr) (fun _ i _ => L.length - (intOf i).toNat)
  case atStart => exact ⟨0, [], rfl, Nat.zero_le _, World.ownsRow_nil _ _ _ _, fun k s h => by simp at h, Fs.refl _ _⟩
  case round =>
    obtain ⟨j, us, rfl, hj, ho, hs, hf⟩ := hrel
    by_cases hjn : j < L.length
    · have hjn2 : ((j : Nat) : Int) < ((L.length : Nat) : Int) := by omega
      obtain ⟨p, rfl⟩ := hx (by omega)
      obtain ⟨x, hxd⟩ : ∃ x, x = L[j] := ⟨_, rfl⟩
      have q0 : wr.cell? ⟨p, j, none⟩ = some (.string ⟨x.toArray⟩) := (HL.out.keep (Nat.le_refl _) fun k hk => hf.keep k hk (by simp)).at (by simp [hjn, hxd])
      obtain ⟨b, cb, w1, hcv, hby, hf1⟩ := conv_row wr x
      obtain ⟨ao, co, rfl⟩ := row_slice ho
      obtain ⟨n, hnx⟩ : ∃ n, n = x.length := ⟨_, rfl⟩
      rw [← hnx] at hcv
      have HNX := Lib.hid hnx
      have HO := Lib.hid (own_kept ho fun k hk => hf1.keep k (ho.lt k hk).2 (by simp))
      have HBY := Lib.hid hby
      have HS : Hid (∀ (k : Nat) (s : List UInt8), (L.take j)[k]? = some s → ∃ u, us[k]? = some u ∧ ByR w1 u s) := Lib.hid fun k s h => by
        obtain ⟨u, h1, h2⟩ := hs k s h
        exact ⟨u, h1, h2.fs fun k hk _ => hf1.keep k hk (by simp)⟩
      have HF := Lib.hid (hf.trans hf1)
      have HT : Hid (L.take j ++ [x] = L.take (j + 1)) := Lib.hid (by rw [List.take_succ_eq_append_getElem hjn, hxd])
      have hws := (hf.trans hf1).size
      have hbl : b < w1.heap.size := by
        obtain ⟨b', _, _, _, e, hh, _⟩ := hby
        simp only [Value.slice.injEq, Option.some.injEq, Addr.mk.injEq, and_true] at e
        rw [e.1]; exact lt_of_heap hh
      clear ho hs hf hby hf1 hxd hnx
      go_wp2_with (at_builtin; go_loud (refine wpList_append_own _ rfl (.tmp 12) (.tmp 15) 29 rfl w.heap.size 22 i0 (.slice none 0 0) 1 24 Try.underlying29 hi hz0 hz1 hz2 rfl (by decide) _ j us rfl (HO.out.alloc _) ⟨w1.heap.size, 0, none⟩ 1 1 [.slice (some ⟨b, 0, none⟩) n cb] rfl rfl ?_ ?_ ?_ ?_ ?_ ?_))
      · intro j u hu
        match j, hu with
        | 0, hu => simp at hu; subst hu; exact World.cell?_alloc_new _ _ _ _
      · intro u hu; simp at hu; subst hu; rfl
      · unfold maxLen; omega
      · omega
      · simp; omega
      intro v' w3 hown3 hgrow _
      have hgk : ∀ k, k < w1.heap.size → (∃ C fr, w1.heap[k]? = some (.cells C 5 fr)) → w3.heap[k]? = w1.heap[k]? := by
        rintro k hk ⟨C, fr, hh⟩
        have hb : (w1.alloc (Obj.cells #[Value.slice (some ⟨b, 0, none⟩) n cb] 22)).heap[k]? = w1.heap[k]? := Below.heap_alloc _ _ _ hk
        rw [← hb]
        refine hgrow.block k (by simp; omega) ?_
        intro h
        rcases HO.out.2 with ⟨e, _⟩ | ⟨g', cp, cur, e, hb', hh', _⟩
        · rw [e] at h; cases h
        · rw [e] at h
          simp only [Value.ownBlock, Option.some.injEq] at h
          rw [h, hh'] at hh
          simp at hh
      have hfs3 : Fs [] w w3 := by
        have h2 := HF.out
        refine ⟨hgrow.os.trans h2.os, hgrow.tape.trans h2.tape, hgrow.output.trans h2.output, ?_, fun i hi' hn => ?_⟩
        · have h := hgrow.size; simp at h; omega
        · have hb : (w1.alloc (Obj.cells #[Value.slice (some ⟨b, 0, none⟩) n cb] 22)).heap[i]? = w1.heap[i]? := Below.heap_alloc _ _ _ (by omega)
          rw [← h2.keep i hi' hn, ← hb]
          refine hgrow.block i (by simp; omega) ?_
          intro h
          rcases HO.out.2 with ⟨e, _⟩ | ⟨g', cp, cur, e, hb', _⟩
          · rw [e] at h; cases h
          · rw [e] at h
            simp only [Value.ownBlock, Option.some.injEq] at h
            omega
      obtain ⟨ao3, co3, rfl⟩ := row_slice hown3
      have HO3 := Lib.hid hown3
      have HFS3 := Lib.hid hfs3
      have HS3 : Hid (∀ (k : Nat) (s : List UInt8), (L.take (j + 1))[k]? = some s → ∃ u, (us ++ [.slice (some ⟨b, 0, none⟩) n cb])[k]? = some u ∧ ByR w3 u s) := Lib.hid fun k s h => by
        have hul : us.length = j := by have := HO.out.1; omega
        rw [← HT.out] at h
        rcases Nat.lt_or_ge k j with hlt | hge
        · rw [List.getElem?_append_left (by rw [List.length_take]; omega)] at h
          obtain ⟨u, h1, h2⟩ := HS.out k s h
          exact ⟨u, by rw [List.getElem?_append_left (by omega)]; exact h1, h2.fs hgk⟩
        · have hk : k = j := by
            have h1 := (List.getElem?_eq_some_iff.1 h).1
            simp at h1; omega
          subst hk
          rw [List.getElem?_append_right (by rw [List.length_take]; omega), List.length_take, Nat.min_eq_left (by omega), Nat.sub_self] at h
          simp only [List.getElem?_cons_zero, Option.some.injEq] at h
          subst h
          refine ⟨_, by rw [List.getElem?_append_right (by omega), hul, Nat.sub_self]; rfl, ?_⟩
          rw [HNX.out]
          exact HBY.out.fs hgk
      clear hown3 hgrow hfs3 q0 hcv hgk
      go_wp2_with fail
      exact ⟨⟨j + 1, us ++ [.slice (some ⟨b, 0, none⟩) n cb], rfl, by omega, HO3.out, HS3.out, HFS3.out⟩, by simp [intOf]; omega⟩
    · have e : j = L.length := by omega
      subst e
      rw [List.take_length] at hs
      have HO := Lib.hid ho
      have HS := Lib.hid hs
      have HF := Lib.hid hf
      clear ho hs hf
      go_wp2_with fail
      go_ret
      refine ⟨_, rfl, ?_, HF.out⟩
      rcases HO.out.2 with ⟨hv, h0⟩ | ⟨p, cap', cur, hv, hbp, hh, hnc, _, hcs, htake⟩
      · exact .inl ⟨hv, List.length_eq_zero_iff.1 h0⟩
      · refine .inr ⟨_, cap', hv, fun _ => lt_of_heap hh, fun k s hk => ?_⟩
        obtain ⟨u, h1, h2⟩ := HS.out k s hk
        refine ⟨u, ?_, h2.src (Nat.le_refl _)⟩
        rw [add_plain, Nat.zero_add, cell_of_heap hh, ← Array.getElem?_toList]
        rw [Nat.mul_one] at htake
        rw [← htake, List.getElem?_take] at h1
        split at h1
        · exact h1
        · cases h1

/-- Identities of pre-shared keys, one behind the other. -/
def widn (L : List (List UInt8 × Nat)) : List UInt8 := L.flatMap fun x => en 2 x.1.length ++ x.1 ++ en 4 x.2
theorem widn_snoc {L : List (List UInt8 × Nat)} {x : List UInt8 × Nat} : widn (L ++ [x]) = widn L ++ en 2 x.1.length ++ x.1 ++ en 4 x.2 := by simp [widn]
theorem widn_len : ∀ {L : List (List UInt8 × Nat)}, (widn L).length = (L.map fun x => x.1.length + 6).sum
  | [] => rfl
  | a :: L => by
    have h := widn_len (L := L)
    unfold widn at h ⊢
    rw [List.flatMap_cons, List.length_append, h, List.map_cons, List.sum_cons]
    simp [en_length]; omega
theorem widn_many : ∀ {L : List (List UInt8 × Nat)}, L.length ≤ (widn L).length
  | [] => Nat.zero_le _
  | a :: L => by
    have h := widn_many (L := L)
    unfold widn at h ⊢
    rw [List.flatMap_cons, List.length_append, List.length_cons]
    simp only [List.length_append, en_length]; omega
theorem widn_le {L : List (List UInt8 × Nat)} (j : Nat) : (widn (L.take j)).length ≤ (widn L).length := by
  have h : widn L = widn (L.take j) ++ widn (L.drop j) := by unfold widn; rw [← List.flatMap_append, List.take_append_drop]
  rw [h]; simp

set_option maxRecDepth 100000 in
set_option maxHeartbeats 1000000 in
theorem identities_ok {v u : Value} {P : List (List UInt8 × Nat)} (w : World) (hL : LstB w w.heap.size v (P.map (·.1))) (hA : RowS w w.heap.size 143 u ((P.map (·.2)).map fun n => Value.int .u32 (n : Nat))) (hw : (widn P).length ≤ 65535) (hb : ∀ x ∈ P, x.2 < 4294967296) :
    Calls Try.prog 91 #[v, u] w fun e w' => ∃ o, e = .returned (.agg #[o, .bool false]) ∧ w'.ownsRow w.heap.size 5 1 o (widn P).length ((widn P).map by8) ∧ Below w.heap.size w w' := by
  obtain ⟨ad, cap, rfl, hx⟩ := hL.len
  have hPn : P.length ≤ 65535 := by have := widn_many (L := P); omega
  obtain ⟨bd, cap2, rfl, hy⟩ := hA.len
  rw [List.length_map] at hx hL ⊢
  rw [List.length_map, List.length_map] at hy hA ⊢
  have HL := Lib.hid hL
  have HA := Lib.hid hA
  clear hL hA
  go_enter Try.func91, Try.ntmps91
  go_wp2_with fail
  have HW0 := Lib.hid (wat_new (w.alloc (.cells #[.slice none 0 0, .bool false] 62)) (base := w.heap.size) (by simp))
  rw [World.size_alloc] at HW0
  go_loopw [10] (fun i wr => ∃ j : Nat, j ≤ P.length ∧ i = .int .i64 j ∧ WAt wr w.heap.size (w.heap.size + 1) false (widn (P.take j)) ∧
      Fr w.heap.size (w.heap.size + 1) ((w.alloc (.cells #[.slice none 0 0, .bool false] 62)).alloc (.cells #[.slice none 0 0, .bool false] 62)) wr) (fun i _ => P.length - (intOf i).toNat)
  case atStart => exact ⟨0, by omega, rfl, by simpa [widn] using HW0.out, Fr.refl _ _ _⟩
  case round =>
    obtain ⟨j, hj, rfl, hW, hF⟩ := hrel
    have HB : Hid (Below w.heap.size w wr) := Lib.hid ((((Below.refl _ w).alloc (Nat.le_refl _) _).alloc (by simp) _).trans (hF.below (by simp; omega) (by omega)))
    have HW := Lib.hid hW
    have HF := Lib.hid hF
    clear hW hF
    by_cases hjn : j < P.length
    · obtain ⟨x, rfl⟩ := hx (by omega)
      obtain ⟨x2, rfl⟩ := hy (by omega)
      obtain ⟨y, hyd⟩ : ∃ y, y = P[j] := ⟨_, rfl⟩
      obtain ⟨vu, hu, hsrc⟩ := (HL.out.keep (Nat.le_refl _) HB.out.block).at (j := j) (by simpa using hjn)
      have hpj : (P.map (·.1))[j]'(by simpa using hjn) = y.1 := by rw [List.getElem_map, hyd]
      rw [hpj] at hsrc
      have hu2 : wr.cell? ⟨x2, j, none⟩ = some (.int .u32 (y.2 : Nat)) := (HA.out.keep (Nat.le_refl _) HB.out.block).at (by simp [hjn, hyd])
      have hyb : y.2 < 4294967296 := by rw [hyd]; exact hb _ (List.getElem_mem hjn)
      have HT : Hid (P.take j ++ [y] = P.take (j + 1)) := Lib.hid (by rw [List.take_succ_eq_append_getElem hjn, hyd])
      have hlt : (widn (P.take j)).length + 6 + y.1.length ≤ 65535 := by
        have h1 := widn_le (L := P) (j + 1)
        rw [← HT.out, widn_snoc] at h1
        simp [en_length] at h1
        omega
      obtain ⟨s, hs⟩ : ∃ s, s = y.1 := ⟨_, rfl⟩
      obtain ⟨m, hm⟩ : ∃ m, m = y.2 := ⟨_, rfl⟩
      rw [← hs] at hsrc hlt
      rw [← hm] at hu2 hyb
      have HE : Hid (widn (P.take (j + 1)) = widn (P.take j) ++ en 2 s.length ++ s ++ en 4 m) := Lib.hid (by rw [← HT.out, widn_snoc, hs, hm])
      obtain ⟨ad1, cap1, rfl⟩ := hsrc.len
      have HS := Lib.hid hsrc
      clear hyd hs hm hsrc hpj
      go_wp2_with fail
      refine (wvec_ok 2 _ (.inr (.inl rfl)) HW.out (by omega) HS.out (by omega) (by omega)).mono ?_
      rintro e w1 ⟨rfl, hW1, hF1⟩
      rw [decide_eq_false (by omega : ¬ 256 ^ 2 ≤ s.length), Bool.or_false] at hW1
      have HW1 := Lib.hid hW1
      have hu3 : w1.cell? ⟨x2, j, none⟩ = some (.int .u32 (m : Nat)) := by
        rw [← hu2]
        refine World.cell?_of_block (hF1.keep _ (World.block_lt_of_cell? wr _ hu2) ?_ (.inl ?_))
        · show x2 ≠ _
          rcases HA.out with ⟨e, _⟩ | ⟨p, _, _, e, hp, _⟩
          · cases e
          · simp only [Value.slice.injEq, Option.some.injEq, Addr.mk.injEq, and_true] at e
            omega
        · show x2 < _
          rcases HA.out with ⟨e, _⟩ | ⟨p, _, _, e, hp, _⟩
          · cases e
          · simp only [Value.slice.injEq, Option.some.injEq, Addr.mk.injEq, and_true] at e
            omega
      have HF1 := Lib.hid (HF.out.trans hF1)
      clear hW1 hF1 hu2 hu
      go_wp2_with fail
      refine (wnum_ok 4 _ _ (by omega) (by omega) HW1.out (by simp [en_length]; omega)).mono ?_
      rintro e w2 ⟨rfl, hW2, hF2⟩
      rw [show ((4 : Int).toNat) = 4 from rfl, Int.toNat_natCast, ← HE.out] at hW2
      have HW2 := Lib.hid hW2
      have HF2 := Lib.hid (HF1.out.trans hF2)
      clear hW2 hF2
      go_wp2_with fail
      exact ⟨⟨j + 1, by omega, by simp, HW2.out, HF2.out⟩, by simp [intOf]; omega⟩
    · have hjn' : j = P.length := by omega
      subst hjn'
      rw [List.take_length] at HW
      have c1 : wr.heap[w.heap.size]? = some (.cells #[.slice none 0 0, .bool false] 62 (0, 0)) := by
        rw [HF.out.keep _ (by simp; omega) (by omega) (.inr ?_)]
        · exact (Below.heap_alloc _ _ _ (by simp)).trans (heap_alloc_new _ _)
        · rintro ⟨cs, fr, e⟩
          rw [(Below.heap_alloc _ _ _ (by simp)).trans (heap_alloc_new _ _)] at e
          simp at e
      obtain ⟨v, hh, hown, hb⟩ := HW.out
      obtain ⟨ao, capw, rfl⟩ := row_slice hown
      have g0 : wr.cell? ⟨w.heap.size + 1, 0, none⟩ = some (.slice ao (widn P).length capw) := by rw [cell_of_heap hh]; rfl
      have g1 : wr.cell? ⟨w.heap.size + 1, 1, none⟩ = some (.bool false) := by rw [cell_of_heap hh]; rfl
      have d0 : wr.cell? ⟨w.heap.size, 0, none⟩ = some (.slice none 0 0) := by rw [cell_of_heap c1]; rfl
      have d1 : wr.cell? ⟨w.heap.size, 1, none⟩ = some (.bool false) := by rw [cell_of_heap c1]; rfl
      have hfz : ∀ o, wr.frozen? ⟨w.heap.size, o, none⟩ = false := fun o => frozen_of_heap c1
      have HO := Lib.hid hown
      have HC := Lib.hid c1
      clear hh hown c1 hw
      go_wp2_with fail
      (try simp only [Exit.inBlock, Exit.then])
      refine bodyPost_ret (v := .agg #[.slice ao (widn P).length capw, .bool false]) ?_ rfl ⟨_, rfl, wr_back HC.out HO.out, (HB.out.setCell (Nat.le_refl _) _).setCell (Nat.le_refl _) _⟩
      rw [results_cell1 rfl]
      go_simp

end Go.Proofs.Ytopcljikkdlffaa
