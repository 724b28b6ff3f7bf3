/- Contracts of the reference's writer. The reference's writer: a vector, a writer within a writer, a message, and a plain message. Contract of cryptobyte.Builder.flushChild where nothing has failed: the child's length is written ahead of its contents. No statement of the seat is proved here. -/
import Derived.Test.YtopcljikkdlffaaGreatX02
namespace Go.Proofs.YtopcljikkdlffaaGreat
open Go.RowKit

/-- The reference's writer in block c: its bytes so far, and whether a vector was too long. -/
def WAt (w : World) (base c : Nat) (bad : Bool) (bs : List UInt8) : Prop :=
  ∃ v, w.heap[c]? = some (.cells #[v, .bool bad] 63 (0, 0)) ∧ w.ownsRow base 5 1 v bs.length (bs.map by8) ∧ base ≤ w.heap.size

set_option maxRecDepth 100000 in
set_option maxHeartbeats 1000000 in
theorem wnum_ok {base c : Nat} {bad : Bool} {bs : List UInt8} (size n : Int) (w : World) (hs : 0 ≤ size ∧ size ≤ 4) (hn : 0 ≤ n ∧ n ≤ 4294967296) (hW : WAt w base c bad bs) (hl : bs.length + 4 ≤ 70368744177664) :
    Calls Tryz.prog 39 #[.pointer (some ⟨c, 0, none⟩), .int .i64 size, .int .i64 n] w fun e w' => e = .returned (.tuple #[]) ∧ WAt w' base c bad (bs ++ en size.toNat n.toNat) ∧ Fr base c w w' := by
  obtain ⟨k, rfl⟩ := Int.eq_ofNat_of_zero_le hs.1
  obtain ⟨m, rfl⟩ := Int.eq_ofNat_of_zero_le hn.1
  obtain ⟨i0, hi, hz0, hz1, hz2⟩ := info_parts Tryz.info5
  have hk : k ≤ 4 := by omega
  have hm : m ≤ 4294967296 := by omega
  have HW := Lib.hid hW
  clear hs hn hW
  go_enter Tryz.func39, Tryz.ntmps39
  go_wp2_with fail
  go_loopw [6] (fun i wr => ∃ (r : Nat) (I : Int) (X : List UInt8), r ≤ k ∧ i = .int .i64 I ∧ I = (r : Int) - 1 ∧ X ++ en r m = en k m ∧ X.length + r = k ∧ WAt wr base c bad (bs ++ X) ∧ Fr base c w wr)
    (fun i _ => (intOf i + 1).toNat)
  case atStart => exact ⟨k, _, [], Nat.le_refl _, rfl, by omega, rfl, by simp, by simpa using HW.out, Fr.refl _ _ _⟩
  case round =>
    obtain ⟨r, I, X, hr, rfl, rfl, hX, hXl, hW1, hF1⟩ := hrel
    have HX := Lib.hid hX
    have HF1 := Lib.hid hF1
    have HW1 := Lib.hid hW1
    clear hX hF1 hW1
    cases r with
    | zero =>
      go_wp2_with fail
      go_end0
      have e : X = en k m := by have := HX.out; simpa [en] using this
      exact ⟨rfl, by rw [Int.toNat_natCast, Int.toNat_natCast, ← e]; exact HW1.out, HF1.out⟩
    | succ r =>
      obtain ⟨v, hc, hown, hb⟩ := HW1.out
      have HC := Lib.hid hc
      have HO := Lib.hid hown
      have f0 : wr.cell? ⟨c, 0, none⟩ = some v := by rw [cell_of_heap hc]; rfl
      clear hc hown
      rw [show ((((r + 1 : Nat) : Int)) - 1) = (r : Int) by omega]
      go_wp2_with fail
      have hw8 : IntKind.i64.wrap (8 * (r : Int)) = 8 * (r : Int) := IntWalk.i64_in _ ⟨by omega, by omega⟩
      have hbv : Value.int .u8 (IntKind.u8.wrap ((m : Int) / 2 ^ (8 * (r : Int)).toNat)) = by8 (UInt8.ofNat (m / 256 ^ r)) := by
        have e : (8 * (r : Int)).toNat = 8 * r := by omega
        have e2 : (2 : Int) ^ (8 * r) = ((256 ^ r : Nat) : Int) := by
          rw [Int.natCast_pow, show ((256 : Nat) : Int) = 2 ^ 8 from rfl, Int.pow_mul]
        rw [e, e2, IntKind.wrap_u8]
        exact (by8_int (by simp)).symm
      have HBV := Lib.hid hbv
      clear hbv
      refine region_ord [(0, true), (1, true), (2, true), (3, true), (4, true), (5, true), (6, true), (7, true), (8, true), (9, true), (10, false), (11, false), (12, true), (13, true), (14, false)]
        (fun w' => w'.cell? ⟨c, 0, none⟩ = some v) mixed (by kernel_rfl) (by kernel_rfl) rfl (by intro c a d v w h; cases d <;> exact h) f0 ?_
      iterate 10 (apply wpOrd_pure rfl rfl; apply Exists.intro; refine ⟨fun w' hS => ?_, ?_⟩; (· (first | (go_simp; done) | (go_simp; with_reducible rfl))); simp only [Act.put, List.setIfInBounds_toArray, List.set_cons_zero, List.set_cons_succ])
      clear hw8
      refine wpOrd_run rfl rfl (fun K hK => ?_)
      go_simp
      rw [HBV.out]
      refine hK _ _ (fun _ => (World.cell?_alloc_lt _ _ _ (lt_of_heap HC.out)).trans f0) ?_
      clear hK K
      refine wpOrd_run rfl rfl (fun K hK => ?_)
      refine wp_append_own _ (.tmp 17) (.tmp 23) 22 rfl base 5 i0 (.int .u8 0) 1 1 Tryz.underlying22 hi hz0 hz1 hz2 rfl (by decide) v (bs ++ X).length ((bs ++ X).map by8) rfl (HO.out.alloc _) ⟨wr.heap.size, 0, none⟩ 1 1 [by8 (UInt8.ofNat (m / 256 ^ r))] rfl rfl ?_ ?_ ?_ ?_ ?_ ?_
      · intro j u hu
        match j, hu with
        | 0, hu => simp at hu; subst hu; exact World.cell?_alloc_new _ _ _ _
      · intro u hu; simp at hu; subst hu; rfl
      · unfold maxLen; simp; omega
      · simp; omega
      · show base ≤ (wr.alloc _).heap.size
        simp; omega
      intro v' w1 hown1 hgrow _
      obtain ⟨ao', cap', rfl⟩ := row_slice hown1
      have HC1 := Lib.hid (grown_other hgrow (HO.out.alloc _) ((Below.heap_alloc _ _ _ (lt_of_heap HC.out)).trans HC.out) (by decide))
      have g0 : w1.cell? ⟨c, 0, none⟩ = some v := by rw [cell_of_heap HC1.out]; rfl
      have hfz1 : w1.frozen? ⟨c, 0, none⟩ = false := frozen_of_heap HC1.out
      refine hK _ _ (fun _ => g0) ?_
      have HG := Lib.hid hgrow
      have HO1 := Lib.hid hown1
      clear hK K hgrow hown1
      simp only [Act.put, List.setIfInBounds_toArray, List.set_cons_zero, List.set_cons_succ]
      iterate 2 (apply wpOrd_pure rfl rfl; apply Exists.intro; refine ⟨fun w' hS => ?_, ?_⟩; (· (first | (go_simp; done) | (go_simp; with_reducible rfl))); simp only [Act.put, List.setIfInBounds_toArray, List.set_cons_zero, List.set_cons_succ])
      refine wpOrd_last rfl rfl (by kernel_rfl) (fun K hK => ?_)
      go_simp
      refine hK _ _ ?_
      clear hK K
      refine wpOrd_nil ?_
      go_wp2_with fail
      go_roundw
      case rel =>
        refine ⟨r, _, X ++ [UInt8.ofNat (m / 256 ^ r)], by omega, rfl, rfl, ?_, ?_, ?_, ?_⟩
        · have h := HX.out
          rw [List.append_assoc]
          exact h
        · simp; omega
        · refine ⟨_, (heap_set_same HC1.out).trans rfl, ?_, ?_⟩
          · have h := HO1.out
            have e1 : (bs ++ (X ++ [UInt8.ofNat (m / 256 ^ r)])).length = bs.length + X.length + 1 := by simp; omega
            have e2 : (bs ++ (X ++ [UInt8.ofNat (m / 256 ^ r)])).map by8 = (bs ++ X).map by8 ++ [by8 (UInt8.ofNat (m / 256 ^ r))] := by simp
            rw [e1, e2]
            rw [List.length_append] at h
            exact ownsRow_set h HC1.out (by decide)
          · have h := HG.out.size
            simp [World.setCell] at h ⊢
            omega
        · refine Fr.setCell ?_ 0 _
          exact ((HF1.out.alloc _).drew).grown HG.out ((HO.out.alloc _))
      case measure => simp [intOf]

end Go.Proofs.YtopcljikkdlffaaGreat
namespace Go.Proofs.YtopcljikkdlffaaGreat
open Go.RowKit

theorem add_block (a : Addr) (i : Nat) : (a.add i).block = a.block := by unfold Addr.add; split <;> rfl
theorem add_plain (b i j : Nat) : Addr.add ⟨b, i, none⟩ j = ⟨b, i + j, none⟩ := by unfold Addr.add; split <;> simp_all

/-- A slice that shows the bytes s and lies below base. -/
def SrcB (w : World) (base : Nat) (v : Value) (s : List UInt8) : Prop :=
  (v = .slice none 0 0 ∧ s = []) ∨ ∃ ad cap, v = .slice (some ad) s.length cap ∧ (s ≠ [] → ad.block < base) ∧ ∀ j u, (s.map by8)[j]? = some u → w.cell? (ad.add j) = some u

theorem SrcB.len {w : World} {base : Nat} {v : Value} {s : List UInt8} (h : SrcB w base v s) : ∃ ad cap, v = .slice ad s.length cap := by
  rcases h with ⟨rfl, rfl⟩ | ⟨ad, cap, rfl, _⟩
  · exact ⟨none, 0, rfl⟩
  · exact ⟨some ad, cap, rfl⟩

theorem SrcB.keep {w w' : World} {base base' : Nat} {v : Value} {s : List UInt8} (h : SrcB w base v s) (hb : base ≤ base') (hk : ∀ k, k < base → w'.heap[k]? = w.heap[k]?) : SrcB w' base' v s := by
  rcases h with h | ⟨ad, cap, e, hlt, hc⟩
  · exact .inl h
  · refine .inr ⟨ad, cap, e, fun h => by have := hlt h; omega, fun j u hu => ?_⟩
    rw [← hc j u hu]
    exact World.cell?_of_block (by rw [add_block]; exact hk _ (hlt (by rintro rfl; simp at hu)))

theorem SrcB.fr {w w' : World} {base c : Nat} {v : Value} {s : List UInt8} (h : SrcB w base v s) (hf : Fr base c w w') (hc : base ≤ c) (hb : base ≤ w.heap.size) : SrcB w' base v s :=
  h.keep (Nat.le_refl _) fun k hk => hf.keep k (by omega) (by omega) (.inl hk)

theorem SrcB.below {w w' : World} {base : Nat} {v : Value} {s : List UInt8} (h : SrcB w base v s) (hf : Below base w w') : SrcB w' base v s :=
  h.keep (Nat.le_refl _) hf.block

theorem SrcB.src {w : World} {base : Nat} {v : Value} {s : List UInt8} (h : SrcB w base v s) : Src w v s := by
  rcases h with h | ⟨ad, cap, e, _, hc⟩
  · exact .inl h
  · exact .inr ⟨ad, cap, e, hc⟩

/-- A row that is owned shows its bytes. -/
theorem src_own {w : World} {base lo : Nat} {v : Value} {s : List UInt8} {n : Nat} (h : w.ownsRow lo 5 1 v n (s.map by8)) (hb : w.heap.size ≤ base) : SrcB w base v s := by
  have hn : n = s.length := by have := h.1; simp at this; omega
  subst hn
  rcases h.2 with ⟨rfl, h2⟩ | ⟨g, cap, cur, rfl, hg, hh, h1, h2, h3, h4⟩
  · exact .inl ⟨rfl, List.length_eq_zero_iff.1 h2⟩
  · refine .inr ⟨_, _, rfl, fun _ => by have := lt_of_heap hh; show g < base; omega, fun j u hu => ?_⟩
    rw [add_plain, Nat.zero_add, cell_of_heap hh, ← Array.getElem?_toList]
    rw [← h4, Nat.mul_one] at hu
    rw [List.getElem?_take] at hu
    split at hu
    · exact hu
    · cases hu

theorem wat_bad {w : World} {base c : Nat} {bad : Bool} {bs : List UInt8} (h : WAt w base c bad bs) : WAt (w.setCell ⟨c, 1, none⟩ (.bool true)) base c true bs := by
  obtain ⟨v, hh, hown, hb⟩ := h
  exact ⟨v, (heap_set_same hh).trans rfl, ownsRow_set hown hh (by decide), by simpa [World.setCell] using hb⟩

set_option maxRecDepth 100000 in
set_option maxHeartbeats 1000000 in
theorem wvec_ok {base c : Nat} {bad : Bool} {bs s : List UInt8} {u : Value} (k : Nat) (w : World) (hk : k = 1 ∨ k = 2 ∨ k = 3) (hW : WAt w base c bad bs) (hc : base ≤ c) (hs : SrcB w base u s) (hs2 : s.length ≤ 4294967296) (hl : bs.length + s.length + 4 ≤ 70368744177664) :
    Calls Tryz.prog 42 #[.pointer (some ⟨c, 0, none⟩), .int .i64 k, u] w fun e w' => e = .returned (.tuple #[]) ∧ WAt w' base c (bad || decide (256 ^ k ≤ s.length)) (bs ++ en k s.length ++ s) ∧ Fr base c w w' := by
  obtain ⟨ad0, cap0, rfl⟩ := hs.len
  have hbase : base ≤ w.heap.size := hW.choose_spec.2.2
  have HW := Lib.hid hW
  have HS := Lib.hid hs
  obtain ⟨i0, hi, hz0, hz1, hz2⟩ := info_parts Tryz.info5
  obtain ⟨v, hh, hown, _⟩ := hW
  have f1 : w.cell? ⟨c, 1, none⟩ = some (.bool bad) := by rw [cell_of_heap hh]; rfl
  have hfz : ∀ o, w.frozen? ⟨c, o, none⟩ = false := fun o => frozen_of_heap hh
  clear hs hown hh
  go_enter Tryz.func42, Tryz.ntmps42
  have hw8 : IntKind.i64.wrap (8 * (k : Int)) = 8 * (k : Int) := IntWalk.i64_in _ ⟨by omega, by omega⟩
  have hm : wrap64 (2 ^ (8 * k)) = ((256 ^ k : Nat) : Int) := by rcases hk with rfl | rfl | rfl <;> (unfold wrap64; simp)
  have HM := Lib.hid hm
  clear hm
  by_cases hbig : wrap64 (2 ^ (8 * k)) ≤ (s.length : Int)
  all_goals go_wp2_with fail
  all_goals (rw [HM.out] at hbig)
  all_goals clear hw8
  all_goals
    refine (wnum_ok _ _ _ (by omega) (by omega) (by first | exact wat_bad HW.out | exact HW.out) (by omega)).mono ?_
    rintro e w1 ⟨rfl, hW1, hF1⟩
    rw [Int.toNat_natCast, Int.toNat_natCast] at hW1
    obtain ⟨Y, hY⟩ : ∃ Y, Y = bs ++ en k s.length := ⟨_, rfl⟩
    have hYl : Y.length ≤ bs.length + 3 := by rw [hY, List.length_append, en_length]; omega
    rw [← hY] at hW1
    have HY := Lib.hid hY
    clear hY
    have hF : Fr base c w w1 := by first | exact ((Fr.refl base c w).setCell 1 (.bool true)).trans hF1 | exact hF1
    have hs1 := HS.out.fr hF hc hbase
    have HF := Lib.hid hF
    have HS1 := Lib.hid hs1
    obtain ⟨v1, hh1, hown1, hb1⟩ := hW1
    have g0 : w1.cell? ⟨c, 0, none⟩ = some v1 := by rw [cell_of_heap hh1]; rfl
    have hgz : w1.frozen? ⟨c, 0, none⟩ = false := frozen_of_heap hh1
    have HH1 := Lib.hid hh1
    have HO1 := Lib.hid hown1
    clear hh1 hown1 hF hs1 hF1 f1 hfz
    have hbad : (bad || decide (256 ^ k ≤ s.length)) = if 256 ^ k ≤ s.length then true else bad := by by_cases h : 256 ^ k ≤ s.length <;> simp [h]
    have hbad := Lib.hid hbad
    rcases HS1.out with ⟨e, rfl⟩ | ⟨ad, capx, e, hlt, hnews⟩
    · simp only [Value.slice.injEq] at e
      obtain ⟨rfl, _, rfl⟩ := e
      obtain ⟨ao1, cap1, rfl⟩ := row_slice HO1.out
      go_wp2_with (at_builtin; go_loud (refine wpList_append_own_none rfl (.tmp 24) (.tmp 25) 22 rfl base 5 i0 1 Tryz.underlying22 hi _ _ _ rfl HO1.out rfl ?_))
      go_end0
      rw [hbad.out]
      first | rw [if_pos (by omega)] | rw [if_neg (by omega)]
      refine ⟨rfl, ⟨_, (heap_set_same HH1.out).trans rfl, ?_, by simpa [World.setCell] using hb1⟩, HF.out.setCell 0 _⟩
      · rw [← HY.out, List.append_nil]; exact ownsRow_set HO1.out HH1.out (by decide)
    · simp only [Value.slice.injEq, true_and] at e
      obtain ⟨rfl, rfl⟩ := e
      obtain ⟨ao1, cap1, rfl⟩ := row_slice HO1.out
      go_wp2_with (at_builtin; refine wpList_append_own _ rfl (.tmp 24) (.tmp 25) 22 rfl base 5 i0 (.int .u8 0) 1 1 Tryz.underlying22 hi hz0 hz1 hz2 rfl (by decide) _ _ _ rfl HO1.out ad s.length cap0 (s.map by8) rfl (by simp) hnews (fun u hu => by obtain ⟨b, _, rfl⟩ := List.mem_map.1 hu; rfl) (by unfold maxLen; omega) (by omega) hb1 ?_; intro v' w2 hown' hgrow _; obtain ⟨ao', cap', rfl⟩ := row_slice hown'; have HH2 := Lib.hid (grown_other hgrow HO1.out HH1.out (by decide)); have g1 : w2.cell? ⟨c, 0, none⟩ = _ := cell_of_heap HH2.out; have hfz2 : w2.frozen? ⟨c, 0, none⟩ = false := frozen_of_heap HH2.out; have HG := Lib.hid hgrow; have HO2 := Lib.hid hown'; clear hgrow hown')
      go_end0
      have hsz := HG.out.size
      rw [hbad.out]
      first | rw [if_pos (by omega)] | rw [if_neg (by omega)]
      refine ⟨rfl, ⟨_, (heap_set_same HH2.out).trans rfl, ?_, ?_⟩, ?_⟩
      · rw [← HY.out, List.length_append, List.map_append]; exact ownsRow_set HO2.out HH2.out (by decide)
      · simp [World.setCell] at hsz ⊢; omega
      · exact (Fr.grown HF.out HG.out HO1.out).setCell 0 _

end Go.Proofs.YtopcljikkdlffaaGreat
namespace Go.Proofs.YtopcljikkdlffaaGreat
open Go.RowKit

set_option maxRecDepth 100000 in
set_option maxHeartbeats 400000 in
/-- Nothing to flush. -/
theorem flush_none {c off pl : Nat} {er v ic : Value} (w : World) (hc : w.heap[c]? = some (.cells (bcells er v (.pointer none) off pl ic) 96 (0, 0))) :
    Calls Tryz.prog 104 #[.pointer (some ⟨c, 0, none⟩)] w fun e w' => e = .returned (.tuple #[]) ∧ w = w' := by
  obtain ⟨f0, f1, f2, f3, f4, f5, f6, f7⟩ := bfacts hc
  clear hc
  go_enter Tryz.func104, Tryz.ntmps104
  go_wp2_with fail
  refine bodyPost_ret (results_none rfl _ _ _) rfl ⟨rfl, rfl⟩

/-- The row while its length is being written: j bytes of the length are still to come. -/
def half (bs out : List UInt8) (pl j : Nat) : List UInt8 := bs ++ List.replicate j 0 ++ en (pl - j) out.length ++ out

theorem half_set (bs out : List UInt8) (pl j : Nat) (hj : j < pl) : (half bs out pl (j + 1)).set (bs.length + j) (UInt8.ofNat (out.length / 256 ^ (pl - (j + 1)))) = half bs out pl j := by
  unfold half
  have e : en (pl - j) out.length = UInt8.ofNat (out.length / 256 ^ (pl - (j + 1))) :: en (pl - (j + 1)) out.length := by
    have : pl - j = (pl - (j + 1)) + 1 := by omega
    rw [this]; rfl
  rw [e, List.replicate_succ']
  simp only [List.append_assoc]
  rw [List.set_append_right _ _ (by omega), Nat.add_sub_cancel_left, List.set_append_right _ _ (by simp)]
  simp

theorem half_length (bs out : List UInt8) (pl j : Nat) (hj : j ≤ pl) : (half bs out pl j).length = bs.length + pl + out.length := by
  unfold half
  simp [en_length]
  omega

set_option maxRecDepth 100000 in
set_option maxHeartbeats 1000000 in
theorem flush_ok {base c k off pl plk : Nat} {v ic ick vk : Value} {bs out : List UInt8} (w : World) (hpl : 1 ≤ plk ∧ plk ≤ 3) (hout : out.length < 256 ^ plk) (hck : ¬ c = k)
    (hc : w.heap[c]? = some (.cells (bcells .nilIface v (.pointer (some ⟨k, 0, none⟩)) off pl ic) 96 (0, 0)))
    (hk : w.heap[k]? = some (.cells (bcells .nilIface vk (.pointer none) bs.length plk ick) 96 (0, 0)))
    (hown : w.ownsRow base 5 1 vk (half bs out plk plk).length ((half bs out plk plk).map by8)) (hb : base ≤ w.heap.size) (hl : bs.length ≤ 70368744177664) :
    Calls Tryz.prog 104 #[.pointer (some ⟨c, 0, none⟩)] w fun e w' => e = .returned (.tuple #[]) ∧ BAt w' base c off pl ic (bs ++ en plk out.length ++ out) ∧ Fr base c w w' := by
  obtain ⟨f0, f1, f2, f3, f4, f5, f6, f7⟩ := bfacts hc
  obtain ⟨g0, g1, g2, g3, g4, g5, g6, g7⟩ := bfacts hk
  have hfz : ∀ o, w.frozen? ⟨c, o, none⟩ = false := fun o => frozen_of_heap hc
  have ho := pow256_le hpl.2
  rw [half_length _ _ _ _ (Nat.le_refl _)] at hown
  obtain ⟨g, cap, rfl⟩ : ∃ g cap, vk = .slice (some ⟨g, 0, none⟩) (bs.length + plk + out.length) cap := by
    rcases hown.2 with ⟨rfl, h2⟩ | ⟨g, cap, cur, rfl, _⟩
    · omega
    · exact ⟨_, _, rfl⟩
  have HC := Lib.hid hc
  have HK := Lib.hid hk
  have HO := Lib.hid hown
  clear hc hk hown
  go_enter Tryz.func104, Tryz.ntmps104
  go_wp2_with fail
  refine (flush_none w HK.out).mono ?_
  rintro e w1 ⟨rfl, rfl⟩
  go_wp2_with fail
  go_quiet (fail)
  go_wp2_with fail
  have HW : Hid (((w.setCell ⟨c, 3, none⟩ (.pointer none)).drewN nq).heap[c]? = some (.cells (bcells .nilIface v (.pointer none) off pl ic) 96 (0, 0)) ∧
      ((w.setCell ⟨c, 3, none⟩ (.pointer none)).drewN nq).heap[k]? = some (.cells (bcells .nilIface (.slice (some ⟨g, 0, none⟩) (bs.length + plk + out.length) cap) (.pointer none) bs.length plk ick) 96 (0, 0)) ∧
      ((w.setCell ⟨c, 3, none⟩ (.pointer none)).drewN nq).ownsRow base 5 1 (.slice (some ⟨g, 0, none⟩) (bs.length + plk + out.length) cap) (bs.length + plk + out.length) ((half bs out plk plk).map by8) ∧
      Fr base c w ((w.setCell ⟨c, 3, none⟩ (.pointer none)).drewN nq)) :=
    ⟨heap_set_same HC.out, (Below.heap_setCell _ _ _ _ (fun e => hck e.symm)).trans HK.out, ownsRow_set (w := w) HO.out HC.out (by decide),
      (show Fr base c w (w.setCell ⟨c, 3, none⟩ (.pointer none)) from (Fr.refl base c w).setCell 3 _).drewN nq⟩
  clear f0 f1 f2 f3 f4 f5 f6 f7 g0 g1 g2 g3 g4 g5 g6 g7 hfz
  go_loopw [8, 9] (fun l i wr => ∃ (j : Nat) (L I : Int), j ≤ plk ∧ l = .int .i64 L ∧ i = .int .i64 I ∧ L = ((out.length / 256 ^ (plk - j) : Nat) : Int) ∧ I = (j : Int) - 1 ∧
      wr.heap[c]? = some (.cells (bcells .nilIface v (.pointer none) off pl ic) 96 (0, 0)) ∧
      wr.heap[k]? = some (.cells (bcells .nilIface (.slice (some ⟨g, 0, none⟩) (bs.length + plk + out.length) cap) (.pointer none) bs.length plk ick) 96 (0, 0)) ∧
      wr.ownsRow base 5 1 (.slice (some ⟨g, 0, none⟩) (bs.length + plk + out.length) cap) (bs.length + plk + out.length) ((half bs out plk j).map by8) ∧ Fr base c w wr)
    (fun _ i _ => (intOf i + 1).toNat)
  case atStart => exact ⟨plk, _, _, Nat.le_refl _, rfl, rfl, by simp; omega, by omega, HW.out⟩
  case round =>
    obtain ⟨j, L, I, hj, rfl, rfl, rfl, rfl, hc, hk, hown, hfr⟩ := hrel
    obtain ⟨g0, g1, g2, g3, g4, g5, g6, g7⟩ := bfacts hk
    have hfzg : ∀ o, wr.frozen? ⟨g, o, none⟩ = false := fun o => hown.frozenAt o
    have HC1 := Lib.hid hc
    have HK1 := Lib.hid hk
    have HO1 := Lib.hid hown
    have HF1 := Lib.hid hfr
    clear HC HK HO HW hc hk hown hfr
    cases j with
    | zero =>
      have e0 : out.length / 256 ^ (plk - 0) = 0 := by rw [Nat.sub_zero]; exact Nat.div_eq_of_lt hout
      rw [e0]
      clear e0
      obtain ⟨f0, f1, f2, f3, f4, f5, f6, f7⟩ := bfacts HC1.out
      have hfz : ∀ o, wr.frozen? ⟨c, o, none⟩ = false := fun o => frozen_of_heap HC1.out
      go_wp2_with fail
      go_quiet (fail)
      go_wp2_with fail
      go_end0
      refine ⟨rfl, ⟨_, (heap_set_same (w := wr.drewN nq) HC1.out).trans rfl, ?_, ?_⟩, (HF1.out.drewN nq).setCell 1 _⟩
      · have e : bs ++ en plk out.length ++ out = half bs out plk 0 := by simp [half]
        rw [e, half_length _ _ _ _ (Nat.zero_le _)]
        exact ownsRow_set (w := wr.drewN nq) HO1.out HC1.out (by decide)
      · have := HF1.out.size; simp [World.setCell]; omega
    | succ j =>
      have hcell : wr.cell? ⟨g, bs.length + j, none⟩ = ((half bs out plk (j + 1)).map by8)[bs.length + j]? := HO1.out.cellAt _ (by omega)
      have hex : ∃ u, wr.cell? ⟨g, bs.length + j, none⟩ = some u := by
        rw [hcell, List.getElem?_map, List.getElem?_eq_getElem (by rw [half_length _ _ _ _ hj]; omega)]
        exact ⟨_, rfl⟩
      clear hcell
      obtain ⟨u, hcell⟩ := hex
      rw [show ((((j + 1 : Nat) : Int)) - 1) = (j : Int) by omega]
      have hq3 : out.length / 256 ^ (plk - (j + 1)) ≤ out.length := Nat.div_le_self _ _
      obtain ⟨q, hq⟩ : ∃ q, q = out.length / 256 ^ (plk - (j + 1)) := ⟨_, rfl⟩
      rw [← hq] at hq3 ⊢
      have HQ := Lib.hid hq
      clear hq
      go_wp2_with fail
      have hw1 : IntKind.i64.wrap ((bs.length : Int) + (j : Int)) = ((bs.length + j : Nat) : Int) := by rw [IntWalk.i64_in _ ⟨by omega, by omega⟩]; omega
      refine region_tail 12 (by kernel_rfl) ?_
      simp only [List.take_succ_cons, List.take_zero, List.drop_succ_cons, List.drop_zero]
      repeat still_step
      refine wpStill_nil ?_
      clear hw1
      go_wp2_with fail
      go_roundw
      case rel =>
        have ev : (Value.int .u8 ((q : Int) % 256)) = by8 (UInt8.ofNat q) := (by8_int rfl).symm
        have hst := HO1.out.stored (bs.length + j) (by8 (UInt8.ofNat q))
        rw [ev]
        refine ⟨j, _, _, by omega, rfl, rfl, ?_, rfl, ?_, ?_, ?_, ?_⟩
        · have e1 : plk - j = (plk - (j + 1)) + 1 := by omega
          rw [e1, Nat.pow_succ, ← Nat.div_div_eq_div_mul, ← HQ.out]
          rfl
        · exact grown_other (w := wr) (w' := wr.setCell ⟨g, bs.length + j, none⟩ (by8 (UInt8.ofNat q))) (v := .slice (some ⟨g, 0, none⟩) (bs.length + plk + out.length) cap) hst.2 HO1.out HC1.out (by decide)
        · exact grown_other (w := wr) (w' := wr.setCell ⟨g, bs.length + j, none⟩ (by8 (UInt8.ofNat q))) (v := .slice (some ⟨g, 0, none⟩) (bs.length + plk + out.length) cap) hst.2 HO1.out HK1.out (by decide)
        · have e2 := half_set bs out plk j (by omega)
          rw [← HQ.out] at e2
          have h1 := hst.1
          rw [← List.map_set, e2] at h1
          exact h1
        · exact (HF1.out.grown hst.2 HO1.out).drew
      case measure => simp [intOf]

end Go.Proofs.YtopcljikkdlffaaGreat
