/- The reference's writer: a vector, a writer within a writer, a message, and a plain message. No statement of the seat is proved here. -/
import Derived.Test.YtopcljikkdlffaaWr
namespace Go.Proofs.Ytopcljikkdlffaa
open Go.RowKit

theorem add_block (a : Addr) (i : Nat) : (a.add i).block = a.block := by unfold Addr.add; split <;> rfl
theorem add_plain (b i j : Nat) : Addr.add ⟨b, i, none⟩ j = ⟨b, i + j, none⟩ := by unfold Addr.add; split <;> simp_all

/-- A slice that shows the bytes s and lies below base. -/
def SrcB (w : World) (base : Nat) (v : Value) (s : List UInt8) : Prop :=
  (v = .slice none 0 0 ∧ s = []) ∨ ∃ ad cap, v = .slice (some ad) s.length cap ∧ (s ≠ [] → ad.block < base) ∧ ∀ j u, (s.map by8)[j]? = some u → w.cell? (ad.add j) = some u

theorem SrcB.len {w : World} {base : Nat} {v : Value} {s : List UInt8} (h : SrcB w base v s) : ∃ ad cap, v = .slice ad s.length cap := by
  rcases h with ⟨rfl, rfl⟩ | ⟨ad, cap, rfl, _⟩
  · exact ⟨none, 0, rfl⟩
  · exact ⟨some ad, cap, rfl⟩

theorem SrcB.keep {w w' : World} {base base' : Nat} {v : Value} {s : List UInt8} (h : SrcB w base v s) (hb : base ≤ base') (hk : ∀ k, k < base → w'.heap[k]? = w.heap[k]?) : SrcB w' base' v s := by
  rcases h with h | ⟨ad, cap, e, hlt, hc⟩
  · exact .inl h
  · refine .inr ⟨ad, cap, e, fun h => by have := hlt h; omega, fun j u hu => ?_⟩
    rw [← hc j u hu]
    exact World.cell?_of_block (by rw [add_block]; exact hk _ (hlt (by rintro rfl; simp at hu)))

theorem SrcB.fr {w w' : World} {base c : Nat} {v : Value} {s : List UInt8} (h : SrcB w base v s) (hf : Fr base c w w') (hc : base ≤ c) (hb : base ≤ w.heap.size) : SrcB w' base v s :=
  h.keep (Nat.le_refl _) fun k hk => hf.keep k (by omega) (by omega) (.inl hk)

theorem SrcB.below {w w' : World} {base : Nat} {v : Value} {s : List UInt8} (h : SrcB w base v s) (hf : Below base w w') : SrcB w' base v s :=
  h.keep (Nat.le_refl _) hf.block

theorem SrcB.src {w : World} {base : Nat} {v : Value} {s : List UInt8} (h : SrcB w base v s) : Src w v s := by
  rcases h with h | ⟨ad, cap, e, _, hc⟩
  · exact .inl h
  · exact .inr ⟨ad, cap, e, hc⟩

/-- A row that is owned shows its bytes. -/
theorem src_own {w : World} {base lo : Nat} {v : Value} {s : List UInt8} {n : Nat} (h : w.ownsRow lo 5 1 v n (s.map by8)) (hb : w.heap.size ≤ base) : SrcB w base v s := by
  have hn : n = s.length := by have := h.1; simp at this; omega
  subst hn
  rcases h.2 with ⟨rfl, h2⟩ | ⟨g, cap, cur, rfl, hg, hh, h1, h2, h3, h4⟩
  · exact .inl ⟨rfl, List.length_eq_zero_iff.1 h2⟩
  · refine .inr ⟨_, _, rfl, fun _ => by have := lt_of_heap hh; show g < base; omega, fun j u hu => ?_⟩
    rw [add_plain, Nat.zero_add, cell_of_heap hh, ← Array.getElem?_toList]
    rw [← h4, Nat.mul_one] at hu
    rw [List.getElem?_take] at hu
    split at hu
    · exact hu
    · cases hu

theorem wat_bad {w : World} {base c : Nat} {bad : Bool} {bs : List UInt8} (h : WAt w base c bad bs) : WAt (w.setCell ⟨c, 1, none⟩ (.bool true)) base c true bs := by
  obtain ⟨v, hh, hown, hb⟩ := h
  exact ⟨v, (heap_set_same hh).trans rfl, ownsRow_set hown hh (by decide), by simpa [World.setCell] using hb⟩

set_option maxRecDepth 100000 in
set_option maxHeartbeats 1000000 in
theorem wvec_ok {base c : Nat} {bad : Bool} {bs s : List UInt8} {u : Value} (k : Nat) (w : World) (hk : k = 1 ∨ k = 2 ∨ k = 3) (hW : WAt w base c bad bs) (hc : base ≤ c) (hs : SrcB w base u s) (hs2 : s.length ≤ 4294967296) (hl : bs.length + s.length + 4 ≤ 70368744177664) :
    Calls Try.prog 78 #[.pointer (some ⟨c, 0, none⟩), .int .i64 k, u] w fun e w' => e = .returned (.tuple #[]) ∧ WAt w' base c (bad || decide (256 ^ k ≤ s.length)) (bs ++ en k s.length ++ s) ∧ Fr base c w w' := by
  obtain ⟨ad0, cap0, rfl⟩ := hs.len
  have hbase : base ≤ w.heap.size := hW.choose_spec.2.2
  have HW := Lib.hid hW
  have HS := Lib.hid hs
  obtain ⟨i0, hi, hz0, hz1, hz2⟩ := info_parts Try.info5
  obtain ⟨v, hh, hown, _⟩ := hW
  have f1 : w.cell? ⟨c, 1, none⟩ = some (.bool bad) := by rw [cell_of_heap hh]; rfl
  have hfz : ∀ o, w.frozen? ⟨c, o, none⟩ = false := fun o => frozen_of_heap hh
  clear hs hown hh
  go_enter Try.func78, Try.ntmps78
  have hw8 : IntKind.i64.wrap (8 * (k : Int)) = 8 * (k : Int) := IntWalk.i64_in _ ⟨by omega, by omega⟩
  have hm : wrap64 (2 ^ (8 * k)) = ((256 ^ k : Nat) : Int) := by rcases hk with rfl | rfl | rfl <;> (unfold wrap64; simp)
  have HM := Lib.hid hm
  clear hm
  by_cases hbig : wrap64 (2 ^ (8 * k)) ≤ (s.length : Int)
  all_goals go_wp2_with fail
  all_goals (rw [HM.out] at hbig)
  all_goals clear hw8
  all_goals
    refine (wnum_ok _ _ _ (by omega) (by omega) (by first | exact wat_bad HW.out | exact HW.out) (by omega)).mono ?_
    rintro e w1 ⟨rfl, hW1, hF1⟩
    rw [Int.toNat_natCast, Int.toNat_natCast] at hW1
    obtain ⟨Y, hY⟩ : ∃ Y, Y = bs ++ en k s.length := ⟨_, rfl⟩
    have hYl : Y.length ≤ bs.length + 3 := by rw [hY, List.length_append, en_length]; omega
    rw [← hY] at hW1
    have HY := Lib.hid hY
    clear hY
    have hF : Fr base c w w1 := by first | exact ((Fr.refl base c w).setCell 1 (.bool true)).trans hF1 | exact hF1
    have hs1 := HS.out.fr hF hc hbase
    have HF := Lib.hid hF
    have HS1 := Lib.hid hs1
    obtain ⟨v1, hh1, hown1, hb1⟩ := hW1
    have g0 : w1.cell? ⟨c, 0, none⟩ = some v1 := by rw [cell_of_heap hh1]; rfl
    have hgz : w1.frozen? ⟨c, 0, none⟩ = false := frozen_of_heap hh1
    have HH1 := Lib.hid hh1
    have HO1 := Lib.hid hown1
    clear hh1 hown1 hF hs1 hF1 f1 hfz
    have hbad : (bad || decide (256 ^ k ≤ s.length)) = if 256 ^ k ≤ s.length then true else bad := by by_cases h : 256 ^ k ≤ s.length <;> simp [h]
    have hbad := Lib.hid hbad
    rcases HS1.out with ⟨e, rfl⟩ | ⟨ad, capx, e, hlt, hnews⟩
    · simp only [Value.slice.injEq] at e
      obtain ⟨rfl, _, rfl⟩ := e
      obtain ⟨ao1, cap1, rfl⟩ := row_slice HO1.out
      go_wp2_with (at_builtin; go_loud (refine wpList_append_own_none rfl (.tmp 24) (.tmp 25) 22 rfl base 5 i0 1 Try.underlying22 hi _ _ _ rfl HO1.out rfl ?_))
      go_end0
      rw [hbad.out]
      first | rw [if_pos (by omega)] | rw [if_neg (by omega)]
      refine ⟨rfl, ⟨_, (heap_set_same HH1.out).trans rfl, ?_, by simpa [World.setCell] using hb1⟩, HF.out.setCell 0 _⟩
      · rw [← HY.out, List.append_nil]; exact ownsRow_set HO1.out HH1.out (by decide)
    · simp only [Value.slice.injEq, true_and] at e
      obtain ⟨rfl, rfl⟩ := e
      obtain ⟨ao1, cap1, rfl⟩ := row_slice HO1.out
      go_wp2_with (at_builtin; refine wpList_append_own _ rfl (.tmp 24) (.tmp 25) 22 rfl base 5 i0 (.int .u8 0) 1 1 Try.underlying22 hi hz0 hz1 hz2 rfl (by decide) _ _ _ rfl HO1.out ad s.length cap0 (s.map by8) rfl (by simp) hnews (fun u hu => by obtain ⟨b, _, rfl⟩ := List.mem_map.1 hu; rfl) (by unfold maxLen; omega) (by omega) hb1 ?_; intro v' w2 hown' hgrow _; obtain ⟨ao', cap', rfl⟩ := row_slice hown'; have HH2 := Lib.hid (grown_other hgrow HO1.out HH1.out (by decide)); have g1 : w2.cell? ⟨c, 0, none⟩ = _ := cell_of_heap HH2.out; have hfz2 : w2.frozen? ⟨c, 0, none⟩ = false := frozen_of_heap HH2.out; have HG := Lib.hid hgrow; have HO2 := Lib.hid hown'; clear hgrow hown')
      go_end0
      have hsz := HG.out.size
      rw [hbad.out]
      first | rw [if_pos (by omega)] | rw [if_neg (by omega)]
      refine ⟨rfl, ⟨_, (heap_set_same HH2.out).trans rfl, ?_, ?_⟩, ?_⟩
      · rw [← HY.out, List.length_append, List.map_append]; exact ownsRow_set HO2.out HH2.out (by decide)
      · simp [World.setCell] at hsz ⊢; omega
      · exact (Fr.grown HF.out HG.out HO1.out).setCell 0 _

end Go.Proofs.Ytopcljikkdlffaa
