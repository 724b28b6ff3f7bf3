/- Contracts of the reference's writer. No statement of the seat is proved here. -/
import Derived.Test.YtopcljikkdlffaaBd
namespace Go.Proofs.Ytopcljikkdlffaa
open Go.RowKit

/-- The reference's writer in block c: its bytes so far, and whether a vector was too long. -/
def WAt (w : World) (base c : Nat) (bad : Bool) (bs : List UInt8) : Prop :=
  ∃ v, w.heap[c]? = some (.cells #[v, .bool bad] 62 (0, 0)) ∧ w.ownsRow base 5 1 v bs.length (bs.map by8) ∧ base ≤ w.heap.size

set_option maxRecDepth 100000 in
set_option maxHeartbeats 1000000 in
theorem wnum_ok {base c : Nat} {bad : Bool} {bs : List UInt8} (size n : Int) (w : World) (hs : 0 ≤ size ∧ size ≤ 4) (hn : 0 ≤ n ∧ n ≤ 4294967296) (hW : WAt w base c bad bs) (hl : bs.length + 4 ≤ 70368744177664) :
    Calls Try.prog 70 #[.pointer (some ⟨c, 0, none⟩), .int .i64 size, .int .i64 n] w fun e w' => e = .returned (.tuple #[]) ∧ WAt w' base c bad (bs ++ en size.toNat n.toNat) ∧ Fr base c w w' := by
  obtain ⟨k, rfl⟩ := Int.eq_ofNat_of_zero_le hs.1
  obtain ⟨m, rfl⟩ := Int.eq_ofNat_of_zero_le hn.1
  obtain ⟨i0, hi, hz0, hz1, hz2⟩ := info_parts Try.info5
  have hk : k ≤ 4 := by omega
  have hm : m ≤ 4294967296 := by omega
  have HW := Lib.hid hW
  clear hs hn hW
  go_enter Try.func70, Try.ntmps70
  go_wp2_with fail
  go_loopw [6] (fun i wr => ∃ (r : Nat) (I : Int) (X : List UInt8), r ≤ k ∧ i = .int .i64 I ∧ I = (r : Int) - 1 ∧ X ++ en r m = en k m ∧ X.length + r = k ∧ WAt wr base c bad (bs ++ X) ∧ Fr base c w wr)
    (fun i _ => (intOf i + 1).toNat)
  case atStart => exact ⟨k, _, [], Nat.le_refl _, rfl, by omega, rfl, by simp, by simpa using HW.out, Fr.refl _ _ _⟩
  case round =>
    obtain ⟨r, I, X, hr, rfl, rfl, hX, hXl, hW1, hF1⟩ := hrel
    have HX := Lib.hid hX
    have HF1 := Lib.hid hF1
    have HW1 := Lib.hid hW1
    clear hX hF1 hW1
    cases r with
    | zero =>
      go_wp2_with fail
      go_end0
      have e : X = en k m := by have := HX.out; simpa [en] using this
      exact ⟨rfl, by rw [Int.toNat_natCast, Int.toNat_natCast, ← e]; exact HW1.out, HF1.out⟩
    | succ r =>
      obtain ⟨v, hc, hown, hb⟩ := HW1.out
      have HC := Lib.hid hc
      have HO := Lib.hid hown
      have f0 : wr.cell? ⟨c, 0, none⟩ = some v := by rw [cell_of_heap hc]; rfl
      clear hc hown
      rw [show ((((r + 1 : Nat) : Int)) - 1) = (r : Int) by omega]
      go_wp2_with fail
      have hw8 : IntKind.i64.wrap (8 * (r : Int)) = 8 * (r : Int) := IntWalk.i64_in _ ⟨by omega, by omega⟩
      have hbv : Value.int .u8 (IntKind.u8.wrap ((m : Int) / 2 ^ (8 * (r : Int)).toNat)) = by8 (UInt8.ofNat (m / 256 ^ r)) := by
        have e : (8 * (r : Int)).toNat = 8 * r := by omega
        have e2 : (2 : Int) ^ (8 * r) = ((256 ^ r : Nat) : Int) := by
          rw [Int.natCast_pow, show ((256 : Nat) : Int) = 2 ^ 8 from rfl, Int.pow_mul]
        rw [e, e2, IntKind.wrap_u8]
        exact (by8_int (by simp)).symm
      have HBV := Lib.hid hbv
      clear hbv
      refine region_ord [(0, true), (1, true), (2, true), (3, true), (4, true), (5, true), (6, true), (7, true), (8, true), (9, true), (10, false), (11, false), (12, true), (13, true), (14, false)]
        (fun w' => w'.cell? ⟨c, 0, none⟩ = some v) mixed (by kernel_rfl) (by kernel_rfl) rfl (by intro c a d v w h; cases d <;> exact h) f0 ?_
      iterate 10 (apply wpOrd_pure rfl rfl; apply Exists.intro; refine ⟨fun w' hS => ?_, ?_⟩; (· (first | (go_simp; done) | (go_simp; with_reducible rfl))); simp only [Act.put, List.setIfInBounds_toArray, List.set_cons_zero, List.set_cons_succ])
      clear hw8
      refine wpOrd_run rfl rfl (fun K hK => ?_)
      go_simp
      rw [HBV.out]
      refine hK _ _ (fun _ => (World.cell?_alloc_lt _ _ _ (lt_of_heap HC.out)).trans f0) ?_
      clear hK K
      refine wpOrd_run rfl rfl (fun K hK => ?_)
      refine wp_append_own _ (.tmp 17) (.tmp 23) 22 rfl base 5 i0 (.int .u8 0) 1 1 Try.underlying22 hi hz0 hz1 hz2 rfl (by decide) v (bs ++ X).length ((bs ++ X).map by8) rfl (HO.out.alloc _) ⟨wr.heap.size, 0, none⟩ 1 1 [by8 (UInt8.ofNat (m / 256 ^ r))] rfl rfl ?_ ?_ ?_ ?_ ?_ ?_
      · intro j u hu
        match j, hu with
        | 0, hu => simp at hu; subst hu; exact World.cell?_alloc_new _ _ _ _
      · intro u hu; simp at hu; subst hu; rfl
      · unfold maxLen; simp; omega
      · simp; omega
      · show base ≤ (wr.alloc _).heap.size
        simp; omega
      intro v' w1 hown1 hgrow _
      obtain ⟨ao', cap', rfl⟩ := row_slice hown1
      have HC1 := Lib.hid (grown_other hgrow (HO.out.alloc _) ((Below.heap_alloc _ _ _ (lt_of_heap HC.out)).trans HC.out) (by decide))
      have g0 : w1.cell? ⟨c, 0, none⟩ = some v := by rw [cell_of_heap HC1.out]; rfl
      have hfz1 : w1.frozen? ⟨c, 0, none⟩ = false := frozen_of_heap HC1.out
      refine hK _ _ (fun _ => g0) ?_
      have HG := Lib.hid hgrow
      have HO1 := Lib.hid hown1
      clear hK K hgrow hown1
      simp only [Act.put, List.setIfInBounds_toArray, List.set_cons_zero, List.set_cons_succ]
      iterate 2 (apply wpOrd_pure rfl rfl; apply Exists.intro; refine ⟨fun w' hS => ?_, ?_⟩; (· (first | (go_simp; done) | (go_simp; with_reducible rfl))); simp only [Act.put, List.setIfInBounds_toArray, List.set_cons_zero, List.set_cons_succ])
      refine wpOrd_last rfl rfl (by kernel_rfl) (fun K hK => ?_)
      go_simp
      refine hK _ _ ?_
      clear hK K
      refine wpOrd_nil ?_
      go_wp2_with fail
      go_roundw
      case rel =>
        refine ⟨r, _, X ++ [UInt8.ofNat (m / 256 ^ r)], by omega, rfl, rfl, ?_, ?_, ?_, ?_⟩
        · have h := HX.out
          rw [List.append_assoc]
          exact h
        · simp; omega
        · refine ⟨_, (heap_set_same HC1.out).trans rfl, ?_, ?_⟩
          · have h := HO1.out
            have e1 : (bs ++ (X ++ [UInt8.ofNat (m / 256 ^ r)])).length = bs.length + X.length + 1 := by simp; omega
            have e2 : (bs ++ (X ++ [UInt8.ofNat (m / 256 ^ r)])).map by8 = (bs ++ X).map by8 ++ [by8 (UInt8.ofNat (m / 256 ^ r))] := by simp
            rw [e1, e2]
            rw [List.length_append] at h
            exact ownsRow_set h HC1.out (by decide)
          · have h := HG.out.size
            simp [World.setCell] at h ⊢
            omega
        · refine Fr.setCell ?_ 0 _
          exact ((HF1.out.alloc _).drew).grown HG.out ((HO.out.alloc _))
      case measure => simp [intOf]

end Go.Proofs.Ytopcljikkdlffaa
