/- The reference finds two ClientHellos the same that show the same. No statement of the seat is proved here. -/
import Derived.Test.YtopcljikkdlffaaGreatX29
import Derived.Test.YtopcljikkdlffaaGreatX16
import Derived.Test.YtopcljikkdlffaaGreatX10
import Derived.Test.YtopcljikkdlffaaGreatX24
namespace Go.Proofs.YtopcljikkdlffaaGreat
open Go.RowKit

set_option maxRecDepth 100000 in
set_option maxHeartbeats 1000000 in
theorem sameL_ok {base : Nat} {u v : Value} {L : List (List UInt8)} (w : World) (hu : LstB w base u L) (hv : LstB w base v L) (hn : L.length ≤ 4294967296) :
    Calls Tryz.prog 15 #[u, v] w fun e w' => e = .returned (.bool true) ∧ w' = w := by
  obtain ⟨ad, cap, rfl, hx⟩ := hu.len
  obtain ⟨bd, cap2, rfl, hy⟩ := hv.len
  have HU := Lib.hid hu
  have HV := Lib.hid hv
  clear hu hv
  go_enter Tryz.func15, Tryz.ntmps15
  go_wp2_with fail
  go_loop [5, 6, 14, 15, 16, 17, 18, 19, 20, 21, 22, 23, 24, 25] (fun _ _ i _ _ _ _ _ _ _ _ _ _ _ => ∃ j : Nat, j ≤ L.length ∧ i = .int .i64 j) (fun _ _ i _ _ _ _ _ _ _ _ _ _ _ => L.length - (intOf i).toNat)
  case atStart => exact ⟨0, by omega, rfl⟩
  case round =>
    obtain ⟨j, hj, rfl⟩ := hrel
    by_cases hjn : j < L.length
    · obtain ⟨x, rfl⟩ := hx (by omega)
      obtain ⟨y, rfl⟩ := hy (by omega)
      obtain ⟨u1, hu, hsu⟩ := HU.out.at hjn
      obtain ⟨u2, hv, hsv⟩ := HV.out.at hjn
      obtain ⟨ad1, cap1, rfl⟩ := hsu.len
      obtain ⟨ad2, cap2, rfl⟩ := hsv.len
      have HSU := Lib.hid hsu
      have HSV := Lib.hid hsv
      clear hsu hsv
      go_wp2_with fail
      refine (same_ok w HSU.out.src HSV.out.src).mono ?_
      rintro e w1 ⟨rfl, rfl⟩
      rw [decide_eq_true rfl]
      go_wp2_with fail
      exact ⟨⟨j + 1, by omega, by simp⟩, by simp [intOf]; omega⟩
    · go_wp2_with fail
      go_ret
      exact ⟨rfl, rfl⟩

set_option maxRecDepth 100000 in
set_option maxHeartbeats 16000000 in
theorem sameKeys_ok {f : CH} {D E : Array Value} {base : Nat} (w : World) (hb : base ≤ w.heap.size) (hD : ChS w base f D) (hE : ChS w base f E) (hf : f.fine 0) (hm : f.most 0) :
    Calls Tryz.prog 17 #[.agg D, .agg E] w fun e w' => e = .returned (.bool true) ∧ Below w.heap.size w w' := by
  obtain ⟨W, hW⟩ : ∃ W, W = (w.alloc (.cells D 29)).alloc (.cells E 29) := ⟨_, rfl⟩
  have hsz : W.heap.size = w.heap.size + 2 := by rw [hW]; simp
  have hk : ∀ k, k < base → W.heap[k]? = w.heap[k]? := fun k hk => by
    rw [hW]; exact (Below.heap_alloc _ _ _ (by simp; omega)).trans (Below.heap_alloc _ _ _ (by omega))
  have HBE : Hid (Below w.heap.size w W) := Lib.hid (by rw [hW]; exact ((Below.refl _ w).alloc (Nat.le_refl _) _).alloc (by simp) _)
  obtain ⟨p, hp⟩ : ∃ p, p = w.heap.size := ⟨_, rfl⟩
  have xheap : W.heap[p]? = some (.cells D 29 (0, 0)) := by rw [hW, hp]; exact heap_push (heap_alloc_new _ _)
  have yheap : W.heap[p + 1]? = some (.cells E 29 (0, 0)) := by
    have h := heap_alloc_new (w.alloc (.cells D 29)) (.cells E 29)
    rw [World.size_alloc, ← hp] at h
    rw [hW]; exact h
  have hpl : p < W.heap.size := by omega
  have hpl2 : p + 1 < W.heap.size := by omega
  have hiD : (Tryz.prog.info? 29).map (·.size) = some D.size := by rw [hD.size]; kernel_rfl
  have hiE : (Tryz.prog.info? 29).map (·.size) = some E.size := by rw [hE.size]; kernel_rfl
  have DX := Lib.hid (hD.keep (base' := W.heap.size) (by omega) hk)
  have EX := Lib.hid (hE.keep (base' := W.heap.size) (by omega) hk)
  have HB0 : Hid (Below W.heap.size W W.drew) := Lib.hid (fs_bel ((Fs.refl [] W).drew) (by simp))
  obtain ⟨f1, f2, f3, f4, f5, f6, f7, f8⟩ := hf
  obtain ⟨m1, m2, m3, m4, m5, m6, m7, m8, m9, m10⟩ := hm
  obtain ⟨_, xd24, xh24⟩ := DX.out.rel 24 _ rfl
  obtain ⟨xa24, xc24, rfl, _⟩ := SrcL.len xh24
  rw [List.length_map] at xd24 xh24
  have xP24 := Lib.hid xh24
  have xq24 : W.cell? ⟨p, 24, none⟩ = some (.slice xa24 f.psks.length xc24) := by rw [cell_of_heap xheap]; exact xd24
  obtain ⟨_, xd25, xh25⟩ := DX.out.rel 25 _ rfl
  obtain ⟨xa25, xc25, rfl, _⟩ := RowS.len xh25
  rw [List.length_map] at xd25 xh25
  rw [List.length_map] at xd25 xh25
  have xP25 := Lib.hid xh25
  have xq25 : W.cell? ⟨p, 25, none⟩ = some (.slice xa25 f.psks.length xc25) := by rw [cell_of_heap xheap]; exact xd25
  obtain ⟨_, xd26, xh26⟩ := DX.out.rel 26 _ rfl
  obtain ⟨xa26, xc26, rfl, _⟩ := SrcL.len xh26
  have xP26 := Lib.hid xh26
  have xq26 : W.cell? ⟨p, 26, none⟩ = some (.slice xa26 f.binders.length xc26) := by rw [cell_of_heap xheap]; exact xd26
  clear xd24 xh24 xd25 xh25 xd26 xh26
  obtain ⟨_, yd24, yh24⟩ := EX.out.rel 24 _ rfl
  obtain ⟨ya24, yc24, rfl, _⟩ := SrcL.len yh24
  rw [List.length_map] at yd24 yh24
  have yP24 := Lib.hid yh24
  have yq24 : W.cell? ⟨p + 1, 24, none⟩ = some (.slice ya24 f.psks.length yc24) := by rw [cell_of_heap yheap]; exact yd24
  obtain ⟨_, yd25, yh25⟩ := EX.out.rel 25 _ rfl
  obtain ⟨ya25, yc25, rfl, _⟩ := RowS.len yh25
  rw [List.length_map] at yd25 yh25
  rw [List.length_map] at yd25 yh25
  have yP25 := Lib.hid yh25
  have yq25 : W.cell? ⟨p + 1, 25, none⟩ = some (.slice ya25 f.psks.length yc25) := by rw [cell_of_heap yheap]; exact yd25
  obtain ⟨_, yd26, yh26⟩ := EX.out.rel 26 _ rfl
  obtain ⟨ya26, yc26, rfl, _⟩ := SrcL.len yh26
  have yP26 := Lib.hid yh26
  have yq26 : W.cell? ⟨p + 1, 26, none⟩ = some (.slice ya26 f.binders.length yc26) := by rw [cell_of_heap yheap]; exact yd26
  clear yd24 yh24 yd25 yh25 yd26 yh26
  have hSk : ∀ w', Below W.heap.size W w' → (w'.cell? ⟨p, 24, none⟩ = some (.slice xa24 f.psks.length xc24) ∧ w'.cell? ⟨p + 1, 24, none⟩ = some (.slice ya24 f.psks.length yc24) ∧ w'.cell? ⟨p, 25, none⟩ = some (.slice xa25 f.psks.length xc25) ∧ w'.cell? ⟨p + 1, 25, none⟩ = some (.slice ya25 f.psks.length yc25) ∧ w'.cell? ⟨p, 26, none⟩ = some (.slice xa26 f.binders.length xc26) ∧ w'.cell? ⟨p + 1, 26, none⟩ = some (.slice ya26 f.binders.length yc26)) := fun w' hb => ⟨(World.cell?_of_block (hb.block p hpl)).trans xq24, (World.cell?_of_block (hb.block (p + 1) hpl2)).trans yq24, (World.cell?_of_block (hb.block p hpl)).trans xq25, (World.cell?_of_block (hb.block (p + 1) hpl2)).trans yq25, (World.cell?_of_block (hb.block p hpl)).trans xq26, (World.cell?_of_block (hb.block (p + 1) hpl2)).trans yq26⟩
  have HW := Lib.hid hW
  have HP := Lib.hid hp
  have hSD := Lib.hid (hSk _ HB0.out)
  clear hD hE hW hp hk xq24 yq24 xq25 yq25 xq26 yq26 xheap yheap
  clear hsz hb
  go_enter Tryz.func17, Tryz.ntmps17
  go_upto_region 1 with fail
  rw [← HW.out, ← HP.out]
  refine region_ord [(0, true), (1, true), (2, true), (3, true), (6, true), (7, true), (8, true), (9, true), (4, false), (5, true), (10, false), (11, true), (12, false), (13, true), (14, true), (15, true), (16, true), (17, true), (18, false), (19, true), (20, true)] (fun w' => w'.cell? ⟨p, 24, none⟩ = some (.slice xa24 f.psks.length xc24) ∧ w'.cell? ⟨p + 1, 24, none⟩ = some (.slice ya24 f.psks.length yc24) ∧ w'.cell? ⟨p, 25, none⟩ = some (.slice xa25 f.psks.length xc25) ∧ w'.cell? ⟨p + 1, 25, none⟩ = some (.slice ya25 f.psks.length yc25) ∧ w'.cell? ⟨p, 26, none⟩ = some (.slice xa26 f.binders.length xc26) ∧ w'.cell? ⟨p + 1, 26, none⟩ = some (.slice ya26 f.binders.length yc26)) mixed (by kernel_rfl) (by kernel_rfl) rfl (by intro c a d v w h; cases d <;> exact h) hSD.out ?_
  (refine wpOrd_pureG rfl (by rfl) ?_; apply Exists.intro; refine ⟨fun w' hS => ?_, ?_⟩; (· (clear hS; first | (go_simp; done) | (go_simp; with_reducible rfl))); simp only [List.getElem_toArray, List.getElem_cons_succ, List.getElem_cons_zero, Act.put, List.setIfInBounds_toArray, List.set_cons_zero, List.set_cons_succ])
  (refine wpOrd_pureG rfl (by rfl) ?_; apply Exists.intro; refine ⟨fun w' hS => ?_, ?_⟩; (· (have hc := hS.1; clear hS; first | (go_simp; done) | (go_simp; with_reducible rfl))); simp only [List.getElem_toArray, List.getElem_cons_succ, List.getElem_cons_zero, Act.put, List.setIfInBounds_toArray, List.set_cons_zero, List.set_cons_succ])
  (refine wpOrd_pureG rfl (by rfl) ?_; apply Exists.intro; refine ⟨fun w' hS => ?_, ?_⟩; (· (clear hS; first | (go_simp; done) | (go_simp; with_reducible rfl))); simp only [List.getElem_toArray, List.getElem_cons_succ, List.getElem_cons_zero, Act.put, List.setIfInBounds_toArray, List.set_cons_zero, List.set_cons_succ])
  (refine wpOrd_pureG rfl (by rfl) ?_; apply Exists.intro; refine ⟨fun w' hS => ?_, ?_⟩; (· (have hc := hS.2.2.1; clear hS; first | (go_simp; done) | (go_simp; with_reducible rfl))); simp only [List.getElem_toArray, List.getElem_cons_succ, List.getElem_cons_zero, Act.put, List.setIfInBounds_toArray, List.set_cons_zero, List.set_cons_succ])
  (refine wpOrd_pureG rfl (by rfl) ?_; apply Exists.intro; refine ⟨fun w' hS => ?_, ?_⟩; (· (clear hS; first | (go_simp; done) | (go_simp; with_reducible rfl))); simp only [List.getElem_toArray, List.getElem_cons_succ, List.getElem_cons_zero, Act.put, List.setIfInBounds_toArray, List.set_cons_zero, List.set_cons_succ])
  (refine wpOrd_pureG rfl (by rfl) ?_; apply Exists.intro; refine ⟨fun w' hS => ?_, ?_⟩; (· (have hc := hS.2.1; clear hS; first | (go_simp; done) | (go_simp; with_reducible rfl))); simp only [List.getElem_toArray, List.getElem_cons_succ, List.getElem_cons_zero, Act.put, List.setIfInBounds_toArray, List.set_cons_zero, List.set_cons_succ])
  (refine wpOrd_pureG rfl (by rfl) ?_; apply Exists.intro; refine ⟨fun w' hS => ?_, ?_⟩; (· (clear hS; first | (go_simp; done) | (go_simp; with_reducible rfl))); simp only [List.getElem_toArray, List.getElem_cons_succ, List.getElem_cons_zero, Act.put, List.setIfInBounds_toArray, List.set_cons_zero, List.set_cons_succ])
  (refine wpOrd_pureG rfl (by rfl) ?_; apply Exists.intro; refine ⟨fun w' hS => ?_, ?_⟩; (· (have hc := hS.2.2.2.1; clear hS; first | (go_simp; done) | (go_simp; with_reducible rfl))); simp only [List.getElem_toArray, List.getElem_cons_succ, List.getElem_cons_zero, Act.put, List.setIfInBounds_toArray, List.set_cons_zero, List.set_cons_succ])
  refine wpOrd_runG rfl (by rfl) (fun K hK => ?_)
  go_simp
  refine (identities_ok W.drew (xP24.out.keep HB0.out.size HB0.out.block).lst (xP25.out.keep HB0.out.size HB0.out.block) (by rw [widn_len]; omega) f7).mono ?_
  rintro e w1 ⟨o1, rfl, ho1, hb⟩
  obtain ⟨ao1, co1, rfl⟩ := row_slice ho1
  have HO1 := Lib.hid ho1
  clear ho1
  have HB1 : Hid (Below W.heap.size W w1) := Lib.hid (HB0.out.trans (hb.mono HB0.out.size))
  refine hK _ _ (hSk _ HB1.out) ?_
  clear hK K hb
  try simp only [List.getElem_toArray, List.getElem_cons_succ, List.getElem_cons_zero, Act.put, List.setIfInBounds_toArray, List.set_cons_zero, List.set_cons_succ]
  (refine wpOrd_pureG rfl (by rfl) ?_; apply Exists.intro; refine ⟨fun w' hS => ?_, ?_⟩; (· (clear hS; first | (go_simp; done) | (go_simp; with_reducible rfl))); simp only [List.getElem_toArray, List.getElem_cons_succ, List.getElem_cons_zero, Act.put, List.setIfInBounds_toArray, List.set_cons_zero, List.set_cons_succ])
  refine wpOrd_runG rfl (by rfl) (fun K hK => ?_)
  go_simp
  refine (identities_ok w1 (yP24.out.keep HB1.out.size HB1.out.block).lst (yP25.out.keep HB1.out.size HB1.out.block) (by rw [widn_len]; omega) f7).mono ?_
  rintro e w2 ⟨o2, rfl, ho2, hb⟩
  obtain ⟨ao2, co2, rfl⟩ := row_slice ho2
  have HO2 := Lib.hid ho2
  have S1 := Lib.hid (src_own (base := w2.heap.size) (own_kept HO1.out fun k hk => hb.block k (HO1.out.lt k hk).2) (Nat.le_refl _)).src
  have S2 := Lib.hid (src_own (base := w2.heap.size) ho2 (Nat.le_refl _)).src
  clear ho2
  have HB2 : Hid (Below W.heap.size W w2) := Lib.hid (HB1.out.trans (hb.mono HB1.out.size))
  refine hK _ _ (hSk _ HB2.out) ?_
  clear hK K hb
  try simp only [List.getElem_toArray, List.getElem_cons_succ, List.getElem_cons_zero, Act.put, List.setIfInBounds_toArray, List.set_cons_zero, List.set_cons_succ]
  (refine wpOrd_pureG rfl (by rfl) ?_; apply Exists.intro; refine ⟨fun w' hS => ?_, ?_⟩; (· (clear hS; first | (go_simp; done) | (go_simp; with_reducible rfl))); simp only [List.getElem_toArray, List.getElem_cons_succ, List.getElem_cons_zero, Act.put, List.setIfInBounds_toArray, List.set_cons_zero, List.set_cons_succ])
  refine wpOrd_runG rfl (by rfl) (fun K hK => ?_)
  go_simp
  refine (same_ok w2 S1.out S2.out).mono ?_
  rintro e w3 ⟨rfl, hw⟩
  rw [hw]
  clear hw
  rw [decide_eq_true rfl]
  refine hK _ _ (hSk _ HB2.out) ?_
  clear hK K
  try simp only [List.getElem_toArray, List.getElem_cons_succ, List.getElem_cons_zero, Act.put, List.setIfInBounds_toArray, List.set_cons_zero, List.set_cons_succ]
  (refine wpOrd_pureG rfl (by rfl) ?_; apply Exists.intro; refine ⟨fun w' hS => ?_, ?_⟩; (· (clear hS; first | (go_simp; done) | (go_simp; with_reducible rfl))); simp only [List.getElem_toArray, List.getElem_cons_succ, List.getElem_cons_zero, Act.put, List.setIfInBounds_toArray, List.set_cons_zero, List.set_cons_succ])
  (refine wpOrd_pureG rfl (by rfl) ?_; apply Exists.intro; refine ⟨fun w' hS => ?_, ?_⟩; (· (clear hS; first | (go_simp; done) | (go_simp; with_reducible rfl))); simp only [List.getElem_toArray, List.getElem_cons_succ, List.getElem_cons_zero, Act.put, List.setIfInBounds_toArray, List.set_cons_zero, List.set_cons_succ])
  (refine wpOrd_pureG rfl (by rfl) ?_; apply Exists.intro; refine ⟨fun w' hS => ?_, ?_⟩; (· (have hc := hS.2.2.2.2.1; clear hS; first | (go_simp; done) | (go_simp; with_reducible rfl))); simp only [List.getElem_toArray, List.getElem_cons_succ, List.getElem_cons_zero, Act.put, List.setIfInBounds_toArray, List.set_cons_zero, List.set_cons_succ])
  (refine wpOrd_pureG rfl (by rfl) ?_; apply Exists.intro; refine ⟨fun w' hS => ?_, ?_⟩; (· (clear hS; first | (go_simp; done) | (go_simp; with_reducible rfl))); simp only [List.getElem_toArray, List.getElem_cons_succ, List.getElem_cons_zero, Act.put, List.setIfInBounds_toArray, List.set_cons_zero, List.set_cons_succ])
  (refine wpOrd_pureG rfl (by rfl) ?_; apply Exists.intro; refine ⟨fun w' hS => ?_, ?_⟩; (· (have hc := hS.2.2.2.2.2; clear hS; first | (go_simp; done) | (go_simp; with_reducible rfl))); simp only [List.getElem_toArray, List.getElem_cons_succ, List.getElem_cons_zero, Act.put, List.setIfInBounds_toArray, List.set_cons_zero, List.set_cons_succ])
  refine wpOrd_runG rfl (by rfl) (fun K hK => ?_)
  go_simp
  refine (sameL_ok w2 (xP26.out.keep HB2.out.size HB2.out.block).lst (yP26.out.keep HB2.out.size HB2.out.block).lst m9).mono ?_
  rintro e w4 ⟨rfl, hw⟩
  rw [hw]
  clear hw
  refine hK _ _ (hSk _ HB2.out) ?_
  clear hK K
  try simp only [List.getElem_toArray, List.getElem_cons_succ, List.getElem_cons_zero, Act.put, List.setIfInBounds_toArray, List.set_cons_zero, List.set_cons_succ]
  (refine wpOrd_pureG rfl (by rfl) ?_; apply Exists.intro; refine ⟨fun w' hS => ?_, ?_⟩; (· (clear hS; first | (go_simp; done) | (go_simp; with_reducible rfl))); simp only [List.getElem_toArray, List.getElem_cons_succ, List.getElem_cons_zero, Act.put, List.setIfInBounds_toArray, List.set_cons_zero, List.set_cons_succ])
  (refine wpOrd_pureG rfl (by rfl) ?_; apply Exists.intro; refine ⟨fun w' hS => ?_, ?_⟩; (· (clear hS; first | (go_simp; done) | (go_simp; with_reducible rfl))); simp only [List.getElem_toArray, List.getElem_cons_succ, List.getElem_cons_zero, Act.put, List.setIfInBounds_toArray, List.set_cons_zero, List.set_cons_succ])
  refine wpOrd_nil ?_
  go_wp2_with fail
  go_ret
  exact ⟨rfl, HBE.out.trans (HB2.out.mono HBE.out.size)⟩

end Go.Proofs.YtopcljikkdlffaaGreat
