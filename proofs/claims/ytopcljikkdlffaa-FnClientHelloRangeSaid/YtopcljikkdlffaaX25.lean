/- The reference's reader: numbers of 16 bits; texts; what the bundles of a ClientHello need. The reference: texts out of lists of bytes; whether a list has a number; whether lists of bytes are long enough; the numbers of extensions. Rows of slices, fields by value, a struct put together: what the walks share. The reference's ClientHello as a bundle; what a reader's functions leave of it. No statement of the seat is proved here. -/
import Derived.Test.YtopcljikkdlffaaX24
import Derived.Test.YtopcljikkdlffaaX15
import Derived.Test.YtopcljikkdlffaaX06
import Derived.Test.YtopcljikkdlffaaX13
import Derived.Test.YtopcljikkdlffaaX11
import Derived.Test.YtopcljikkdlffaaX14
namespace Go.Proofs.Ytopcljikkdlffaa
open Go.RowKit

/-- A row of numbers of its own. -/
def OutU (w : World) (base : Nat) (v : Value) (L : List Nat) : Prop := ∃ us, w.ownsRow base 35 1 v L.length us ∧ ShowU L v us

set_option maxRecDepth 100000 in
set_option maxHeartbeats 2000000 in
theorem words_ok {c g : Nat} {C : Array Value} {T : TypeId} {fr : Nat × Nat} {st : Nat × List UInt8} {u : Value} {bx : List UInt8} (w : World) (hg : w.heap[g]? = some (.cells C T fr)) (hgc : g ≠ c) (hbl : bx.length ≤ 2147483647)
    (hu : VN C g u bx) (hR : RAt w c C g st) :
    Calls Try.prog 61 #[.pointer (some ⟨c, 0, none⟩), u] w fun e w' => ∃ o, e = .returned o ∧ OutU w' w.heap.size o (rwords st bx).1 ∧ RAt w' c C g (rwords st bx).2 ∧ Fs [c] w w' := by
  obtain ⟨i0, hi, hz0, hz1, hz2⟩ := info_parts Try.info35b
  have HR := Lib.hid hR
  have HG := Lib.hid hg
  have HU := Lib.hid hu
  have hcl : c < w.heap.size := by obtain ⟨v, hh, _⟩ := hR; exact lt_of_heap hh
  have hgl := lt_of_heap hg
  obtain ⟨a, cap, rfl, _, _⟩ := hu.len
  clear hR hg hu
  go_enter Try.func61, Try.ntmps61
  go_wp2_with fail
  refine (within_ok w HU.out HR.out).mono ?_
  rintro e w1 ⟨rfl, hp1, hf1⟩
  have HP1 : Hid (RAt w1 w.heap.size C g (rin st bx)) := hp1
  have HF1 := Lib.hid hf1
  clear hp1 hf1
  go_wp2_with fail
  go_loopw [5] (fun o wr => ∃ (don : List Nat) (sp : Nat × List UInt8) (f : Nat), OutU wr w.heap.size o don ∧ RAt wr w.heap.size C g sp ∧ sp.2.length ≤ f ∧ sp.2.length + don.length ≤ 2147483647 ∧
      don ++ (rw16 f sp).1 = (rw16 bx.length (rin st bx)).1 ∧ (rw16 f sp).2 = (rw16 bx.length (rin st bx)).2 ∧ Fs [w.heap.size] w wr) (fun _ wr => cellLen wr w.heap.size)
  case atStart =>
    refine ⟨[], rin st bx, bx.length, ⟨[], World.ownsRow_nil _ _ _ _, rfl⟩, HP1.out, ?_, ?_, rfl, rfl, HF1.out.mono (by simp)⟩
    · unfold rin; split <;> simp
    · unfold rin; split <;> simp <;> omega
  case round =>
    obtain ⟨don, sp, f, hout, hp, hf, hlen, he1, he2, hfs⟩ := hrel
    obtain ⟨code, bs⟩ := sp
    obtain ⟨v2, hh, hv2⟩ := id hp
    obtain ⟨a2, cap2, rfl, _, _⟩ := hv2.len
    simp only at hh hf hlen
    have f0 : wr.cell? ⟨w.heap.size, 0, none⟩ = some (.slice a2 bs.length cap2) := by rw [cell_of_heap hh]; rfl
    have HP := Lib.hid hp
    have HOUT := Lib.hid hout
    have HFS := Lib.hid hfs
    have HH := Lib.hid hh
    have HE1 := Lib.hid he1
    have HE2 := Lib.hid he2
    have hcl2 := HP.out.cellLen
    clear hp hout hfs hh hv2 he1 he2
    by_cases h0 : bs = []
    · subst h0
      have hz : rw16 f (code, []) = ([], (code, [])) := rw16_nil f _ rfl
      have he1 := HE1.out
      have he2 := HE2.out
      rw [hz] at he1 he2
      simp only [List.append_nil] at he1 he2
      have HE3 := Lib.hid he1
      have HE4 := Lib.hid he2
      have HRr := Lib.hid (HR.out.fs HFS.out (by simp; omega))
      obtain ⟨us, hown, hus⟩ := HOUT.out
      obtain ⟨ao, co, rfl⟩ := row_slice hown
      have HO := Lib.hid hown
      have HUS := Lib.hid hus
      clear he1 he2 hz hown hus hcl2
      go_wp2_with fail
      refine (done_ok wr (by omega : c ≠ w.heap.size) HRr.out HP.out).mono ?_
      rintro e w5 ⟨rfl, hr5, hf5⟩
      have hown5 : w5.ownsRow w.heap.size 35 1 (.slice ao don.length co) don.length us := by
        refine ⟨HO.out.1, ?_⟩
        rcases HO.out.2 with h2 | ⟨g', cp, cur, hv, hg', hh', r⟩
        · exact .inl h2
        · refine .inr ⟨g', cp, cur, hv, hg', (hf5.keep g' (lt_of_heap hh') ?_).trans hh', r⟩
          intro hm
          rcases List.mem_cons.1 hm with e | e
          · omega
          · have e2 : g' = w.heap.size := by simpa using e
            subst e2
            rw [HH.out] at hh'
            simp at hh'
      have HO5 := Lib.hid hown5
      have HR5 := Lib.hid hr5
      have HF5 : Hid (Fs [c] w w5) := (((HFS.out.mono (l' := [w.heap.size, c]) (by simp)).trans (hf5.mono (by simp))).fresh (Nat.le_refl _))
      clear hr5 hf5 hown5
      go_wp2_with fail
      go_ret
      have e1 : (rwords st bx).1 = don := HE3.out.symm
      have e2 : (rwords st bx).2 = rdone st (code, []) := by
        show rdone st (rw16 bx.length (rin st bx)).2 = _
        rw [← HE4.out]
      rw [e1, e2]
      exact ⟨_, rfl, ⟨us, HO5.out, HUS.out⟩, HR5.out, HF5.out⟩
    · have hl : ((bs.length : Nat) : Int) > 0 := by have := List.length_pos_iff.2 h0; omega
      obtain ⟨f, rfl⟩ : ∃ f', f = f' + 1 := ⟨f - 1, by omega⟩
      have hgr : wr.heap[g]? = some (.cells C T fr) := (HFS.out.keep g hgl (by simp; omega)).trans HG.out
      have HGR := Lib.hid hgr
      clear hgr
      obtain ⟨us, hown, hus⟩ := HOUT.out
      obtain ⟨ao, co, rfl⟩ := row_slice hown
      go_wp2_with fail
      refine (num_ok 2 wr (by omega) HGR.out (by omega) HP.out).mono ?_
      rintro e w2 ⟨rfl, hp2, hf2⟩
      have hX := rnum_rest (k := 2) (st := (code, bs)) (by omega) h0
      have hY := rw16_succ f (code, bs) h0
      have he1 := HE1.out
      have he2 := HE2.out
      rw [hY] at he1 he2
      have hYl := rnum_lt (k := 2) (st := (code, bs))
      obtain ⟨Y, hYd⟩ : ∃ Y, Y = rnum 2 (code, bs) := ⟨_, rfl⟩
      rw [← hYd] at hX hp2 he1 he2 hYl ⊢
      obtain ⟨y, hyd⟩ : ∃ y, y = Y.1 := ⟨_, rfl⟩
      rw [← hyd] at he1 hYl ⊢
      have hw16 : IntKind.u16.wrap ((y : Nat) : Int) = (y : Int) := by simp [IntKind.wrap, IntKind.signed, IntKind.bits]; omega
      have HE1 := Lib.hid he1
      have HE2 := Lib.hid he2
      have hown2 := own_fm hown hf2 HH.out (by decide)
      have HO2 := Lib.hid hown2
      have HUS := Lib.hid hus
      have HP2 := Lib.hid hp2
      have HF2 := Lib.hid hf2
      have hw2 : w.heap.size ≤ w2.heap.size := Nat.le_trans HFS.out.size hf2.size
      clear hown hus hp2 hf2 he1 he2 hY hYd hyd hown2 hcl2 hYl
      simp only at hX
      go_wp2_with (at_builtin; go_loud (refine wpList_append_own _ rfl (.tmp 16) (.tmp 20) 48 rfl w.heap.size 35 i0 (.int .u16 0) 1 2 Try.underlying48 hi hz0 hz1 hz2 rfl (by decide) _ don.length us rfl (HO2.out.alloc _) ⟨w2.heap.size, 0, none⟩ 1 1 [.int .u16 (y : Nat)] rfl rfl ?_ ?_ ?_ ?_ ?_ ?_))
      · intro j u hu
        match j, hu with
        | 0, hu => simp at hu; subst hu; exact World.cell?_alloc_new _ _ _ _
      · intro u hu; simp at hu; subst hu; rfl
      · unfold maxLen; omega
      · omega
      · simp; omega
      intro v' w3 hown3 hgrow _
      obtain ⟨ao3, co3, rfl⟩ := row_slice hown3
      have hp3 : RAt w3 w.heap.size C g Y.2 := by
        obtain ⟨vv, hh2, hvv⟩ := HP2.out
        exact ⟨vv, grown_keep hgrow (HO2.out.alloc _) ((Below.heap_alloc _ _ _ (lt_of_heap hh2)).trans hh2) (.inl (by decide)), hvv⟩
      have hfs3 : Fs [w.heap.size] w w3 := by
        have h2 := HFS.out.trans (HF2.out.fs (by simp))
        refine ⟨hgrow.os.trans h2.os, hgrow.tape.trans h2.tape, hgrow.output.trans h2.output, ?_, fun i hi' hn => ?_⟩
        · have h := hgrow.size; simp at h; omega
        · have hb : (w2.alloc (Obj.cells #[Value.int .u16 (y : Nat)] 35)).heap[i]? = w2.heap[i]? := Below.heap_alloc _ _ _ (by omega)
          rw [← h2.keep i hi' hn, ← hb]
          refine hgrow.block i (by simp; omega) ?_
          intro h
          rcases (HO2.out.alloc (Obj.cells #[Value.int .u16 (y : Nat)] 35)).2 with ⟨e, _⟩ | ⟨g', cp, cur, e, hb', _⟩
          · rw [e] at h; cases h
          · rw [e] at h
            simp only [Value.ownBlock, Option.some.injEq] at h
            omega
      have HO3 := Lib.hid hown3
      have HP3 := Lib.hid hp3
      have HFS3 := Lib.hid hfs3
      clear hown3 hgrow hp3 hfs3
      have hul : us.length = don.length := by have h := HO2.out.1; omega
      have HUL := Lib.hid hul
      clear hul
      go_wp2_with fail
      refine ⟨⟨don ++ [y], Y.2, f, ⟨us ++ [.int .u16 (y : Nat)], by simpa using HO3.out, HUS.out.snoc⟩, HP3.out, by omega, by simp; omega, by rw [List.append_assoc]; exact HE1.out, HE2.out, HFS3.out⟩, by rw [HP3.out.cellLen, HP.out.cellLen]; exact hX⟩

end Go.Proofs.Ytopcljikkdlffaa
namespace Go.Proofs.Ytopcljikkdlffaa
open Go.RowKit

set_option maxRecDepth 100000 in
set_option maxHeartbeats 2000000 in
theorem texts_ok {g : Nat} {C : Array Value} {T : TypeId} {fr : Nat × Nat} {base : Nat} {u : Value} {L : List (List UInt8)} (w : World) (hg : w.heap[g]? = some (.cells C T fr)) (hO : OutL w base C g u L) (hn : L.length ≤ 2147483647) :
    Calls Try.prog 87 #[u] w fun e w' => ∃ o us, e = .returned o ∧ w'.ownsRow w.heap.size 9 1 o L.length us ∧ ShowT L o us ∧ Fs [] w w' := by
  obtain ⟨i0, hi, hz0, hz1, hz2⟩ := info_parts Try.info9b
  obtain ⟨xs, hown, hxs⟩ := hO
  obtain ⟨a, cap, rfl⟩ := row_slice hown
  have HX := Lib.hid hown
  have HXS := Lib.hid hxs
  have HG := Lib.hid hg
  clear hown hxs hg
  go_enter Try.func87, Try.ntmps87
  go_wp2_with fail
  go_loopw [3, 8] (fun o i wr => ∃ (j : Nat) (us : List Value), i = .int .i64 j ∧ j ≤ L.length ∧ wr.ownsRow w.heap.size 9 1 o j us ∧ ShowT (L.take j) o us ∧ Fs [] w wr) (fun _ i _ => L.length - (intOf i).toNat)
  case atStart => exact ⟨0, [], rfl, Nat.zero_le _, World.ownsRow_nil _ _ _ _, rfl, Fs.refl _ _⟩
  case round =>
    obtain ⟨j, us, rfl, hj, ho, hs, hf⟩ := hrel
    by_cases hjn : j < L.length
    · have hjn2 : ((j : Nat) : Int) < ((L.length : Nat) : Int) := by omega
      obtain ⟨p, hp⟩ : ∃ p, a = some ⟨p, 0, none⟩ := by
        rcases HX.out.2 with ⟨_, h⟩ | ⟨p, cap', cur, e, _⟩
        · omega
        · simp only [Value.slice.injEq] at e
          exact ⟨p, e.1⟩
      subst hp
      obtain ⟨x, hx⟩ : ∃ x, x = L[j] := ⟨_, rfl⟩
      obtain ⟨v, hv1, hv2⟩ := HXS.out j x (by rw [hx]; exact List.getElem?_eq_getElem hjn)
      have q0 : wr.cell? ⟨p, j, none⟩ = some v := by
        have h1 : w.cell? ⟨p, j, none⟩ = some v := by rw [HX.out.cellAt j (by omega)]; exact hv1
        rw [← h1]
        exact World.cell?_of_block (hf.keep p (World.block_lt_of_cell? w _ h1) (by simp))
      have hgr := (hf.keep g (lt_of_heap HG.out) (by simp)).trans HG.out
      have hcv := conv_ok (vn_src hv2 hgr).src
      obtain ⟨ax, cx, rfl, _, _⟩ := hv2.len
      obtain ⟨ao, co, rfl⟩ := row_slice ho
      have HO := Lib.hid ho
      have HS := Lib.hid hs
      have HF := Lib.hid hf
      have hS2 : Hid (L.take j ++ [x] = L.take (j + 1)) := Lib.hid (by rw [List.take_succ_eq_append_getElem hjn, hx])
      have hws := hf.size
      clear ho hs hf hv1 hv2 hx hgr
      go_wp2_with (at_builtin; go_loud (refine wpList_append_own _ rfl (.tmp 12) (.tmp 15) 49 rfl w.heap.size 9 i0 (.string ⟨#[]⟩) 1 16 Try.underlying49 hi hz0 hz1 hz2 rfl (by decide) _ j us rfl (HO.out.alloc _) ⟨wr.heap.size, 0, none⟩ 1 1 [.string ⟨x.toArray⟩] rfl rfl ?_ ?_ ?_ ?_ ?_ ?_))
      · intro j u hu
        match j, hu with
        | 0, hu => simp at hu; subst hu; exact World.cell?_alloc_new _ _ _ _
      · intro u hu; simp at hu; subst hu; rfl
      · unfold maxLen; omega
      · omega
      · simp; omega
      intro v' w3 hown3 hgrow _
      have hfs3 : Fs [] w w3 := by
        have h2 := HF.out
        refine ⟨hgrow.os.trans h2.os, hgrow.tape.trans h2.tape, hgrow.output.trans h2.output, ?_, fun i hi' hn => ?_⟩
        · have h := hgrow.size; simp at h; omega
        · have hb : (wr.alloc (Obj.cells #[Value.string ⟨x.toArray⟩] 9)).heap[i]? = wr.heap[i]? := Below.heap_alloc _ _ _ (by omega)
          rw [← h2.keep i hi' hn, ← hb]
          refine hgrow.block i (by simp; omega) ?_
          intro h
          rcases (HO.out.alloc (Obj.cells #[Value.string ⟨x.toArray⟩] 9)).2 with ⟨e, _⟩ | ⟨g', cp, cur, e, hb', _⟩
          · rw [e] at h; cases h
          · rw [e] at h
            simp only [Value.ownBlock, Option.some.injEq] at h
            omega
      have HO3 := Lib.hid hown3
      have HFS3 := Lib.hid hfs3
      clear hown3 hgrow hfs3 hcv q0
      go_wp2_with fail
      refine ⟨⟨j + 1, us ++ [.string ⟨x.toArray⟩], rfl, by omega, HO3.out, ?_, HFS3.out⟩, by simp [intOf]; omega⟩
      rw [← hS2.out]
      exact HS.out.snoc
    · have e : j = L.length := by omega
      subst e
      rw [List.take_length] at hs
      have HO := Lib.hid ho
      have HS := Lib.hid hs
      have HF := Lib.hid hf
      clear ho hs hf
      go_wp2_with fail
      go_ret
      exact ⟨_, us, rfl, HO.out, HS.out, HF.out⟩

set_option maxRecDepth 100000 in
set_option maxHeartbeats 1000000 in
theorem signals_ok {base : Nat} {u : Value} {L : List Nat} (w : World) (hO : OutU w base u L) (hn : L.length ≤ 2147483647) :
    Calls Try.prog 62 #[u] w fun e w' => e = .returned (.bool (decide (255 ∈ L))) ∧ w' = w := by
  obtain ⟨xs, hown, hxs⟩ := hO
  obtain ⟨a, cap, rfl⟩ := row_slice hown
  have HX := Lib.hid hown
  have HXS := Lib.hid hxs
  clear hown hxs
  go_enter Try.func62, Try.ntmps62
  go_wp2_with fail
  go_loop [7] (fun i => ∃ j : Nat, j ≤ L.length ∧ i = .int .i64 j ∧ 255 ∉ L.take j) (fun i => L.length - (intOf i).toNat)
  case atStart => exact ⟨0, Nat.zero_le _, rfl, by simp⟩
  case round =>
    obtain ⟨j, hj, rfl, hall⟩ := hrel
    have HA := Lib.hid hall
    clear hall
    by_cases hjn : j < L.length
    · have hjn2 : ((j : Nat) : Int) < ((L.length : Nat) : Int) := by omega
      obtain ⟨p, hp⟩ : ∃ p, a = some ⟨p, 0, none⟩ := by
        rcases HX.out.2 with ⟨_, h⟩ | ⟨p, cap', cur, e, _⟩
        · omega
        · simp only [Value.slice.injEq] at e
          exact ⟨p, e.1⟩
      subst hp
      obtain ⟨x, hx⟩ : ∃ x, x = L[j] := ⟨_, rfl⟩
      have q0 : w.cell? ⟨p, j, none⟩ = some (.int .u16 (x : Nat)) := by
        rw [HX.out.cellAt j (by omega), HXS.out, List.getElem?_map, List.getElem?_eq_getElem hjn, hx]
        rfl
      have hS2 : Hid (L.take (j + 1) = L.take j ++ [x]) := Lib.hid (by rw [List.take_succ_eq_append_getElem hjn, hx])
      have hM : Hid (x ∈ L) := Lib.hid (by rw [hx]; exact List.getElem_mem hjn)
      clear hx
      by_cases h255 : x = 255
      · subst h255
        go_wp2_with fail
        go_ret
        exact ⟨by rw [decide_eq_true hM.out]; rfl, rfl⟩
      · have q1 : ¬ ((x : Nat) : Int) = 255 := by omega
        have q2 : (((x : Nat) : Int) == 255) = false := by simp; omega
        go_wp2_with fail
        refine ⟨⟨j + 1, by omega, by simp, ?_⟩, by simp [intOf]; omega⟩
        rw [hS2.out]
        have := HA.out
        simp only [List.mem_append, List.mem_singleton]
        rintro (h | h)
        · exact this h
        · exact h255 h.symm
    · have e : j = L.length := by omega
      subst e
      have HA2 := HA.out
      rw [List.take_length] at HA2
      have HA3 := Lib.hid HA2
      clear HA2
      go_wp2_with fail
      go_ret
      exact ⟨by rw [decide_eq_false HA3.out]; rfl, rfl⟩

set_option maxRecDepth 100000 in
set_option maxHeartbeats 1000000 in
theorem none31_ok {g : Nat} {C : Array Value} {base : Nat} {u : Value} {L : List (List UInt8)} (w : World) (hO : OutL w base C g u L) (hn : L.length ≤ 2147483647) :
    Calls Try.prog 43 #[u, .int .i64 1, .int .i64 31] w fun e w' => e = .returned (.bool (rnone 1 31 L)) ∧ w' = w := by
  obtain ⟨xs, hown, hxs⟩ := hO
  obtain ⟨a, cap, rfl⟩ := row_slice hown
  have HX := Lib.hid hown
  have HXS := Lib.hid hxs
  clear hown hxs
  go_enter Try.func43, Try.ntmps43
  go_wp2_with fail
  go_loop [8, 11, 13, 14, 15, 16, 17, 18, 19, 20, 21, 22, 23, 24] (fun _ i _ _ _ _ _ _ _ _ _ _ _ _ => ∃ j : Nat, j ≤ L.length ∧ i = .int .i64 j ∧ rnone 1 31 (L.take j) = true) (fun _ i _ _ _ _ _ _ _ _ _ _ _ _ => L.length - (intOf i).toNat)
  case atStart => exact ⟨0, Nat.zero_le _, rfl, rfl⟩
  case round =>
    obtain ⟨j, hj, rfl, hall⟩ := hrel
    have HA := Lib.hid hall
    clear hall
    by_cases hjn : j < L.length
    · have hjn2 : ((j : Nat) : Int) < ((L.length : Nat) : Int) := by omega
      obtain ⟨p, hp⟩ : ∃ p, a = some ⟨p, 0, none⟩ := by
        rcases HX.out.2 with ⟨_, h⟩ | ⟨p, cap', cur, e, _⟩
        · omega
        · simp only [Value.slice.injEq] at e
          exact ⟨p, e.1⟩
      subst hp
      obtain ⟨x, hx⟩ : ∃ x, x = L[j] := ⟨_, rfl⟩
      obtain ⟨v, hv1, hv2⟩ := HXS.out j x (by rw [hx]; exact List.getElem?_eq_getElem hjn)
      have q0 : w.cell? ⟨p, j, none⟩ = some v := by rw [HX.out.cellAt j (by omega)]; exact hv1
      obtain ⟨ax, cx, rfl, _, _⟩ := hv2.len
      have hS2 : Hid (L.take (j + 1) = L.take j ++ [x]) := Lib.hid (by rw [List.take_succ_eq_append_getElem hjn, hx])
      have hM : Hid (x ∈ L) := Lib.hid (by rw [hx]; exact List.getElem_mem hjn)
      obtain ⟨n, hnx⟩ : ∃ n, n = x.length := ⟨_, rfl⟩
      rw [← hnx] at q0
      have HNX := Lib.hid hnx
      clear hx hv1 hv2 hnx
      by_cases hin : 1 ≤ n ∧ n ≤ 31
      · have q1 : (1 : Int) ≤ (n : Int) := by omega
        have q2 : (n : Int) ≤ 31 := by omega
        go_wp2_with fail
        go_ret
        refine ⟨?_, rfl⟩
        have e : rnone 1 31 L = false := by
          unfold rnone
          rw [List.all_eq_false]
          refine ⟨x, hM.out, ?_⟩
          rw [← HNX.out]
          simp [hin.1, hin.2]
        rw [e]
        rfl
      · have hS3 : Hid (rnone 1 31 (L.take (j + 1)) = true) := Lib.hid (by
          have h := HA.out
          unfold rnone at h ⊢
          rw [hS2.out, List.all_append, h]
          simp only [List.all_cons, List.all_nil, Bool.and_true, Bool.true_and]
          rw [← HNX.out]
          by_cases h1 : 1 ≤ n
          · have h2 : ¬ n ≤ 31 := fun h2 => hin ⟨h1, h2⟩
            simp [h2]
          · simp [h1])
        by_cases h1 : 1 ≤ n
        · have q1 : (1 : Int) ≤ (n : Int) := by omega
          have q2 : ¬ (n : Int) ≤ 31 := by omega
          go_wp2_with fail
          exact ⟨⟨j + 1, by omega, by simp, hS3.out⟩, by simp [intOf]; omega⟩
        · have q1 : ¬ (1 : Int) ≤ (n : Int) := by omega
          go_wp2_with fail
          exact ⟨⟨j + 1, by omega, by simp, hS3.out⟩, by simp [intOf]; omega⟩
    · have e : j = L.length := by omega
      subst e
      have HA2 := HA.out
      rw [List.take_length] at HA2
      have HA3 := Lib.hid HA2
      clear HA2
      go_wp2_with fail
      go_ret
      exact ⟨by rw [HA3.out]; rfl, rfl⟩

set_option maxRecDepth 100000 in
set_option maxHeartbeats 2000000 in
theorem types_ok {g : Nat} {C : Array Value} {base : Nat} {u : Value} {L : List (Nat × List UInt8)} (w : World) (hO : ExL w base C g u L) (hn : L.length ≤ 2147483647) :
    Calls Try.prog 63 #[u] w fun e w' => ∃ o, e = .returned o ∧ OutU w' w.heap.size o (L.map (·.1)) ∧ Fs [] w w' := by
  obtain ⟨i0, hi, hz0, hz1, hz2⟩ := info_parts Try.info35b
  obtain ⟨xs, hown, _, hxs⟩ := hO
  obtain ⟨a, cap, rfl⟩ := row_slice hown
  have HX := Lib.hid hown
  have HXS := Lib.hid hxs
  clear hown hxs
  go_enter Try.func63, Try.ntmps63
  go_wp2_with fail
  go_loopw [3, 8] (fun o i wr => ∃ (j : Nat) (us : List Value), i = .int .i64 j ∧ j ≤ L.length ∧ wr.ownsRow w.heap.size 35 1 o j us ∧ ShowU ((L.take j).map (·.1)) o us ∧ Fs [] w wr) (fun _ i _ => L.length - (intOf i).toNat)
  case atStart => exact ⟨0, [], rfl, Nat.zero_le _, World.ownsRow_nil _ _ _ _, rfl, Fs.refl _ _⟩
  case round =>
    obtain ⟨j, us, rfl, hj, ho, hs, hf⟩ := hrel
    by_cases hjn : j < L.length
    · have hjn2 : ((j : Nat) : Int) < ((L.length : Nat) : Int) := by omega
      obtain ⟨p, hp⟩ : ∃ p, a = some ⟨p, 0, none⟩ := by
        rcases HX.out.2 with ⟨_, h⟩ | ⟨p, cap', cur, e, _⟩
        · omega
        · simp only [Value.slice.injEq] at e
          exact ⟨p, e.1⟩
      subst hp
      obtain ⟨x, hx⟩ : ∃ x, x = L[j] := ⟨_, rfl⟩
      obtain ⟨hx1, v, hx2, hx3⟩ := HXS.out j x (by rw [hx]; exact List.getElem?_eq_getElem hjn)
      have up : ∀ (k : Nat) (y : Value), w.cell? ⟨p, k, none⟩ = some y → wr.cell? ⟨p, k, none⟩ = some y := fun k y h1 => by
        rw [← h1]
        exact World.cell?_of_block (hf.keep p (World.block_lt_of_cell? w _ h1) (by simp))
      have q0 : wr.cell? ⟨p, j * 2, none⟩ = some (.int .u16 (x.1 : Nat)) := up _ _ (by rw [HX.out.cellAt (j * 2) (by omega), Nat.mul_comm j 2]; exact hx1)
      have q1 : wr.cell? ⟨p, j * 2 + 1, none⟩ = some v := up _ _ (by rw [HX.out.cellAt (j * 2 + 1) (by omega), Nat.mul_comm j 2]; exact hx2)
      obtain ⟨ax, cx, rfl, _, _⟩ := hx3.len
      obtain ⟨ao, co, rfl⟩ := row_slice ho
      obtain ⟨y, hy⟩ : ∃ y, y = x.1 := ⟨_, rfl⟩
      obtain ⟨n, hnx⟩ : ∃ n, n = x.2.length := ⟨_, rfl⟩
      rw [← hy] at q0
      rw [← hnx] at q1
      have HO := Lib.hid ho
      have HS := Lib.hid hs
      have HF := Lib.hid hf
      have hS2 : Hid ((L.take j).map (·.1) ++ [y] = (L.take (j + 1)).map (·.1)) := Lib.hid (by rw [List.take_succ_eq_append_getElem hjn, hy, hx, List.map_append]; rfl)
      have hws := hf.size
      clear ho hs hf hx hx1 hx2 hx3 up hy hnx
      go_wp2_with (at_builtin; go_loud (refine wpList_append_own _ rfl (.tmp 12) (.tmp 15) 48 rfl w.heap.size 35 i0 (.int .u16 0) 1 2 Try.underlying48 hi hz0 hz1 hz2 rfl (by decide) _ j us rfl ((HO.out.alloc _).alloc _) ⟨wr.heap.size + 1, 0, none⟩ 1 1 [.int .u16 (y : Nat)] rfl rfl ?_ ?_ ?_ ?_ ?_ ?_))
      · rfl
      · unfold maxLen; omega
      · omega
      · first | omega | (simp; omega)
      intro v' w3 hown3 hgrow _
      have hfs3 : Fs [] w w3 := by
        have h2 := HF.out
        refine ⟨hgrow.os.trans h2.os, hgrow.tape.trans h2.tape, hgrow.output.trans h2.output, ?_, fun i hi' hn => ?_⟩
        · have h := hgrow.size; simp at h; omega
        · have hb : ((wr.alloc (Obj.cells #[Value.int .u16 (y : Nat), Value.slice ax n cx] 85)).alloc (Obj.cells #[Value.int .u16 (y : Nat)] 35)).heap[i]? = wr.heap[i]? := by
            rw [Below.heap_alloc _ _ _ (by simp; omega), Below.heap_alloc _ _ _ (by omega)]
          rw [← h2.keep i hi' hn, ← hb]
          refine hgrow.block i (by simp; omega) ?_
          intro h
          rcases HO.out.2 with ⟨e, _⟩ | ⟨g', cp, cur, e, hb', _⟩
          · rw [e] at h; cases h
          · rw [e] at h
            simp only [Value.ownBlock, Option.some.injEq] at h
            omega
      obtain ⟨ao3, co3, rfl⟩ := row_slice hown3
      have HO3 := Lib.hid hown3
      have HFS3 := Lib.hid hfs3
      clear hown3 hgrow hfs3 q0 q1
      go_wp2_with fail
      refine ⟨⟨j + 1, us ++ [.int .u16 (y : Nat)], rfl, by omega, HO3.out, ?_, HFS3.out⟩, by simp [intOf]; omega⟩
      rw [← hS2.out]
      exact HS.out.snoc
    · have e : j = L.length := by omega
      subst e
      rw [List.take_length] at hs
      have HO := Lib.hid ho
      have HS := Lib.hid hs
      have HF := Lib.hid hf
      clear ho hs hf
      go_wp2_with fail
      go_ret
      exact ⟨_, rfl, ⟨us, by simpa using HO.out, HS.out⟩, HF.out⟩

end Go.Proofs.Ytopcljikkdlffaa
namespace Go.Proofs.Ytopcljikkdlffaa
open Go.RowKit

theorem SrcB.ks {w w' : World} {base q : Nat} {v : Value} {s : List UInt8} (h : SrcB w base v s) (hk : Ks base q w w') (hq : base ≤ q) : SrcB w' base v s := by
  rcases h with h | ⟨ad, cap, e, hlt, hc⟩
  · exact .inl h
  · refine .inr ⟨ad, cap, e, hlt, fun j u hu => ?_⟩
    have hs : s ≠ [] := by rintro rfl; simp at hu
    have hb := hlt hs
    have hcj := hc j u hu
    have hl := World.block_lt_of_cell? w _ hcj
    rw [add_block] at hl
    have hkeep := hk.keep ad.block hl (by omega) (.inl hb) (fun ⟨cs, fr, hcs, h8⟩ => by
      have e8 : ∃ k : Int, u = .int .u8 k := by
        rw [List.getElem?_map] at hu
        obtain ⟨x, _, rfl⟩ := Option.map_eq_some_iff.1 hu
        exact ⟨_, rfl⟩
      obtain ⟨k, rfl⟩ := e8
      unfold World.cell? at hcj
      rw [add_block, hcs] at hcj
      simp only at hcj
      split at hcj
      · cases hcj
      · exact h8 _ _ hcj)
    rw [← hcj]
    exact World.cell?_of_block (by rw [add_block]; exact hkeep)

/-- A row of slices of bytes, below base. -/
def SrcL (w : World) (base : Nat) (v : Value) (L : List (List UInt8)) : Prop :=
  (v = .slice none 0 0 ∧ L = []) ∨ ∃ h cap cur, v = .slice (some ⟨h, 0, none⟩) L.length cap ∧ h < base ∧ w.heap[h]? = some (.cells cur 22 (0, 0)) ∧ ∀ (j : Nat) (s : List UInt8), L[j]? = some s → ∃ u, cur[j]? = some u ∧ SrcB w base u s

theorem SrcL.ks {w w' : World} {base q : Nat} {v : Value} {L : List (List UInt8)} (h : SrcL w base v L) (hk : Ks base q w w') (hq : base ≤ q) : SrcL w' base v L := by
  rcases h with h | ⟨h, cap, cur, e, hlt, hh, hc⟩
  · exact .inl h
  · refine .inr ⟨h, cap, cur, e, hlt, hk.other hh (by decide) (by omega), fun j s hj => ?_⟩
    obtain ⟨u, hu, hs⟩ := hc j s hj
    exact ⟨u, hu, hs.ks hk hq⟩

theorem SrcL.len {w : World} {base : Nat} {v : Value} {L : List (List UInt8)} (h : SrcL w base v L) : ∃ ad cap, v = .slice ad L.length cap ∧ (0 < L.length → ∃ x, ad = some ⟨x, 0, none⟩) ∧ (ad.isNone = true ↔ v = .slice none 0 0) := by
  rcases h with ⟨rfl, rfl⟩ | ⟨h, cap, cur, rfl, _⟩
  · exact ⟨none, 0, rfl, fun h => by simp at h, by simp⟩
  · exact ⟨some _, cap, rfl, fun _ => ⟨_, rfl⟩, by simp⟩

theorem SrcL.at {w : World} {base len cap x : Nat} {L : List (List UInt8)} (h : SrcL w base (.slice (some ⟨x, 0, none⟩) len cap) L) {j : Nat} (hj : j < L.length) : ∃ u, w.cell? ⟨x, j, none⟩ = some u ∧ SrcB w base u L[j] := by
  rcases h with ⟨h, _⟩ | ⟨h, cap, cur, e, _, hh, hc⟩
  · cases h
  · simp only [Value.slice.injEq, Option.some.injEq, Addr.mk.injEq, and_true] at e
    obtain ⟨rfl, _, _⟩ := e
    obtain ⟨u, hu, hs⟩ := hc j _ (List.getElem?_eq_getElem hj)
    exact ⟨u, by rw [cell_of_heap hh]; exact hu, hs⟩

theorem fs_bel {w w' : World} {l : List Nat} (hf : Fs l w w') (hl : ∀ p ∈ l, w.heap.size ≤ p) : Below w.heap.size w w' :=
  ⟨hf.os, hf.tape, hf.output, hf.size, fun k hk => hf.keep k hk (fun hm => by have := hl k hm; omega)⟩

/-- A struct is put together, in a region that draws its order. -/
theorem wpStill_build {P : Program} {ops : Array Oper} {rest : List Oper} {o : Oper} {a : Act} {w : World} {Q : Act → Prop} (hgd : o.guard = none) (t : TypeId) (parts : Array (Nat × Operand)) (cells : Array Value) (ho : o.op = .build t parts)
    (hf : P.built t (parts.map fun (i, x) => (i, a.eval x)).toList = some cells) (h : wpStill P ops w Q rest (a.put o.dst (.agg cells))) : wpStill P ops w Q (o :: rest) a := by
  refine wpStill_step fun K hK => ?_
  simp only [Region.wanted, hgd, if_true]
  unfold Oper.still
  rw [exec_build t parts cells ho hf]
  exact ⟨rfl, hK _ h⟩

theorem FRel.mono {w : World} {base base' : Nat} {C : Array Value} {g : Nat} {fd : FD} {v : Value} (h : FRel w base' C g fd v) (hb : base ≤ base') : FRel w base C g fd v := by
  cases fd with
  | own e size n R =>
    obtain ⟨us, h1, h2⟩ := h
    exact ⟨us, ownsRow_mono h1 hb, h2⟩
  | any => exact h
  | val u => exact h
  | vw l => exact h
  | vn l => exact h
  | vz l => exact h

theorem srcL_of {w : World} {base B : Nat} {C : Array Value} {g : Nat} {T : TypeId} {fr : Nat × Nat} {v : Value} {L : List (List UInt8)} (h : FRel w base C g (.own 22 1 L.length (ShowL C g L)) v) (hg : w.heap[g]? = some (.cells C T fr)) (hB : w.heap.size ≤ B) :
    SrcL w B v L ∧ (v = .slice none 0 0 ↔ L = []) := by
  obtain ⟨us, hown, hR⟩ := h
  rcases hown.2 with ⟨rfl, hn⟩ | ⟨p, cap, cur, rfl, hbp, hh, hnc, _, hcs, htake⟩
  · have e := List.length_eq_zero_iff.1 hn
    exact ⟨.inl ⟨rfl, e⟩, by simp [e]⟩
  · refine ⟨.inr ⟨p, cap, cur, rfl, by have := lt_of_heap hh; omega, hh, fun j s hj => ?_⟩, by simp; intro e; have := hR.1 e; cases this⟩
    obtain ⟨u, hu, hv⟩ := hR.2 j s hj
    refine ⟨u, ?_, (vn_src hv hg).keep hB (fun _ _ => rfl)⟩
    rw [← htake, List.getElem?_take] at hu
    split at hu
    · rw [← Array.getElem?_toList]; exact hu
    · cases hu

theorem srcB_of {w : World} {base B : Nat} {C : Array Value} {g : Nat} {T : TypeId} {fr : Nat × Nat} {v : Value} {l : List UInt8} (h : FRel w base C g (.vz l) v) (hg : w.heap[g]? = some (.cells C T fr)) (hB : w.heap.size ≤ B) :
    SrcB w B v l ∧ (v = .slice none 0 0 ↔ l = []) := by
  rcases h with ⟨rfl, rfl⟩ | ⟨hl, hv⟩
  · exact ⟨.inl ⟨rfl, rfl⟩, by simp⟩
  · refine ⟨(vn_src (.inr hv) hg).keep hB (fun _ _ => rfl), ?_⟩
    obtain ⟨o, c, rfl, _⟩ := hv
    simp [hl]

theorem SrcL.lst {w : World} {base : Nat} {v : Value} {L : List (List UInt8)} (h : SrcL w base v L) : LstB w base v L := by
  rcases h with h | ⟨p, cap, cur, rfl, hlt, hh, hc⟩
  · exact .inl h
  · refine .inr ⟨_, cap, rfl, fun _ => hlt, fun j s hj => ?_⟩
    obtain ⟨u, hu, hs⟩ := hc j s hj
    refine ⟨u, ?_, hs⟩
    rw [add_plain, Nat.zero_add, cell_of_heap hh]
    exact hu

theorem SrcL.keep {w w' : World} {base base' : Nat} {v : Value} {L : List (List UInt8)} (h : SrcL w base v L) (hb : base ≤ base') (hk : ∀ k, k < base → w'.heap[k]? = w.heap[k]?) : SrcL w' base' v L := by
  rcases h with h | ⟨p, cap, cur, e, hlt, hh, hc⟩
  · exact .inl h
  · refine .inr ⟨p, cap, cur, e, by omega, (hk p hlt).trans hh, fun j s hj => ?_⟩
    obtain ⟨u, hu, hs⟩ := hc j s hj
    exact ⟨u, hu, hs.keep hb hk⟩

/-- Bytes of a row that is owned come in. -/
theorem inB_own {w : World} {base lo : Nat} {v : Value} {s : List UInt8} (h : w.ownsRow base 5 1 v s.length (s.map by8)) (h4 : 4 ≤ s.length) (hlo : w.heap.size ≤ lo) : InB w lo v s := by
  rcases h.2 with ⟨_, hn⟩ | ⟨p, cap, cur, rfl, hb, hh, hnc, hcm, hcs, htake⟩
  · omega
  · refine .inr ⟨h4, cur, p, _, _, by have := lt_of_heap hh; omega, hh, 0, cap, rfl, hnc, hcm, fun i hi => ?_⟩
    have e : (s.map by8)[i]? = some (by8 (s.getD i 0)) := by simp [hi]
    rw [← htake, List.getElem?_take] at e
    split at e
    · rw [Nat.zero_add, ← Array.getElem?_toList]; exact e
    · cases e

end Go.Proofs.Ytopcljikkdlffaa
namespace Go.Proofs.Ytopcljikkdlffaa
open Go.RowKit

theorem Try.info143b : (Try.prog.info? 143).map (fun i => (i.zero, i.size, i.bytes)) = some (some (.int .u32 0), 1, 4) := by kernel_rfl

def ShowU4 (L : List Nat) (_ : Value) (us : List Value) : Prop := us = L.map fun n => Value.int .u32 (n : Nat)
theorem ShowU4.snoc {L : List Nat} {v v' : Value} {us : List Value} {n : Nat} (h : ShowU4 L v us) : ShowU4 (L ++ [n]) v' (us ++ [.int .u32 (n : Nat)]) := by
  unfold ShowU4 at *; rw [h]; simp
/-- Slices of the data. -/
def ShowW (C : Array Value) (g : Nat) (L : List (List UInt8)) (_ : Value) (us : List Value) : Prop := ∀ (j : Nat) (s : List UInt8), L[j]? = some s → ∃ u, us[j]? = some u ∧ VN C g u s
theorem ShowW.snoc {C : Array Value} {g : Nat} {L : List (List UInt8)} {v v' u : Value} {us : List Value} {s : List UInt8} (h : ShowW C g L v us) (hl : us.length = L.length) (hu : VN C g u s) : ShowW C g (L ++ [s]) v' (us ++ [u]) := by
  intro j t hj
  rcases Nat.lt_or_ge j L.length with hlt | hge
  · rw [List.getElem?_append_left hlt] at hj
    rw [List.getElem?_append_left (by omega)]
    exact h j t hj
  · rw [List.getElem?_append_right hge] at hj
    have h0 : j - L.length = 0 := by
      have := (List.getElem?_eq_some_iff.1 hj).1
      simp at this
      omega
    rw [h0] at hj
    simp only [List.getElem?_cons_zero, Option.some.injEq] at hj
    subst hj
    exact ⟨u, by rw [List.getElem?_append_right (by omega), hl, h0]; rfl, hu⟩

/-- The cells of a ClientHello of impl, with what the cell of the random shows. -/
def rV (C : Array Value) (g : Nat) (rnd : FD) (f : CH) : List FD := [.val (.int .u16 (f.vers : Nat)), rnd, .vn f.session, .own 35 1 f.suites.length (ShowU f.suites), .vn f.comps,
  .val (.string ⟨f.name.toArray⟩), .val (.bool f.ocsp), .own 35 1 f.curves.length (ShowU f.curves), .vn f.points, .val (.bool f.ticket), .vn f.tickets,
  .own 35 1 f.sigs.length (ShowU f.sigs), .own 35 1 f.sigsC.length (ShowU f.sigsC), .val (.bool f.srs), .vn f.sr, .val (.bool f.ems), .own 9 1 f.alpn.length (ShowT f.alpn), .val (.bool f.scts),
  .own 35 1 f.vers13.length (ShowU f.vers13), .vn f.cookie, .own 35 1 (f.shares.map (·.1)).length (ShowU (f.shares.map (·.1))), .own 22 1 (f.shares.map (·.2)).length (ShowW C g (f.shares.map (·.2))), .val (.bool f.early), .vn f.modes,
  .own 22 1 (f.psks.map (·.1)).length (ShowW C g (f.psks.map (·.1))), .own 143 1 (f.psks.map (·.2)).length (ShowU4 (f.psks.map (·.2))), .own 22 1 f.binders.length (ShowW C g f.binders),
  .val (.bool f.quic.isSome), .vn (f.quic.getD []), .vn f.ech, .own 35 1 f.exts.length (ShowU f.exts)]

/-- No row of a bundle is a reader, nor a list of extensions. -/
def ownOK (F : List FD) : Bool := F.all fun fd => match fd with
  | .own e _ _ _ => e != 80 && e != 85
  | _ => true

theorem rV_ok {C : Array Value} {g : Nat} {rnd : FD} {f : CH} (h : rnd.isOwn = false) : ownOK (rV C g rnd f) = true := by
  cases rnd <;> first | rfl | cases h

theorem ownOK_at {F : List FD} (h : ownOK F = true) {i e size n : Nat} {R : Value → List Value → Prop} (hi : F[i]? = some (.own e size n R)) : e ≠ 80 ∧ e ≠ 85 := by
  unfold ownOK at h
  rw [List.all_eq_true] at h
  have h1 := h _ (List.mem_of_getElem? hi)
  simpa using h1

/-- Readers and lists of extensions are untouched but for l. -/
structure Kt (l : List Nat) (w w' : World) : Prop where
  size : w.heap.size ≤ w'.heap.size
  keep : ∀ k, k ∉ l → (∃ (D : Array Value) (T : TypeId) (fr : Nat × Nat), w.heap[k]? = some (.cells D T fr) ∧ (T = 80 ∨ T = 85)) → w'.heap[k]? = w.heap[k]?

theorem Kt.refl (l : List Nat) (w : World) : Kt l w w := ⟨Nat.le_refl _, fun _ _ _ => rfl⟩
theorem Kt.trans {l : List Nat} {a b d : World} (h : Kt l a b) (k : Kt l b d) : Kt l a d := by
  refine ⟨Nat.le_trans h.size k.size, fun i hn hi => ?_⟩
  have h1 := h.keep i hn hi
  rw [← h1]
  refine k.keep i hn ?_
  rw [h1]
  exact hi
theorem Kt.mono {l l' : List Nat} {a b : World} (h : Kt l a b) (hl : ∀ x ∈ l, x ∈ l') : Kt l' a b := ⟨h.size, fun k hn hi => h.keep k (fun hm => hn (hl k hm)) hi⟩
theorem Fs.kt {l : List Nat} {a b : World} (h : Fs l a b) : Kt l a b := ⟨h.size, fun k hn ⟨_, _, _, hi, _⟩ => h.keep k (lt_of_heap hi) hn⟩
theorem Kt.setCell {l : List Nat} {a w : World} (h : Kt l a w) (m o : Nat) (u : Value) (hm : m ∈ l) : Kt l a (w.setCell ⟨m, o, none⟩ u) := h.trans ((Fs.refl l w).setCell m o u hm).kt
theorem Kt.alloc {l : List Nat} {a w : World} (h : Kt l a w) (o : Obj) : Kt l a (w.alloc o) := h.trans ((Fs.refl l w).push o).kt
/-- A block that is new is named for nothing. -/
theorem Kt.fresh {l : List Nat} {a b : World} {p : Nat} (h : Kt (p :: l) a b) (hp : a.heap.size ≤ p) : Kt l a b :=
  ⟨h.size, fun k hn ⟨D, T, fr, hi, ht⟩ => h.keep k (fun hm => by
    have := lt_of_heap hi
    rcases List.mem_cons.1 hm with e | e
    · omega
    · exact hn e) ⟨D, T, fr, hi, ht⟩⟩

theorem RAt.kt {w w' : World} {c g : Nat} {C : Array Value} {st : Nat × List UInt8} {l : List Nat} (h : RAt w c C g st) (hf : Kt l w w') (hc : c ∉ l) : RAt w' c C g st := by
  obtain ⟨v, hh, hv⟩ := h
  exact ⟨v, (hf.keep c hc ⟨_, _, _, hh, .inl rfl⟩).trans hh, hv⟩

section
variable {w0 w w' : World} {C : Array Value} {g m : Nat} {F : List FD}

/-- What a reader's functions do leaves the ClientHello alone. -/
theorem Bn.rd (h : Bn w0 C g m [(m, F)] none w) {l : List Nat} (hf : Fs l w w') (hl : ∀ p ∈ l, w0.heap.size ≤ p ∧ ∀ (D : Array Value) (T : TypeId) (fr : Nat × Nat), w.heap[p]? = some (.cells D T fr) → T = 80) (hm : m < w0.heap.size) (ho : ownOK F = true) : Bn w0 C g m [(m, F)] none w' := by
  refine h.other hf fun k hk => ⟨(hl k hk).1, fun c q G hc => ?_, fun c q G j fd v hc hj hfd hv e => ?_, fun b seen e => by cases e⟩
  · have := (hl k hk).1
    match c, hc with
    | 0, hc => cases hc; omega
  · match c, hc with
    | 0, hc =>
      cases hc
      obtain ⟨v', hv', hr⟩ := h.rel 0 m F j fd rfl hj
      rw [hv] at hv'
      cases hv'
      cases fd with
      | own e' size n R =>
        obtain ⟨us, h1, _⟩ := hr
        rcases h1.2 with ⟨rfl, _⟩ | ⟨p, cap, cur, rfl, _, hh, _⟩
        · cases e
        · simp only [Value.ownBlock, Option.some.injEq] at e
          subst e
          exact (ownOK_at ho hj).1 ((hl p hk).2 _ _ _ hh)
      | _ => cases hfd

theorem Bn.rd1 (h : Bn w0 C g m [(m, F)] none w) {x : Nat} {st : Nat × List UInt8} (hf : Fs [x] w w') (hx : w0.heap.size ≤ x) (hR : RAt w x C g st) (hm : m < w0.heap.size) (ho : ownOK F = true) : Bn w0 C g m [(m, F)] none w' :=
  h.rd hf (fun p hp => by
    simp only [List.mem_singleton] at hp
    subst hp
    refine ⟨hx, fun D T fr hh => ?_⟩
    obtain ⟨v, hh', _⟩ := hR
    rw [hh'] at hh
    cases hh
    rfl) hm ho

theorem Bn.rd2 (h : Bn w0 C g m [(m, F)] none w) {x y : Nat} {st sy : Nat × List UInt8} (hf : Fs [x, y] w w') (hx : w0.heap.size ≤ x) (hR : RAt w x C g st) (hy : w0.heap.size ≤ y) (hP : RAt w y C g sy) (hm : m < w0.heap.size) (ho : ownOK F = true) : Bn w0 C g m [(m, F)] none w' :=
  h.rd hf (fun p hp => by
    simp only [List.mem_cons, List.not_mem_nil, or_false] at hp
    rcases hp with rfl | rfl
    · refine ⟨hx, fun D T fr hh => ?_⟩
      obtain ⟨v, hh', _⟩ := hR
      rw [hh'] at hh
      cases hh
      rfl
    · refine ⟨hy, fun D T fr hh => ?_⟩
      obtain ⟨v, hh', _⟩ := hP
      rw [hh'] at hh
      cases hh
      rfl) hm ho

theorem Bn.gne (h : Bn w0 C g m [(m, F)] none w) {x : Nat} (hx : w0.heap.size ≤ x) : g ≠ x := by have := h.gl; omega
theorem Bn.mlt (h : Bn w0 C g m [(m, F)] none w) {p i : Nat} {v : Value} (hv : w.cell? ⟨p, i, none⟩ = some v) : p < w.heap.size := World.block_lt_of_cell? w _ hv

/-- A new row is stored in the ClientHello. -/
theorem Bn.newrow {w1 w2 : World} (h1 : Bn w0 C g m [(m, F)] none w1) (h2 : Bn w0 C g m [(m, F)] none w2) (hc : w2.heap[m]? = w1.heap[m]?) {e size n i : Nat} {v : Value} {us : List Value} {fo : FD} (ho : w2.ownsRow w1.heap.size e size v n us) (hi : F[i]? = some fo) (R : Value → List Value → Prop) (hR : R v us) :
    Bn w0 C g m [(m, F.set i (.own e size n R))] none (w2.setCell ⟨m, i, none⟩ v) := by
  have hb : w0.heap.size ≤ w1.heap.size := h1.fs.size
  have h3 : FRel w2 w0.heap.size C g (.own e size n R) v := FRel.mono (base' := w1.heap.size) ⟨us, ho, hR⟩ hb
  obtain ⟨us', ho', hR'⟩ := h3
  have hm1 := h1.lt (b := 0) rfl
  refine h2.store (b := 0) rfl hi (.own e size n R) v ⟨us', ho', hR'⟩ fun _ k hk => ?_
  have hk1 := (ho.lt k hk).1
  refine ⟨fun c q G hcq => ?_, fun c q G j fd' v' hcq hj ho2 hv' hk' => ?_⟩
  · match c, hcq with
    | 0, hcq => cases hcq; omega
  · match c, hcq with
    | 0, hcq =>
      cases hcq
      rw [World.cell?_of_block hc] at hv'
      obtain ⟨v2, hv2, hr⟩ := h1.rel 0 m F j fd' rfl hj
      rw [hv'] at hv2
      cases hv2
      have := (hr.lt ho2 k hk').2
      omega

end

/-- What an extension leaves. -/
def CxPost (w0 w : World) (C : Array Value) (g m x : Nat) (rnd : FD) (r : CH × (Nat × List UInt8)) (e : Ending) (w' : World) : Prop :=
  e = .returned (.tuple #[]) ∧ Bn w0 C g m [(m, rV C g rnd r.1)] none w' ∧ RAt w' x C g r.2 ∧ Kt [m, x] w w'

/-- What an extension starts from. -/
structure Cx (w0 w : World) (C : Array Value) (g m x : Nat) (rnd : FD) (f : CH) (st : Nat × List UInt8) : Prop where
  hx : w0.heap.size ≤ x
  hm : m < w0.heap.size
  hr : rnd.isOwn = false
  hb : Bn w0 C g m [(m, rV C g rnd f)] none w
  ra : RAt w x C g st
  len : st.2.length ≤ 65535
  s1 : f.shares.length ≤ 4294967296
  s2 : f.psks.length ≤ 4294967296

end Go.Proofs.Ytopcljikkdlffaa
