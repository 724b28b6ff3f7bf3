/- The reference: texts out of lists of bytes; whether a list has a number; whether lists of bytes are long enough; the numbers of extensions. Bundles: a row that was appended to and is not yet stored; two rows that grow in one statement. The reference's ClientHello as a bundle; what a reader's functions leave of it. No statement of the seat is proved here. -/
import Derived.Test.YtopcljikkdlffaaX16
import Derived.Test.YtopcljikkdlffaaX12
import Derived.Test.YtopcljikkdlffaaX11
import Derived.Test.YtopcljikkdlffaaX13
import Derived.Test.YtopcljikkdlffaaX14
namespace Go.Proofs.Ytopcljikkdlffaa
open Go.RowKit

set_option maxRecDepth 100000 in
set_option maxHeartbeats 2000000 in
theorem texts_ok {g : Nat} {C : Array Value} {T : TypeId} {fr : Nat × Nat} {base : Nat} {u : Value} {L : List (List UInt8)} (w : World) (hg : w.heap[g]? = some (.cells C T fr)) (hO : OutL w base C g u L) (hn : L.length ≤ 2147483647) :
    Calls Try.prog 87 #[u] w fun e w' => ∃ o us, e = .returned o ∧ w'.ownsRow w.heap.size 9 1 o L.length us ∧ ShowT L o us ∧ Fs [] w w' := by
  obtain ⟨i0, hi, hz0, hz1, hz2⟩ := info_parts Try.info9b
  obtain ⟨xs, hown, hxs⟩ := hO
  obtain ⟨a, cap, rfl⟩ := row_slice hown
  have HX := Lib.hid hown
  have HXS := Lib.hid hxs
  have HG := Lib.hid hg
  clear hown hxs hg
  go_enter Try.func87, Try.ntmps87
  go_wp2_with fail
  go_loopw [3, 8] (fun o i wr => ∃ (j : Nat) (us : List Value), i = .int .i64 j ∧ j ≤ L.length ∧ wr.ownsRow w.heap.size 9 1 o j us ∧ ShowT (L.take j) o us ∧ Fs [] w wr) (fun _ i _ => L.length - (intOf i).toNat)
  case atStart => exact ⟨0, [], rfl, Nat.zero_le _, World.ownsRow_nil _ _ _ _, rfl, Fs.refl _ _⟩
  case round =>
    obtain ⟨j, us, rfl, hj, ho, hs, hf⟩ := hrel
    by_cases hjn : j < L.length
    · have hjn2 : ((j : Nat) : Int) < ((L.length : Nat) : Int) := by omega
      obtain ⟨p, hp⟩ : ∃ p, a = some ⟨p, 0, none⟩ := by
        rcases HX.out.2 with ⟨_, h⟩ | ⟨p, cap', cur, e, _⟩
        · omega
        · simp only [Value.slice.injEq] at e
          exact ⟨p, e.1⟩
      subst hp
      obtain ⟨x, hx⟩ : ∃ x, x = L[j] := ⟨_, rfl⟩
      obtain ⟨v, hv1, hv2⟩ := HXS.out j x (by rw [hx]; exact List.getElem?_eq_getElem hjn)
      have q0 : wr.cell? ⟨p, j, none⟩ = some v := by
        have h1 : w.cell? ⟨p, j, none⟩ = some v := by rw [HX.out.cellAt j (by omega)]; exact hv1
        rw [← h1]
        exact World.cell?_of_block (hf.keep p (World.block_lt_of_cell? w _ h1) (by simp))
      have hgr := (hf.keep g (lt_of_heap HG.out) (by simp)).trans HG.out
      have hcv := conv_ok (vn_src hv2 hgr).src
      obtain ⟨ax, cx, rfl, _, _⟩ := hv2.len
      obtain ⟨ao, co, rfl⟩ := row_slice ho
      have HO := Lib.hid ho
      have HS := Lib.hid hs
      have HF := Lib.hid hf
      have hS2 : Hid (L.take j ++ [x] = L.take (j + 1)) := Lib.hid (by rw [List.take_succ_eq_append_getElem hjn, hx])
      have hws := hf.size
      clear ho hs hf hv1 hv2 hx hgr
      go_wp2_with (at_builtin; go_loud (refine wpList_append_own _ rfl (.tmp 12) (.tmp 15) 49 rfl w.heap.size 9 i0 (.string ⟨#[]⟩) 1 16 Try.underlying49 hi hz0 hz1 hz2 rfl (by decide) _ j us rfl (HO.out.alloc _) ⟨wr.heap.size, 0, none⟩ 1 1 [.string ⟨x.toArray⟩] rfl rfl ?_ ?_ ?_ ?_ ?_ ?_))
      · intro j u hu
        match j, hu with
        | 0, hu => simp at hu; subst hu; exact World.cell?_alloc_new _ _ _ _
      · intro u hu; simp at hu; subst hu; rfl
      · unfold maxLen; omega
      · omega
      · simp; omega
      intro v' w3 hown3 hgrow _
      have hfs3 : Fs [] w w3 := by
        have h2 := HF.out
        refine ⟨hgrow.os.trans h2.os, hgrow.tape.trans h2.tape, hgrow.output.trans h2.output, ?_, fun i hi' hn => ?_⟩
        · have h := hgrow.size; simp at h; omega
        · have hb : (wr.alloc (Obj.cells #[Value.string ⟨x.toArray⟩] 9)).heap[i]? = wr.heap[i]? := Below.heap_alloc _ _ _ (by omega)
          rw [← h2.keep i hi' hn, ← hb]
          refine hgrow.block i (by simp; omega) ?_
          intro h
          rcases (HO.out.alloc (Obj.cells #[Value.string ⟨x.toArray⟩] 9)).2 with ⟨e, _⟩ | ⟨g', cp, cur, e, hb', _⟩
          · rw [e] at h; cases h
          · rw [e] at h
            simp only [Value.ownBlock, Option.some.injEq] at h
            omega
      have HO3 := Lib.hid hown3
      have HFS3 := Lib.hid hfs3
      clear hown3 hgrow hfs3 hcv q0
      go_wp2_with fail
      refine ⟨⟨j + 1, us ++ [.string ⟨x.toArray⟩], rfl, by omega, HO3.out, ?_, HFS3.out⟩, by simp [intOf]; omega⟩
      rw [← hS2.out]
      exact HS.out.snoc
    · have e : j = L.length := by omega
      subst e
      rw [List.take_length] at hs
      have HO := Lib.hid ho
      have HS := Lib.hid hs
      have HF := Lib.hid hf
      clear ho hs hf
      go_wp2_with fail
      go_ret
      exact ⟨_, us, rfl, HO.out, HS.out, HF.out⟩

set_option maxRecDepth 100000 in
set_option maxHeartbeats 1000000 in
theorem signals_ok {base : Nat} {u : Value} {L : List Nat} (w : World) (hO : OutU w base u L) (hn : L.length ≤ 2147483647) :
    Calls Try.prog 62 #[u] w fun e w' => e = .returned (.bool (decide (255 ∈ L))) ∧ w' = w := by
  obtain ⟨xs, hown, hxs⟩ := hO
  obtain ⟨a, cap, rfl⟩ := row_slice hown
  have HX := Lib.hid hown
  have HXS := Lib.hid hxs
  clear hown hxs
  go_enter Try.func62, Try.ntmps62
  go_wp2_with fail
  go_loop [7] (fun i => ∃ j : Nat, j ≤ L.length ∧ i = .int .i64 j ∧ 255 ∉ L.take j) (fun i => L.length - (intOf i).toNat)
  case atStart => exact ⟨0, Nat.zero_le _, rfl, by simp⟩
  case round =>
    obtain ⟨j, hj, rfl, hall⟩ := hrel
    have HA := Lib.hid hall
    clear hall
    by_cases hjn : j < L.length
    · have hjn2 : ((j : Nat) : Int) < ((L.length : Nat) : Int) := by omega
      obtain ⟨p, hp⟩ : ∃ p, a = some ⟨p, 0, none⟩ := by
        rcases HX.out.2 with ⟨_, h⟩ | ⟨p, cap', cur, e, _⟩
        · omega
        · simp only [Value.slice.injEq] at e
          exact ⟨p, e.1⟩
      subst hp
      obtain ⟨x, hx⟩ : ∃ x, x = L[j] := ⟨_, rfl⟩
      have q0 : w.cell? ⟨p, j, none⟩ = some (.int .u16 (x : Nat)) := by
        rw [HX.out.cellAt j (by omega), HXS.out, List.getElem?_map, List.getElem?_eq_getElem hjn, hx]
        rfl
      have hS2 : Hid (L.take (j + 1) = L.take j ++ [x]) := Lib.hid (by rw [List.take_succ_eq_append_getElem hjn, hx])
      have hM : Hid (x ∈ L) := Lib.hid (by rw [hx]; exact List.getElem_mem hjn)
      clear hx
      by_cases h255 : x = 255
      · subst h255
        go_wp2_with fail
        go_ret
        exact ⟨by rw [decide_eq_true hM.out]; rfl, rfl⟩
      · have q1 : ¬ ((x : Nat) : Int) = 255 := by omega
        have q2 : (((x : Nat) : Int) == 255) = false := by simp; omega
        go_wp2_with fail
        refine ⟨⟨j + 1, by omega, by simp, ?_⟩, by simp [intOf]; omega⟩
        rw [hS2.out]
        have := HA.out
        simp only [List.mem_append, List.mem_singleton]
        rintro (h | h)
        · exact this h
        · exact h255 h.symm
    · have e : j = L.length := by omega
      subst e
      have HA2 := HA.out
      rw [List.take_length] at HA2
      have HA3 := Lib.hid HA2
      clear HA2
      go_wp2_with fail
      go_ret
      exact ⟨by rw [decide_eq_false HA3.out]; rfl, rfl⟩

set_option maxRecDepth 100000 in
set_option maxHeartbeats 1000000 in
theorem none31_ok {g : Nat} {C : Array Value} {base : Nat} {u : Value} {L : List (List UInt8)} (w : World) (hO : OutL w base C g u L) (hn : L.length ≤ 2147483647) :
    Calls Try.prog 43 #[u, .int .i64 1, .int .i64 31] w fun e w' => e = .returned (.bool (rnone 1 31 L)) ∧ w' = w := by
  obtain ⟨xs, hown, hxs⟩ := hO
  obtain ⟨a, cap, rfl⟩ := row_slice hown
  have HX := Lib.hid hown
  have HXS := Lib.hid hxs
  clear hown hxs
  go_enter Try.func43, Try.ntmps43
  go_wp2_with fail
  go_loop [8, 11, 13, 14, 15, 16, 17, 18, 19, 20, 21, 22, 23, 24] (fun _ i _ _ _ _ _ _ _ _ _ _ _ _ => ∃ j : Nat, j ≤ L.length ∧ i = .int .i64 j ∧ rnone 1 31 (L.take j) = true) (fun _ i _ _ _ _ _ _ _ _ _ _ _ _ => L.length - (intOf i).toNat)
  case atStart => exact ⟨0, Nat.zero_le _, rfl, rfl⟩
  case round =>
    obtain ⟨j, hj, rfl, hall⟩ := hrel
    have HA := Lib.hid hall
    clear hall
    by_cases hjn : j < L.length
    · have hjn2 : ((j : Nat) : Int) < ((L.length : Nat) : Int) := by omega
      obtain ⟨p, hp⟩ : ∃ p, a = some ⟨p, 0, none⟩ := by
        rcases HX.out.2 with ⟨_, h⟩ | ⟨p, cap', cur, e, _⟩
        · omega
        · simp only [Value.slice.injEq] at e
          exact ⟨p, e.1⟩
      subst hp
      obtain ⟨x, hx⟩ : ∃ x, x = L[j] := ⟨_, rfl⟩
      obtain ⟨v, hv1, hv2⟩ := HXS.out j x (by rw [hx]; exact List.getElem?_eq_getElem hjn)
      have q0 : w.cell? ⟨p, j, none⟩ = some v := by rw [HX.out.cellAt j (by omega)]; exact hv1
      obtain ⟨ax, cx, rfl, _, _⟩ := hv2.len
      have hS2 : Hid (L.take (j + 1) = L.take j ++ [x]) := Lib.hid (by rw [List.take_succ_eq_append_getElem hjn, hx])
      have hM : Hid (x ∈ L) := Lib.hid (by rw [hx]; exact List.getElem_mem hjn)
      obtain ⟨n, hnx⟩ : ∃ n, n = x.length := ⟨_, rfl⟩
      rw [← hnx] at q0
      have HNX := Lib.hid hnx
      clear hx hv1 hv2 hnx
      by_cases hin : 1 ≤ n ∧ n ≤ 31
      · have q1 : (1 : Int) ≤ (n : Int) := by omega
        have q2 : (n : Int) ≤ 31 := by omega
        go_wp2_with fail
        go_ret
        refine ⟨?_, rfl⟩
        have e : rnone 1 31 L = false := by
          unfold rnone
          rw [List.all_eq_false]
          refine ⟨x, hM.out, ?_⟩
          rw [← HNX.out]
          simp [hin.1, hin.2]
        rw [e]
        rfl
      · have hS3 : Hid (rnone 1 31 (L.take (j + 1)) = true) := Lib.hid (by
          have h := HA.out
          unfold rnone at h ⊢
          rw [hS2.out, List.all_append, h]
          simp only [List.all_cons, List.all_nil, Bool.and_true, Bool.true_and]
          rw [← HNX.out]
          by_cases h1 : 1 ≤ n
          · have h2 : ¬ n ≤ 31 := fun h2 => hin ⟨h1, h2⟩
            simp [h2]
          · simp [h1])
        by_cases h1 : 1 ≤ n
        · have q1 : (1 : Int) ≤ (n : Int) := by omega
          have q2 : ¬ (n : Int) ≤ 31 := by omega
          go_wp2_with fail
          exact ⟨⟨j + 1, by omega, by simp, hS3.out⟩, by simp [intOf]; omega⟩
        · have q1 : ¬ (1 : Int) ≤ (n : Int) := by omega
          go_wp2_with fail
          exact ⟨⟨j + 1, by omega, by simp, hS3.out⟩, by simp [intOf]; omega⟩
    · have e : j = L.length := by omega
      subst e
      have HA2 := HA.out
      rw [List.take_length] at HA2
      have HA3 := Lib.hid HA2
      clear HA2
      go_wp2_with fail
      go_ret
      exact ⟨by rw [HA3.out]; rfl, rfl⟩

set_option maxRecDepth 100000 in
set_option maxHeartbeats 2000000 in
theorem types_ok {g : Nat} {C : Array Value} {base : Nat} {u : Value} {L : List (Nat × List UInt8)} (w : World) (hO : ExL w base C g u L) (hn : L.length ≤ 2147483647) :
    Calls Try.prog 63 #[u] w fun e w' => ∃ o, e = .returned o ∧ OutU w' w.heap.size o (L.map (·.1)) ∧ Fs [] w w' := by
  obtain ⟨i0, hi, hz0, hz1, hz2⟩ := info_parts Try.info35b
  obtain ⟨xs, hown, _, hxs⟩ := hO
  obtain ⟨a, cap, rfl⟩ := row_slice hown
  have HX := Lib.hid hown
  have HXS := Lib.hid hxs
  clear hown hxs
  go_enter Try.func63, Try.ntmps63
  go_wp2_with fail
  go_loopw [3, 8] (fun o i wr => ∃ (j : Nat) (us : List Value), i = .int .i64 j ∧ j ≤ L.length ∧ wr.ownsRow w.heap.size 35 1 o j us ∧ ShowU ((L.take j).map (·.1)) o us ∧ Fs [] w wr) (fun _ i _ => L.length - (intOf i).toNat)
  case atStart => exact ⟨0, [], rfl, Nat.zero_le _, World.ownsRow_nil _ _ _ _, rfl, Fs.refl _ _⟩
  case round =>
    obtain ⟨j, us, rfl, hj, ho, hs, hf⟩ := hrel
    by_cases hjn : j < L.length
    · have hjn2 : ((j : Nat) : Int) < ((L.length : Nat) : Int) := by omega
      obtain ⟨p, hp⟩ : ∃ p, a = some ⟨p, 0, none⟩ := by
        rcases HX.out.2 with ⟨_, h⟩ | ⟨p, cap', cur, e, _⟩
        · omega
        · simp only [Value.slice.injEq] at e
          exact ⟨p, e.1⟩
      subst hp
      obtain ⟨x, hx⟩ : ∃ x, x = L[j] := ⟨_, rfl⟩
      obtain ⟨hx1, v, hx2, hx3⟩ := HXS.out j x (by rw [hx]; exact List.getElem?_eq_getElem hjn)
      have up : ∀ (k : Nat) (y : Value), w.cell? ⟨p, k, none⟩ = some y → wr.cell? ⟨p, k, none⟩ = some y := fun k y h1 => by
        rw [← h1]
        exact World.cell?_of_block (hf.keep p (World.block_lt_of_cell? w _ h1) (by simp))
      have q0 : wr.cell? ⟨p, j * 2, none⟩ = some (.int .u16 (x.1 : Nat)) := up _ _ (by rw [HX.out.cellAt (j * 2) (by omega), Nat.mul_comm j 2]; exact hx1)
      have q1 : wr.cell? ⟨p, j * 2 + 1, none⟩ = some v := up _ _ (by rw [HX.out.cellAt (j * 2 + 1) (by omega), Nat.mul_comm j 2]; exact hx2)
      obtain ⟨ax, cx, rfl, _, _⟩ := hx3.len
      obtain ⟨ao, co, rfl⟩ := row_slice ho
      obtain ⟨y, hy⟩ : ∃ y, y = x.1 := ⟨_, rfl⟩
      obtain ⟨n, hnx⟩ : ∃ n, n = x.2.length := ⟨_, rfl⟩
      rw [← hy] at q0
      rw [← hnx] at q1
      have HO := Lib.hid ho
      have HS := Lib.hid hs
      have HF := Lib.hid hf
      have hS2 : Hid ((L.take j).map (·.1) ++ [y] = (L.take (j + 1)).map (·.1)) := Lib.hid (by rw [List.take_succ_eq_append_getElem hjn, hy, hx, List.map_append]; rfl)
      have hws := hf.size
      clear ho hs hf hx hx1 hx2 hx3 up hy hnx
      go_wp2_with (at_builtin; go_loud (refine wpList_append_own _ rfl (.tmp 12) (.tmp 15) 48 rfl w.heap.size 35 i0 (.int .u16 0) 1 2 Try.underlying48 hi hz0 hz1 hz2 rfl (by decide) _ j us rfl ((HO.out.alloc _).alloc _) ⟨wr.heap.size + 1, 0, none⟩ 1 1 [.int .u16 (y : Nat)] rfl rfl ?_ ?_ ?_ ?_ ?_ ?_))
      · rfl
      · unfold maxLen; omega
      · omega
      · first | omega | (simp; omega)
      intro v' w3 hown3 hgrow _
      have hfs3 : Fs [] w w3 := by
        have h2 := HF.out
        refine ⟨hgrow.os.trans h2.os, hgrow.tape.trans h2.tape, hgrow.output.trans h2.output, ?_, fun i hi' hn => ?_⟩
        · have h := hgrow.size; simp at h; omega
        · have hb : ((wr.alloc (Obj.cells #[Value.int .u16 (y : Nat), Value.slice ax n cx] 85)).alloc (Obj.cells #[Value.int .u16 (y : Nat)] 35)).heap[i]? = wr.heap[i]? := by
            rw [Below.heap_alloc _ _ _ (by simp; omega), Below.heap_alloc _ _ _ (by omega)]
          rw [← h2.keep i hi' hn, ← hb]
          refine hgrow.block i (by simp; omega) ?_
          intro h
          rcases HO.out.2 with ⟨e, _⟩ | ⟨g', cp, cur, e, hb', _⟩
          · rw [e] at h; cases h
          · rw [e] at h
            simp only [Value.ownBlock, Option.some.injEq] at h
            omega
      obtain ⟨ao3, co3, rfl⟩ := row_slice hown3
      have HO3 := Lib.hid hown3
      have HFS3 := Lib.hid hfs3
      clear hown3 hgrow hfs3 q0 q1
      go_wp2_with fail
      refine ⟨⟨j + 1, us ++ [.int .u16 (y : Nat)], rfl, by omega, HO3.out, ?_, HFS3.out⟩, by simp [intOf]; omega⟩
      rw [← hS2.out]
      exact HS.out.snoc
    · have e : j = L.length := by omega
      subst e
      rw [List.take_length] at hs
      have HO := Lib.hid ho
      have HS := Lib.hid hs
      have HF := Lib.hid hf
      clear ho hs hf
      go_wp2_with fail
      go_ret
      exact ⟨_, rfl, ⟨us, by simpa using HO.out, HS.out⟩, HF.out⟩

end Go.Proofs.Ytopcljikkdlffaa
namespace Go.Proofs.Ytopcljikkdlffaa
open Go.RowKit

/-- The row v shows is apart from all that the bundle shows. -/
def Held (base : Nat) (Bs : List (Nat × List FD)) (Ms : Option (Nat × List Nat)) (e : TypeId) (size n : Nat) (v : Value) (us : List Value) (w : World) : Prop :=
  w.ownsRow base e size v n us ∧ ∀ k, v.ownBlock = some k → (∀ (c q : Nat) (G : List FD), Bs[c]? = some (q, G) → q ≠ k) ∧
    (∀ (c q : Nat) (G : List FD) (j : Nat) (fd : FD) (v2 : Value), Bs[c]? = some (q, G) → G[j]? = some fd → fd.isOwn = true → w.cell? ⟨q, j, none⟩ = some v2 → v2.ownBlock ≠ some k) ∧ ∀ b seen, Ms = some (b, seen) → b ≠ k

def ownList (v : Value) : List Nat := match v.ownBlock with
  | some k => [k]
  | none => []

section
variable {w0 w w' : World} {C : Array Value} {g m : Nat} {Bs : List (Nat × List FD)} {Ms : Option (Nat × List Nat)}

theorem any_up {b p i : Nat} {F : List FD} {fo : FD} (hb : Bs[b]? = some (p, F)) {c q : Nat} {G : List FD} (hc : (Bs.set b (p, F.set i FD.any))[c]? = some (q, G)) :
    ∃ G', Bs[c]? = some (q, G') ∧ ∀ (j : Nat) (fd : FD), G[j]? = some fd → fd.isOwn = true → G'[j]? = some fd ∧ (c ≠ b ∨ j ≠ i) := by
  rcases set_pair hb hc with ⟨rfl, rfl, rfl⟩ | ⟨hne, hc'⟩
  · refine ⟨F, hb, fun j fd hj ho => ?_⟩
    rcases set_field hj with ⟨rfl, rfl⟩ | ⟨hne, hj'⟩
    · cases ho
    · exact ⟨hj', .inr hne⟩
  · exact ⟨G, hc', fun j fd hj _ => ⟨hj, .inl hne⟩⟩

theorem Held.push {base size n : Nat} {e : TypeId} {v : Value} {us : List Value} (h : Bn w0 C g m Bs Ms w) (hh : Held base Bs Ms e size n v us w) (o : Obj) : Held base Bs Ms e size n v us (w.alloc o) := by
  refine ⟨own_kept hh.1 fun k hk => Below.heap_alloc _ _ _ (hh.1.lt k hk).2, fun k hk => ?_⟩
  obtain ⟨h1, h2, h3⟩ := hh.2 k hk
  refine ⟨h1, fun c q G j fd v2 hc hj ho hv => h2 c q G j fd v2 hc hj ho ?_, h3⟩
  rw [← hv]
  exact (World.cell?_of_block (Below.heap_alloc w _ q (h.lt hc))).symm

/-- An append to a row in a cell; it is not stored. -/
theorem Bn.app (h : Bn w0 C g m Bs Ms w) {b p i e size n : Nat} {R : Value → List Value → Prop} {F : List FD} (hb : Bs[b]? = some (p, F)) (hi : F[i]? = some (.own e size n R)) (t ty : TypeId) (ti : TypeInfo) (z : Value) (bytes : Nat)
    (ht : Try.prog.underlying t = some (.slice e)) (hti : Try.prog.info? e = some ti) (hz : ti.zero = some z) (hsize : ti.size = size) (hby : ti.bytes = bytes) (hzs : z.cells.size = size) (hsz : 0 < size)
    (a : Addr) (mm c : Nat) (news : List Value) (hl : news.length = mm * size) (hnews : ∀ j u, news[j]? = some u → w.cell? (a.add j) = some u) (h1 : ∀ u ∈ news, u.oneCell' = true)
    (h63 : n + mm ≤ maxLen) (hbytes : (n + mm) * bytes ≤ 140737488355328) :
    ∃ v us v' w', w.cell? ⟨p, i, none⟩ = some v ∧ (∃ ao cap, v = .slice ao n cap) ∧ (R v us ∧ us.length = n * size) ∧ (Builtin.append_ #[t, t] ty #[v, .slice (some a) mm c]).run Try.prog w = .ok v' w' ∧
      (∃ ao cap, v' = .slice ao (n + mm) cap) ∧ Bn w0 C g m (Bs.set b (p, F.set i .any)) Ms w' ∧ Held w0.heap.size (Bs.set b (p, F.set i .any)) Ms e size (n + mm) v' (us ++ news) w' ∧
      (∀ (c q : Nat) (G : List FD) (j : Nat), Bs[c]? = some (q, G) → w'.cell? ⟨q, j, none⟩ = w.cell? ⟨q, j, none⟩) ∧ Fs (ownList v) w w' ∧ (∀ k, v'.ownBlock = some k → v.ownBlock = some k ∨ w.heap.size ≤ k) ∧ (∀ k ∈ ownList v, k < w.heap.size) := by
  obtain ⟨v, us, hv, hown, hR⟩ := h.own hb hi
  obtain ⟨v', w', hr, hown', hg, hsharp⟩ := append_sharp (P := Try.prog) w w0.heap.size t ty e ti z size bytes ht hti hz hsize hby hzs hsz v n us hown a mm c news hl hnews h1 h63 hbytes h.fs.size
  have hil : i < F.length := (List.getElem?_eq_some_iff.1 hi).1
  have hbl : b < Bs.length := (List.getElem?_eq_some_iff.1 hb).1
  have hw := h.weak hb hi .any (fun _ _ => trivial) (fun e => by cases e)
  have hF : Fs (ownList v) w w' := ⟨hg.os, hg.tape, hg.output, hg.size, fun k hk hn => hg.block k hk fun e => hn (by unfold ownList; rw [← e]; simp)⟩
  have hol : ∀ k, k ∈ ownList v → v.ownBlock = some k := by
    intro k hk
    unfold ownList at hk
    cases hob : v.ownBlock with
    | none => rw [hob] at hk; cases hk
    | some k0 =>
      rw [hob] at hk
      simp only [List.mem_singleton] at hk
      rw [hk]
  have h3 : Bn w0 C g m (Bs.set b (p, F.set i FD.any)) Ms w' := by
    refine hw.other hF fun k hk => ?_
    have hob := hol k hk
    refine ⟨(hown.lt k hob).1, fun c q G hc => ?_, fun c q G j fd v2 hc hj ho hv2 e => ?_, fun mb seen e e2 => ?_⟩
    · obtain ⟨G', hc', _⟩ := any_up (fo := FD.any) hb hc
      exact h.off b p F i _ v k hb hi rfl hv hob c q G' hc'
    · obtain ⟨G', hc', hx⟩ := any_up (fo := FD.any) hb hc
      obtain ⟨hj', hne⟩ := hx j fd hj ho
      obtain ⟨e1, e3⟩ := h.apart b p F i _ v c q G' j fd v2 k hb hi rfl hv hc' hj' ho hv2 hob e
      rcases hne with hne | hne
      · exact hne e1.symm
      · exact hne e3.symm
    · subst e2
      obtain ⟨es, kk, hmm⟩ := (h.maps mb seen e).1.map
      rcases hown.2 with ⟨rfl, _⟩ | ⟨g', cap, cur, rfl, _, hh, _⟩
      · cases hob
      · simp only [Value.ownBlock, Option.some.injEq] at hob
        subst hob
        rw [hmm] at hh
        cases hh
  have hcell : ∀ {c q : Nat} {G : List FD} (j : Nat), Bs[c]? = some (q, G) → w'.cell? ⟨q, j, none⟩ = w.cell? ⟨q, j, none⟩ := fun {c q G} j hc =>
    World.cell?_of_block (hg.block q (h.lt hc) fun e => h.off b p F i _ v q hb hi rfl hv e.symm c q G hc rfl)
  refine ⟨v, us, v', w', hv, row_slice hown, ⟨hR, hown.1⟩, hr, row_slice hown', h3, ⟨hown', fun k hk => ?_⟩, fun c q G j hc => hcell j hc, hF, hsharp, fun k hk => (hown.lt k (hol k hk)).2⟩
  rcases hsharp k hk with hold | hnew
  · refine ⟨fun c q G hc => ?_, fun c q G j fd v2 hc hj ho hv2 e => ?_, fun mb seen e e2 => ?_⟩
    · obtain ⟨G', hc', _⟩ := any_up (fo := FD.any) hb hc
      exact h.off b p F i _ v k hb hi rfl hv hold c q G' hc'
    · obtain ⟨G', hc', hx⟩ := any_up (fo := FD.any) hb hc
      obtain ⟨hj', hne⟩ := hx j fd hj ho
      rw [hcell j hc'] at hv2
      obtain ⟨e1, e3⟩ := h.apart b p F i _ v c q G' j fd v2 k hb hi rfl hv hc' hj' ho hv2 hold e
      rcases hne with hne | hne
      · exact hne e1.symm
      · exact hne e3.symm
    · subst e2
      obtain ⟨es, kk, hmm⟩ := (h.maps mb seen e).1.map
      rcases hown.2 with ⟨rfl, _⟩ | ⟨g', cap, cur, rfl, _, hh, _⟩
      · cases hold
      · simp only [Value.ownBlock, Option.some.injEq] at hold
        subst hold
        rw [hmm] at hh
        cases hh
  · refine ⟨fun c q G hc e => ?_, fun c q G j fd v2 hc hj ho hv2 e => ?_, fun mb seen e e2 => ?_⟩
    · obtain ⟨G', hc', _⟩ := any_up (fo := FD.any) hb hc
      have := h.lt hc'
      omega
    · obtain ⟨G', hc', hx⟩ := any_up (fo := FD.any) hb hc
      obtain ⟨hj', hne⟩ := hx j fd hj ho
      rw [hcell j hc'] at hv2
      obtain ⟨u, hu, hru⟩ := h.rel c q G' j fd hc' hj'
      rw [hv2] at hu
      cases hu
      have := (hru.lt ho k e).2
      omega
    · obtain ⟨es, kk, hmm⟩ := (h.maps mb seen e).1.map
      have := (Array.getElem?_eq_some_iff.1 hmm).1
      omega

/-- A row that is held outlives an append to a row of the bundle. -/
theorem Held.app {base size n : Nat} {e : TypeId} {v v2 : Value} {us : List Value} (h : Bn w0 C g m Bs Ms w) (hh : Held base Bs Ms e size n v us w) {b p i : Nat} {F : List FD} {fo : FD} (hb : Bs[b]? = some (p, F)) (hi : F[i]? = some fo) (ho : fo.isOwn = true) (hv2 : w.cell? ⟨p, i, none⟩ = some v2) (hf : Fs (ownList v2) w w')
    (hcell : ∀ (c q : Nat) (G : List FD) (j : Nat), Bs[c]? = some (q, G) → w'.cell? ⟨q, j, none⟩ = w.cell? ⟨q, j, none⟩) : Held base (Bs.set b (p, F.set i .any)) Ms e size n v us w' := by
  refine ⟨own_kept hh.1 fun k hk => hf.keep k (hh.1.lt k hk).2 fun hm => ?_, fun k hk => ?_⟩
  · have h2 := (hh.2 k hk).2.1 b p F i fo v2 hb hi ho hv2
    unfold ownList at hm
    cases hob : v2.ownBlock with
    | none => rw [hob] at hm; cases hm
    | some k0 =>
      rw [hob] at hm h2
      simp only [List.mem_singleton] at hm
      exact h2 (by rw [hm])
  · obtain ⟨h1, h2, h3⟩ := hh.2 k hk
    refine ⟨fun c q G hc => ?_, fun c q G j fd v3 hc hj ho' hv3 => ?_, h3⟩
    · obtain ⟨G', hc', _⟩ := any_up (fo := FD.any) hb hc
      exact h1 c q G' hc'
    · obtain ⟨G', hc', hx⟩ := any_up (fo := FD.any) hb hc
      rw [hcell c q G' j hc'] at hv3
      exact h2 c q G' j fd v3 hc' (hx j fd hj ho').1 ho' hv3

/-- A row that is held is stored. -/
theorem Bn.put (h : Bn w0 C g m Bs Ms w) {b p i e size n : Nat} {F : List FD} {fo : FD} {v : Value} {us : List Value} (hb : Bs[b]? = some (p, F)) (hi : F[i]? = some fo) (hh : Held w0.heap.size Bs Ms e size n v us w) (R : Value → List Value → Prop) (hR : R v us) :
    Bn w0 C g m (Bs.set b (p, F.set i (.own e size n R))) Ms (w.setCell ⟨p, i, none⟩ v) :=
  h.store hb hi (.own e size n R) v ⟨us, hh.1, hR⟩ fun _ k hk => ⟨(hh.2 k hk).1, fun c q G j fd' v' hc hj ho' hv' e => absurd e ((hh.2 k hk).2.1 c q G j fd' v' hc hj ho' hv')⟩

theorem Held.put {size n size2 n2 : Nat} {e e2 : TypeId} {v v2 : Value} {us2 : List Value} (h : Bn w0 C g m Bs Ms w) {b p i : Nat} {F : List FD} {fo : FD} (hb : Bs[b]? = some (p, F)) (hi : F[i]? = some fo) (hh : Held w0.heap.size Bs Ms e2 size2 n2 v2 us2 w) (R : Value → List Value → Prop)
    (hne : ∀ k, v.ownBlock = some k → v2.ownBlock ≠ some k) : Held w0.heap.size (Bs.set b (p, F.set i (.own e size n R))) Ms e2 size2 n2 v2 us2 (w.setCell ⟨p, i, none⟩ v) := by
  have hpk : ∀ k, v2.ownBlock = some k → k ≠ p := fun k hk e => (hh.2 k hk).1 b p F hb e.symm
  refine ⟨own_kept hh.1 fun k hk => Below.heap_setCell w _ _ k (hpk k hk), fun k hk => ?_⟩
  obtain ⟨h1, h2, h3⟩ := hh.2 k hk
  refine ⟨fun c q G hc => ?_, fun c q G j fd v3 hc hj ho' hv3 => ?_, h3⟩
  · rcases set_pair hb hc with ⟨rfl, rfl, rfl⟩ | ⟨_, hc'⟩
    · exact h1 _ _ F hb
    · exact h1 c q G hc'
  · rcases set_pair hb hc with ⟨rfl, rfl, rfl⟩ | ⟨hne', hc'⟩
    · rcases set_field hj with ⟨rfl, rfl⟩ | ⟨hne2, hj'⟩
      · obtain ⟨u, hu, _⟩ := h.rel _ _ F j fo hb hi
        rw [cell_same hu] at hv3
        cases hv3
        intro hx
        exact hne k hx hk
      · rw [cell_other_off (.inr (fun e => hne2 e.symm))] at hv3
        exact h2 _ _ F j fd v3 hb hj' ho' hv3
    · have hpq : p ≠ q := fun e => hne' (h.nodup c b q G F hc' (e ▸ hb))
      rw [cell_other_off (.inl hpq)] at hv3
      exact h2 c q G j fd v3 hc' hj ho' hv3

/-- The second of two appends in one statement, and both stores. -/
theorem Bn.second (h : Bn w0 C g m Bs Ms w) {b p i1 i e1 size1 n1 e size n : Nat} {R : Value → List Value → Prop} {F : List FD} {v1 : Value} {us1 : List Value} (hb : Bs[b]? = some (p, F)) (hi1 : F[i1]? = some .any) (hi : F[i]? = some (.own e size n R)) (hh : Held w0.heap.size Bs Ms e1 size1 n1 v1 us1 w)
    (t ty : TypeId) (ti : TypeInfo) (z : Value) (bytes : Nat)
    (ht : Try.prog.underlying t = some (.slice e)) (hti : Try.prog.info? e = some ti) (hz : ti.zero = some z) (hsize : ti.size = size) (hby : ti.bytes = bytes) (hzs : z.cells.size = size) (hsz : 0 < size)
    (a : Addr) (mm c : Nat) (news : List Value) (hl : news.length = mm * size) (hnews : ∀ j u, news[j]? = some u → w.cell? (a.add j) = some u) (h1 : ∀ u ∈ news, u.oneCell' = true)
    (h63 : n + mm ≤ maxLen) (hbytes : (n + mm) * bytes ≤ 140737488355328) :
    ∃ v us v' w', w.cell? ⟨p, i, none⟩ = some v ∧ (R v us ∧ us.length = n * size) ∧ (Builtin.append_ #[t, t] ty #[v, .slice (some a) mm c]).run Try.prog w = .ok v' w' ∧
      (∃ ao cap, v' = .slice ao (n + mm) cap) ∧ (∀ (c q : Nat) (G : List FD) (j : Nat), Bs[c]? = some (q, G) → w'.cell? ⟨q, j, none⟩ = w.cell? ⟨q, j, none⟩) ∧ (∀ j, w'.frozen? ⟨p, j, none⟩ = false) ∧
      ∀ (R1 R2 : Value → List Value → Prop) (n2 : Nat), n2 = n + mm → R1 v1 us1 → R2 v' (us ++ news) → Bn w0 C g m (Bs.set b (p, (F.set i1 (.own e1 size1 n1 R1)).set i (.own e size n2 R2))) Ms ((w'.setCell ⟨p, i1, none⟩ v1).setCell ⟨p, i, none⟩ v') := by
  obtain ⟨v, us, v', w', hv, _, hR, hrun, hsl, hB, hH, hcell, hF, hsharp, hlt⟩ := h.app hb hi t ty ti z bytes ht hti hz hsize hby hzs hsz a mm c news hl hnews h1 h63 hbytes
  have hbl : b < Bs.length := (List.getElem?_eq_some_iff.1 hb).1
  have hil : i < F.length := (List.getElem?_eq_some_iff.1 hi).1
  have hne : i ≠ i1 := by
    rintro rfl
    rw [hi] at hi1
    cases hi1
  have hb2 : (Bs.set b (p, F.set i FD.any))[b]? = some (p, F.set i FD.any) := by rw [List.getElem?_set_self hbl]
  have hH1 := hh.app h hb hi rfl hv hF hcell
  have hi1' : (F.set i FD.any)[i1]? = some .any := by rw [List.getElem?_set_ne hne]; exact hi1
  refine ⟨v, us, v', w', hv, hR, hrun, hsl, hcell, fun j => hB.frozen hb2 j, fun R1 R2 n2 hn2 hR1 hR2 => ?_⟩
  subst hn2
  have hap : ∀ k, v1.ownBlock = some k → v'.ownBlock ≠ some k := by
    intro k hk e
    rcases hsharp k e with hold | hnew
    · exact (hh.2 k hk).2.1 b p F i _ v hb hi rfl hv hold
    · have := (hh.1.lt k hk).2
      omega
  have hP := hB.put hb2 hi1' hH1 R1 hR1
  have hH2 := hH.put (e := e1) (size := size1) (n := n1) hB hb2 hi1' R1 hap
  have hb3 : ((Bs.set b (p, F.set i FD.any)).set b (p, (F.set i FD.any).set i1 (.own e1 size1 n1 R1)))[b]? = some (p, (F.set i FD.any).set i1 (.own e1 size1 n1 R1)) := by
    rw [List.getElem?_set_self (by simpa using hbl)]
  have hi3 : ((F.set i FD.any).set i1 (.own e1 size1 n1 R1))[i]? = some .any := by
    rw [List.getElem?_set_ne (fun e => hne e.symm), List.getElem?_set_self hil]
  have hP2 := hP.put hb3 hi3 hH2 R2 hR2
  have e : (((F.set i FD.any).set i1 (.own e1 size1 n1 R1)).set i (.own e size (n + mm) R2)) = (F.set i1 (.own e1 size1 n1 R1)).set i (.own e size (n + mm) R2) := by
    rw [List.set_comm _ _ hne, List.set_set]
  rw [e, List.set_set, List.set_set] at hP2
  exact hP2

end
end Go.Proofs.Ytopcljikkdlffaa
namespace Go.Proofs.Ytopcljikkdlffaa
open Go.RowKit

theorem Try.info143b : (Try.prog.info? 143).map (fun i => (i.zero, i.size, i.bytes)) = some (some (.int .u32 0), 1, 4) := by kernel_rfl

def ShowU4 (L : List Nat) (_ : Value) (us : List Value) : Prop := us = L.map fun n => Value.int .u32 (n : Nat)
theorem ShowU4.snoc {L : List Nat} {v v' : Value} {us : List Value} {n : Nat} (h : ShowU4 L v us) : ShowU4 (L ++ [n]) v' (us ++ [.int .u32 (n : Nat)]) := by
  unfold ShowU4 at *; rw [h]; simp
/-- Slices of the data. -/
def ShowW (C : Array Value) (g : Nat) (L : List (List UInt8)) (_ : Value) (us : List Value) : Prop := ∀ (j : Nat) (s : List UInt8), L[j]? = some s → ∃ u, us[j]? = some u ∧ VN C g u s
theorem ShowW.snoc {C : Array Value} {g : Nat} {L : List (List UInt8)} {v v' u : Value} {us : List Value} {s : List UInt8} (h : ShowW C g L v us) (hl : us.length = L.length) (hu : VN C g u s) : ShowW C g (L ++ [s]) v' (us ++ [u]) := by
  intro j t hj
  rcases Nat.lt_or_ge j L.length with hlt | hge
  · rw [List.getElem?_append_left hlt] at hj
    rw [List.getElem?_append_left (by omega)]
    exact h j t hj
  · rw [List.getElem?_append_right hge] at hj
    have h0 : j - L.length = 0 := by
      have := (List.getElem?_eq_some_iff.1 hj).1
      simp at this
      omega
    rw [h0] at hj
    simp only [List.getElem?_cons_zero, Option.some.injEq] at hj
    subst hj
    exact ⟨u, by rw [List.getElem?_append_right (by omega), hl, h0]; rfl, hu⟩

/-- The cells of a ClientHello of impl, with what the cell of the random shows. -/
def rV (C : Array Value) (g : Nat) (rnd : FD) (f : CH) : List FD := [.val (.int .u16 (f.vers : Nat)), rnd, .vn f.session, .own 35 1 f.suites.length (ShowU f.suites), .vn f.comps,
  .val (.string ⟨f.name.toArray⟩), .val (.bool f.ocsp), .own 35 1 f.curves.length (ShowU f.curves), .vn f.points, .val (.bool f.ticket), .vn f.tickets,
  .own 35 1 f.sigs.length (ShowU f.sigs), .own 35 1 f.sigsC.length (ShowU f.sigsC), .val (.bool f.srs), .vn f.sr, .val (.bool f.ems), .own 9 1 f.alpn.length (ShowT f.alpn), .val (.bool f.scts),
  .own 35 1 f.vers13.length (ShowU f.vers13), .vn f.cookie, .own 35 1 (f.shares.map (·.1)).length (ShowU (f.shares.map (·.1))), .own 22 1 (f.shares.map (·.2)).length (ShowW C g (f.shares.map (·.2))), .val (.bool f.early), .vn f.modes,
  .own 22 1 (f.psks.map (·.1)).length (ShowW C g (f.psks.map (·.1))), .own 143 1 (f.psks.map (·.2)).length (ShowU4 (f.psks.map (·.2))), .own 22 1 f.binders.length (ShowW C g f.binders),
  .val (.bool f.quic.isSome), .vn (f.quic.getD []), .vn f.ech, .own 35 1 f.exts.length (ShowU f.exts)]

/-- No row of a bundle is a reader, nor a list of extensions. -/
def ownOK (F : List FD) : Bool := F.all fun fd => match fd with
  | .own e _ _ _ => e != 80 && e != 85
  | _ => true

theorem rV_ok {C : Array Value} {g : Nat} {rnd : FD} {f : CH} (h : rnd.isOwn = false) : ownOK (rV C g rnd f) = true := by
  cases rnd <;> first | rfl | cases h

theorem ownOK_at {F : List FD} (h : ownOK F = true) {i e size n : Nat} {R : Value → List Value → Prop} (hi : F[i]? = some (.own e size n R)) : e ≠ 80 ∧ e ≠ 85 := by
  unfold ownOK at h
  rw [List.all_eq_true] at h
  have h1 := h _ (List.mem_of_getElem? hi)
  simpa using h1

/-- Readers and lists of extensions are untouched but for l. -/
structure Kt (l : List Nat) (w w' : World) : Prop where
  size : w.heap.size ≤ w'.heap.size
  keep : ∀ k, k ∉ l → (∃ (D : Array Value) (T : TypeId) (fr : Nat × Nat), w.heap[k]? = some (.cells D T fr) ∧ (T = 80 ∨ T = 85)) → w'.heap[k]? = w.heap[k]?

theorem Kt.refl (l : List Nat) (w : World) : Kt l w w := ⟨Nat.le_refl _, fun _ _ _ => rfl⟩
theorem Kt.trans {l : List Nat} {a b d : World} (h : Kt l a b) (k : Kt l b d) : Kt l a d := by
  refine ⟨Nat.le_trans h.size k.size, fun i hn hi => ?_⟩
  have h1 := h.keep i hn hi
  rw [← h1]
  refine k.keep i hn ?_
  rw [h1]
  exact hi
theorem Kt.mono {l l' : List Nat} {a b : World} (h : Kt l a b) (hl : ∀ x ∈ l, x ∈ l') : Kt l' a b := ⟨h.size, fun k hn hi => h.keep k (fun hm => hn (hl k hm)) hi⟩
theorem Fs.kt {l : List Nat} {a b : World} (h : Fs l a b) : Kt l a b := ⟨h.size, fun k hn ⟨_, _, _, hi, _⟩ => h.keep k (lt_of_heap hi) hn⟩
theorem Kt.setCell {l : List Nat} {a w : World} (h : Kt l a w) (m o : Nat) (u : Value) (hm : m ∈ l) : Kt l a (w.setCell ⟨m, o, none⟩ u) := h.trans ((Fs.refl l w).setCell m o u hm).kt
theorem Kt.alloc {l : List Nat} {a w : World} (h : Kt l a w) (o : Obj) : Kt l a (w.alloc o) := h.trans ((Fs.refl l w).push o).kt
/-- A block that is new is named for nothing. -/
theorem Kt.fresh {l : List Nat} {a b : World} {p : Nat} (h : Kt (p :: l) a b) (hp : a.heap.size ≤ p) : Kt l a b :=
  ⟨h.size, fun k hn ⟨D, T, fr, hi, ht⟩ => h.keep k (fun hm => by
    have := lt_of_heap hi
    rcases List.mem_cons.1 hm with e | e
    · omega
    · exact hn e) ⟨D, T, fr, hi, ht⟩⟩

theorem RAt.kt {w w' : World} {c g : Nat} {C : Array Value} {st : Nat × List UInt8} {l : List Nat} (h : RAt w c C g st) (hf : Kt l w w') (hc : c ∉ l) : RAt w' c C g st := by
  obtain ⟨v, hh, hv⟩ := h
  exact ⟨v, (hf.keep c hc ⟨_, _, _, hh, .inl rfl⟩).trans hh, hv⟩

section
variable {w0 w w' : World} {C : Array Value} {g m : Nat} {F : List FD}

/-- What a reader's functions do leaves the ClientHello alone. -/
theorem Bn.rd (h : Bn w0 C g m [(m, F)] none w) {l : List Nat} (hf : Fs l w w') (hl : ∀ p ∈ l, w0.heap.size ≤ p ∧ ∀ (D : Array Value) (T : TypeId) (fr : Nat × Nat), w.heap[p]? = some (.cells D T fr) → T = 80) (hm : m < w0.heap.size) (ho : ownOK F = true) : Bn w0 C g m [(m, F)] none w' := by
  refine h.other hf fun k hk => ⟨(hl k hk).1, fun c q G hc => ?_, fun c q G j fd v hc hj hfd hv e => ?_, fun b seen e => by cases e⟩
  · have := (hl k hk).1
    match c, hc with
    | 0, hc => cases hc; omega
  · match c, hc with
    | 0, hc =>
      cases hc
      obtain ⟨v', hv', hr⟩ := h.rel 0 m F j fd rfl hj
      rw [hv] at hv'
      cases hv'
      cases fd with
      | own e' size n R =>
        obtain ⟨us, h1, _⟩ := hr
        rcases h1.2 with ⟨rfl, _⟩ | ⟨p, cap, cur, rfl, _, hh, _⟩
        · cases e
        · simp only [Value.ownBlock, Option.some.injEq] at e
          subst e
          exact (ownOK_at ho hj).1 ((hl p hk).2 _ _ _ hh)
      | _ => cases hfd

theorem Bn.rd1 (h : Bn w0 C g m [(m, F)] none w) {x : Nat} {st : Nat × List UInt8} (hf : Fs [x] w w') (hx : w0.heap.size ≤ x) (hR : RAt w x C g st) (hm : m < w0.heap.size) (ho : ownOK F = true) : Bn w0 C g m [(m, F)] none w' :=
  h.rd hf (fun p hp => by
    simp only [List.mem_singleton] at hp
    subst hp
    refine ⟨hx, fun D T fr hh => ?_⟩
    obtain ⟨v, hh', _⟩ := hR
    rw [hh'] at hh
    cases hh
    rfl) hm ho

theorem Bn.rd2 (h : Bn w0 C g m [(m, F)] none w) {x y : Nat} {st sy : Nat × List UInt8} (hf : Fs [x, y] w w') (hx : w0.heap.size ≤ x) (hR : RAt w x C g st) (hy : w0.heap.size ≤ y) (hP : RAt w y C g sy) (hm : m < w0.heap.size) (ho : ownOK F = true) : Bn w0 C g m [(m, F)] none w' :=
  h.rd hf (fun p hp => by
    simp only [List.mem_cons, List.not_mem_nil, or_false] at hp
    rcases hp with rfl | rfl
    · refine ⟨hx, fun D T fr hh => ?_⟩
      obtain ⟨v, hh', _⟩ := hR
      rw [hh'] at hh
      cases hh
      rfl
    · refine ⟨hy, fun D T fr hh => ?_⟩
      obtain ⟨v, hh', _⟩ := hP
      rw [hh'] at hh
      cases hh
      rfl) hm ho

theorem Bn.gne (h : Bn w0 C g m [(m, F)] none w) {x : Nat} (hx : w0.heap.size ≤ x) : g ≠ x := by have := h.gl; omega
theorem Bn.mlt (h : Bn w0 C g m [(m, F)] none w) {p i : Nat} {v : Value} (hv : w.cell? ⟨p, i, none⟩ = some v) : p < w.heap.size := World.block_lt_of_cell? w _ hv

/-- A new row is stored in the ClientHello. -/
theorem Bn.newrow {w1 w2 : World} (h1 : Bn w0 C g m [(m, F)] none w1) (h2 : Bn w0 C g m [(m, F)] none w2) (hc : w2.heap[m]? = w1.heap[m]?) {e size n i : Nat} {v : Value} {us : List Value} {fo : FD} (ho : w2.ownsRow w1.heap.size e size v n us) (hi : F[i]? = some fo) (R : Value → List Value → Prop) (hR : R v us) :
    Bn w0 C g m [(m, F.set i (.own e size n R))] none (w2.setCell ⟨m, i, none⟩ v) := by
  have hb : w0.heap.size ≤ w1.heap.size := h1.fs.size
  have h3 : FRel w2 w0.heap.size C g (.own e size n R) v := FRel.mono (base' := w1.heap.size) ⟨us, ho, hR⟩ hb
  obtain ⟨us', ho', hR'⟩ := h3
  have hm1 := h1.lt (b := 0) rfl
  refine h2.store (b := 0) rfl hi (.own e size n R) v ⟨us', ho', hR'⟩ fun _ k hk => ?_
  have hk1 := (ho.lt k hk).1
  refine ⟨fun c q G hcq => ?_, fun c q G j fd' v' hcq hj ho2 hv' hk' => ?_⟩
  · match c, hcq with
    | 0, hcq => cases hcq; omega
  · match c, hcq with
    | 0, hcq =>
      cases hcq
      rw [World.cell?_of_block hc] at hv'
      obtain ⟨v2, hv2, hr⟩ := h1.rel 0 m F j fd' rfl hj
      rw [hv'] at hv2
      cases hv2
      have := (hr.lt ho2 k hk').2
      omega

end

/-- What an extension leaves. -/
def CxPost (w0 w : World) (C : Array Value) (g m x : Nat) (rnd : FD) (r : CH × (Nat × List UInt8)) (e : Ending) (w' : World) : Prop :=
  e = .returned (.tuple #[]) ∧ Bn w0 C g m [(m, rV C g rnd r.1)] none w' ∧ RAt w' x C g r.2 ∧ Kt [m, x] w w'

/-- What an extension starts from. -/
structure Cx (w0 w : World) (C : Array Value) (g m x : Nat) (rnd : FD) (f : CH) (st : Nat × List UInt8) : Prop where
  hx : w0.heap.size ≤ x
  hm : m < w0.heap.size
  hr : rnd.isOwn = false
  hb : Bn w0 C g m [(m, rV C g rnd f)] none w
  ra : RAt w x C g st
  len : st.2.length ≤ 65535
  s1 : f.shares.length ≤ 4294967296
  s2 : f.psks.length ≤ 4294967296

end Go.Proofs.Ytopcljikkdlffaa
