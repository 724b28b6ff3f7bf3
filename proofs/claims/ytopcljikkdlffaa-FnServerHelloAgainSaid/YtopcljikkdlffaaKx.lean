/- ServerKeyExchange and ClientKeyExchange: made and read. No statement of the seat is proved here. -/
import Derived.Test.YtopcljikkdlffaaSm
import Derived.Laws.OwnMore
namespace Go.Proofs.Ytopcljikkdlffaa
open Go.RowKit

/-- A row of bytes is made. -/
theorem make_row (w : World) (n : Nat) (h : n ≤ 281474976710656) : (Instr.makeSlice 22 (.int .i64 n) (.int .i64 n)).run Try.prog w = .ok (.slice (some ⟨w.heap.size, 0, none⟩) n n) (w.alloc (.cells (List.replicate n (Value.int .u8 0)).toArray 5)) := by
  obtain ⟨i0, hi, hz0, hz1, hz2⟩ := info_parts Try.info5
  rw [run_make w _ 5 i0 _ Try.underlying22 hi hz0 .i64 .i64 n n (by omega) (by omega) (by rw [hz2]; omega) (by omega)]
  have e : madeCells (Value.int IntKind.u8 0).cells ((n : Int).toNat * i0.size) = (List.replicate n (Value.int .u8 0)).toArray := by
    rw [hz1, Int.toNat_natCast, Nat.mul_one]
    refine Array.ext (by simp [madeCells]) fun i h1 h2 => ?_
    simp [madeCells, Value.cells, Nat.mod_one]
  rw [e, Int.toNat_natCast]

/-- A copy over a row, as one operation. -/
theorem wp_copy {P : Program} {o : Oper} {a : Act} {w : World} {K : Act → World → Prop} {Q : Exit → Act → World → Prop} (hgd : o.guard = none) (d s : Operand) (dT sT : TypeId)
    (ho : o.op = .call { callee := .builtin .copy, args := #[d, s], argTypes := #[dT, sT] }) (elem : TypeId) (hu : P.underlying dT = some (.slice elem)) (hsz : (P.info? elem).map (·.size) = some 1)
    (dp sp : Option Addr) (dLen dCap sLen sCap : Nat) (hd : a.eval d = .slice dp dLen dCap) (hs : a.eval s = .slice sp sLen sCap)
    (g off : Nat) (cur : List Value) (t : TypeId) (hg : w.heap[g]? = some (.cells cur.toArray t (0, 0))) (cs : List Value) (hn : cs.length = Nat.min sLen dLen)
    (hpos : 0 < cs.length → dp = some ⟨g, off, none⟩ ∧ ∃ ad, sp = some ad ∧ ∀ j v, cs[j]? = some v → w.cell? (ad.add j) = some v)
    (hfit : off + cs.length ≤ cur.length) (h1 : ∀ v ∈ cs, v.oneCell' = true) (B : Nat) (w0 : World) (hb : Below B w0 w) (hBg : B ≤ g)
    (h : ∀ w', Hid (w'.heap[g]? = some (.cells (splice cur off cs).toArray t (0, 0))) → Below B w0 w' → K (a.put o.dst (goInt cs.length)) w') : o.wp P a w K Q := by
  have h2 := step_copy_splice (P := P) (ops := #[]) (E := False) (Q := Q) hgd d s dT sT ho elem hu hsz dp sp dLen dCap sLen sCap hd hs g off cur t hg cs hn hpos hfit h1 B w0 hb hBg h
  rwa [if_pos (by simp [Region.wanted, hgd])] at h2

set_option maxRecDepth 100000 in
set_option maxHeartbeats 1000000 in
theorem skx_marshal {m : Nat} {s : List UInt8} {u : Value} (w : World) (hm : w.heap[m]? = some (.cells #[u] 114 (0, 0))) (hs : SrcB w w.heap.size u s) (hl : s.length ≤ 2147483647) :
    Calls Try.prog 74 #[.pointer (some ⟨m, 0, none⟩)] w fun e w' => ∃ v, e = .returned (.tuple #[v, .nilIface]) ∧
      w'.ownsRow w.heap.size 5 1 v (s.length + 4) ((en 1 12 ++ en 3 s.length ++ s).map by8) ∧ Below w.heap.size w w' := by
  obtain ⟨ad0, cap0, rfl⟩ := hs.len
  have f0 : w.cell? ⟨m, 0, none⟩ = some (.slice ad0 s.length cap0) := by rw [cell_of_heap hm]; rfl
  have HS := Lib.hid hs
  have HM := Lib.hid hm
  clear hs hm
  obtain ⟨L, hL⟩ : ∃ L, L = List.replicate s.length (Value.int .u8 0) := ⟨_, rfl⟩
  have hmk := make_row w (s.length + 4) (by omega)
  rw [show List.replicate (s.length + 4) (Value.int .u8 0) = .int .u8 0 :: .int .u8 0 :: .int .u8 0 :: .int .u8 0 :: L by rw [hL]; rfl, show ((s.length + 4 : Nat) : Int) = (s.length : Int) + 4 by omega] at hmk
  have HL := Lib.hid hL
  clear hL
  go_enter Try.func74, Try.ntmps74
  go_wp2_with fail
  have hbel : Below w.heap.size w (w.alloc (.cells (Value.int IntKind.u8 12 :: Value.int IntKind.u8 (↑s.length / 65536 % 256) :: Value.int IntKind.u8 (↑s.length / 256 % 256) :: Value.int IntKind.u8 (↑s.length % 256) :: L).toArray 5)).drew := ((Below.refl _ w).alloc (Nat.le_refl _) _).drew
  have HBE := Lib.hid hbel
  have hgg : (w.alloc (.cells (Value.int IntKind.u8 12 :: Value.int IntKind.u8 (↑s.length / 65536 % 256) :: Value.int IntKind.u8 (↑s.length / 256 % 256) :: Value.int IntKind.u8 (↑s.length % 256) :: L).toArray 5)).drew.heap[w.heap.size]? = _ := heap_alloc_new _ _
  have HGG := Lib.hid hgg
  have fm : (w.alloc (.cells (Value.int IntKind.u8 12 :: Value.int IntKind.u8 (↑s.length / 65536 % 256) :: Value.int IntKind.u8 (↑s.length / 256 % 256) :: Value.int IntKind.u8 (↑s.length % 256) :: L).toArray 5)).drew.cell? ⟨m, 0, none⟩ = some (.slice ad0 s.length cap0) := by
    show World.cell? (w.alloc _) _ = _
    rw [World.cell?_alloc_lt _ _ _ (lt_of_heap HM.out)]; exact f0
  have HS1 := Lib.hid (HS.out.below hbel)
  clear hbel hgg hmk
  have h4 : (4 : Int) ≤ (s.length : Int) + 4 := by omega
  refine region_ord [(0, true), (1, true), (2, true), (3, true), (4, true), (5, true), (6, false)] (fun w' => w'.cell? ⟨m, 0, none⟩ = some (.slice ad0 s.length cap0)) mixed (by kernel_rfl) (by kernel_rfl) rfl (by intro c a d v w h; cases d <;> exact h) fm ?_
  iterate 6 (apply wpOrd_pure rfl rfl; apply Exists.intro; refine ⟨fun w' hS => ?_, ?_⟩; (· (first | (go_simp; done) | (go_simp; with_reducible rfl))); simp only [List.getElem_toArray, List.getElem_cons_succ, List.getElem_cons_zero, Act.put, List.setIfInBounds_toArray, List.set_cons_zero, List.set_cons_succ])
  refine wpOrd_run rfl rfl (fun K hK => ?_)
  simp only [List.getElem_toArray, List.getElem_cons_succ, List.getElem_cons_zero]
  refine wp_copy rfl (.tmp 31) (.tmp 35) 22 22 rfl 5 Try.underlying22 (by kernel_rfl) _ _ _ _ _ _ rfl rfl w.heap.size 4 _ _ HGG.out (s.map by8) ?_ ?_ ?_ ?_ w.heap.size w HBE.out (Nat.le_refl _) ?_
  · simp
  · intro hp
    have hne : s ≠ [] := by rintro rfl; simp at hp
    refine ⟨by simp [hne], ?_⟩
    rcases HS1.out with ⟨e, rfl⟩ | ⟨ad, capx, e, hlt, hnews⟩
    · exact (hne rfl).elim
    · simp only [Value.slice.injEq] at e
      obtain ⟨rfl, _, rfl⟩ := e
      exact ⟨ad, rfl, hnews⟩
  · have hLL : L.length = s.length := by rw [HL.out]; simp
    simp [hLL]
    omega
  · intro u hu
    obtain ⟨b, _, rfl⟩ := List.mem_map.1 hu
    rfl
  intro w' hg' hb'
  refine hK _ _ (fun _ => (hb'.cell (p := ⟨m, 0, none⟩) (lt_of_heap HM.out)).trans f0) ?_
  generalize (if s = [] then some (⟨w.heap.size, 0, none⟩ : Addr) else some ⟨w.heap.size, 4, none⟩) = dp
  refine wpOrd_nil ?_
  have HG' := Lib.hid hg'
  have HB' := Lib.hid hb'
  clear hK K hg' hb' fm
  go_wp2_with fail
  go_ret2
  refine ⟨_, rfl, ⟨by simp [en_length]; omega, .inr ⟨w.heap.size, s.length + 4, _, rfl, Nat.le_refl _, HG'.out.out, by omega, by unfold maxLen; omega, ?_, ?_⟩⟩, HB'.out⟩
  · have hLL : L.length = s.length := by rw [HL.out]; simp
    rw [List.size_toArray, length_splice _ _ _ (by simp [hLL]; omega)]
    simp [hLL]
  · have hLL : L.length = s.length := by rw [HL.out]; simp
    rw [en1, en3, Nat.mul_one]
    have e1 : by8 (UInt8.ofNat 12) = .int .u8 12 := rfl
    have e2 : by8 (UInt8.ofNat (s.length / 65536)) = .int .u8 (↑s.length / 65536 % 256) := by8_int (by simp)
    have e3 : by8 (UInt8.ofNat (s.length / 256)) = .int .u8 (↑s.length / 256 % 256) := by8_int (by simp)
    have e4 : by8 (UInt8.ofNat s.length) = .int .u8 (↑s.length % 256) := by8_int (by simp)
    have e5 : splice (Value.int IntKind.u8 12 :: Value.int IntKind.u8 (↑s.length / 65536 % 256) :: Value.int IntKind.u8 (↑s.length / 256 % 256) :: Value.int IntKind.u8 (↑s.length % 256) :: L) 4 (s.map by8) = (([UInt8.ofNat 12] ++ [UInt8.ofNat (s.length / 65536), UInt8.ofNat (s.length / 256), UInt8.ofNat s.length] ++ s).map by8) := by
      simp only [splice, List.length_map, List.map_append, List.map_cons, List.map_nil, e1, e2, e3, e4]
      rw [List.drop_eq_nil_of_le (by simp [hLL]; omega)]
      simp
    show (splice _ 4 _).take _ = _
    rw [e5, List.take_of_length_le (by simp)]

set_option maxRecDepth 100000 in
set_option maxHeartbeats 400000 in
theorem skx_tls {s : List UInt8} {u : Value} (w : World) (hs : SrcB w w.heap.size u s) (hl : s.length ≤ 2147483647) :
    Calls Try.prog 38 #[u] w fun e w' => ∃ v, e = .returned (.tuple #[v, .nilIface]) ∧ w'.ownsRow w.heap.size 5 1 v (s.length + 4) ((en 1 12 ++ en 3 s.length ++ s).map by8) ∧ Below w.heap.size w w' := by
  obtain ⟨ad0, cap0, rfl⟩ := hs.len
  have HS := Lib.hid (hs.keep (w' := w.alloc (.cells #[.slice ad0 s.length cap0] 114)) (base' := (w.alloc (.cells #[.slice ad0 s.length cap0] 114)).heap.size) (by simp) (fun k hk => Below.heap_alloc _ _ _ hk))
  clear hs
  go_enter Try.func38, Try.ntmps38
  go_wp2_with fail
  refine (skx_marshal (m := w.heap.size) _ (heap_alloc_new _ _) HS.out hl).mono ?_
  rintro e w1 ⟨v, rfl, hown, hbel⟩
  have HO := Lib.hid hown
  have HB := Lib.hid hbel
  clear hown hbel
  go_wp2_with fail
  go_ret2
  exact ⟨v, rfl, ownsRow_mono HO.out (by simp), ((Below.refl _ w).alloc (Nat.le_refl _) _).trans (HB.out.mono (by simp))⟩

set_option maxRecDepth 100000 in
set_option maxHeartbeats 400000 in
theorem skx_impl {s : List UInt8} {u : Value} (w : World) (hs : SrcB w w.heap.size u s) (hl : s.length ≤ 2147483647) :
    Calls Try.prog 13 #[u] w fun e w' => ∃ v, e = .returned (.tuple #[v, .bool true]) ∧ w'.ownsRow w.heap.size 5 1 v (s.length + 4) ((en 1 12 ++ en 3 s.length ++ s).map by8) ∧ Below w.heap.size w w' := by
  have HS := Lib.hid hs
  clear hs
  go_enter Try.func13, Try.ntmps13
  go_wp2_with fail
  refine (skx_tls w HS.out hl).mono ?_
  rintro e w1 ⟨v, rfl, hown, hbel⟩
  have HO := Lib.hid hown
  have HB := Lib.hid hbel
  clear hown hbel
  go_wp2_with fail
  go_quiet (fail)
  go_wp2_with fail
  go_ret2
  exact ⟨v, rfl, HO.out, Below_drewN HB.out nq⟩

set_option maxRecDepth 100000 in
set_option maxHeartbeats 1000000 in
theorem ckx_marshal {m : Nat} {s : List UInt8} {u : Value} (w : World) (hm : w.heap[m]? = some (.cells #[u] 118 (0, 0))) (hs : SrcB w w.heap.size u s) (hl : s.length ≤ 2147483647) :
    Calls Try.prog 76 #[.pointer (some ⟨m, 0, none⟩)] w fun e w' => ∃ v, e = .returned (.tuple #[v, .nilIface]) ∧
      w'.ownsRow w.heap.size 5 1 v (s.length + 4) ((en 1 16 ++ en 3 s.length ++ s).map by8) ∧ Below w.heap.size w w' := by
  obtain ⟨ad0, cap0, rfl⟩ := hs.len
  have f0 : w.cell? ⟨m, 0, none⟩ = some (.slice ad0 s.length cap0) := by rw [cell_of_heap hm]; rfl
  have HS := Lib.hid hs
  have HM := Lib.hid hm
  clear hs hm
  obtain ⟨L, hL⟩ : ∃ L, L = List.replicate s.length (Value.int .u8 0) := ⟨_, rfl⟩
  have hmk := make_row w (s.length + 4) (by omega)
  rw [show List.replicate (s.length + 4) (Value.int .u8 0) = .int .u8 0 :: .int .u8 0 :: .int .u8 0 :: .int .u8 0 :: L by rw [hL]; rfl, show ((s.length + 4 : Nat) : Int) = (s.length : Int) + 4 by omega] at hmk
  have HL := Lib.hid hL
  clear hL
  go_enter Try.func76, Try.ntmps76
  go_wp2_with fail
  have hbel : Below w.heap.size w (w.alloc (.cells (Value.int IntKind.u8 16 :: Value.int IntKind.u8 (↑s.length / 65536 % 256) :: Value.int IntKind.u8 (↑s.length / 256 % 256) :: Value.int IntKind.u8 (↑s.length % 256) :: L).toArray 5)).drew := ((Below.refl _ w).alloc (Nat.le_refl _) _).drew
  have HBE := Lib.hid hbel
  have hgg : (w.alloc (.cells (Value.int IntKind.u8 16 :: Value.int IntKind.u8 (↑s.length / 65536 % 256) :: Value.int IntKind.u8 (↑s.length / 256 % 256) :: Value.int IntKind.u8 (↑s.length % 256) :: L).toArray 5)).drew.heap[w.heap.size]? = _ := heap_alloc_new _ _
  have HGG := Lib.hid hgg
  have fm : (w.alloc (.cells (Value.int IntKind.u8 16 :: Value.int IntKind.u8 (↑s.length / 65536 % 256) :: Value.int IntKind.u8 (↑s.length / 256 % 256) :: Value.int IntKind.u8 (↑s.length % 256) :: L).toArray 5)).drew.cell? ⟨m, 0, none⟩ = some (.slice ad0 s.length cap0) := by
    show World.cell? (w.alloc _) _ = _
    rw [World.cell?_alloc_lt _ _ _ (lt_of_heap HM.out)]; exact f0
  have HS1 := Lib.hid (HS.out.below hbel)
  clear hbel hgg hmk
  have h4 : (4 : Int) ≤ (s.length : Int) + 4 := by omega
  refine region_ord [(0, true), (1, true), (2, true), (3, true), (4, true), (5, true), (6, false)] (fun w' => w'.cell? ⟨m, 0, none⟩ = some (.slice ad0 s.length cap0)) mixed (by kernel_rfl) (by kernel_rfl) rfl (by intro c a d v w h; cases d <;> exact h) fm ?_
  iterate 6 (apply wpOrd_pure rfl rfl; apply Exists.intro; refine ⟨fun w' hS => ?_, ?_⟩; (· (first | (go_simp; done) | (go_simp; with_reducible rfl))); simp only [List.getElem_toArray, List.getElem_cons_succ, List.getElem_cons_zero, Act.put, List.setIfInBounds_toArray, List.set_cons_zero, List.set_cons_succ])
  refine wpOrd_run rfl rfl (fun K hK => ?_)
  simp only [List.getElem_toArray, List.getElem_cons_succ, List.getElem_cons_zero]
  refine wp_copy rfl (.tmp 31) (.tmp 35) 22 22 rfl 5 Try.underlying22 (by kernel_rfl) _ _ _ _ _ _ rfl rfl w.heap.size 4 _ _ HGG.out (s.map by8) ?_ ?_ ?_ ?_ w.heap.size w HBE.out (Nat.le_refl _) ?_
  · simp
  · intro hp
    have hne : s ≠ [] := by rintro rfl; simp at hp
    refine ⟨by simp [hne], ?_⟩
    rcases HS1.out with ⟨e, rfl⟩ | ⟨ad, capx, e, hlt, hnews⟩
    · exact (hne rfl).elim
    · simp only [Value.slice.injEq] at e
      obtain ⟨rfl, _, rfl⟩ := e
      exact ⟨ad, rfl, hnews⟩
  · have hLL : L.length = s.length := by rw [HL.out]; simp
    simp [hLL]
    omega
  · intro u hu
    obtain ⟨b, _, rfl⟩ := List.mem_map.1 hu
    rfl
  intro w' hg' hb'
  refine hK _ _ (fun _ => (hb'.cell (p := ⟨m, 0, none⟩) (lt_of_heap HM.out)).trans f0) ?_
  generalize (if s = [] then some (⟨w.heap.size, 0, none⟩ : Addr) else some ⟨w.heap.size, 4, none⟩) = dp
  refine wpOrd_nil ?_
  have HG' := Lib.hid hg'
  have HB' := Lib.hid hb'
  clear hK K hg' hb' fm
  go_wp2_with fail
  go_ret2
  refine ⟨_, rfl, ⟨by simp [en_length]; omega, .inr ⟨w.heap.size, s.length + 4, _, rfl, Nat.le_refl _, HG'.out.out, by omega, by unfold maxLen; omega, ?_, ?_⟩⟩, HB'.out⟩
  · have hLL : L.length = s.length := by rw [HL.out]; simp
    rw [List.size_toArray, length_splice _ _ _ (by simp [hLL]; omega)]
    simp [hLL]
  · have hLL : L.length = s.length := by rw [HL.out]; simp
    rw [en1, en3, Nat.mul_one]
    have e1 : by8 (UInt8.ofNat 16) = .int .u8 16 := rfl
    have e2 : by8 (UInt8.ofNat (s.length / 65536)) = .int .u8 (↑s.length / 65536 % 256) := by8_int (by simp)
    have e3 : by8 (UInt8.ofNat (s.length / 256)) = .int .u8 (↑s.length / 256 % 256) := by8_int (by simp)
    have e4 : by8 (UInt8.ofNat s.length) = .int .u8 (↑s.length % 256) := by8_int (by simp)
    have e5 : splice (Value.int IntKind.u8 16 :: Value.int IntKind.u8 (↑s.length / 65536 % 256) :: Value.int IntKind.u8 (↑s.length / 256 % 256) :: Value.int IntKind.u8 (↑s.length % 256) :: L) 4 (s.map by8) = (([UInt8.ofNat 16] ++ [UInt8.ofNat (s.length / 65536), UInt8.ofNat (s.length / 256), UInt8.ofNat s.length] ++ s).map by8) := by
      simp only [splice, List.length_map, List.map_append, List.map_cons, List.map_nil, e1, e2, e3, e4]
      rw [List.drop_eq_nil_of_le (by simp [hLL]; omega)]
      simp
    show (splice _ 4 _).take _ = _
    rw [e5, List.take_of_length_le (by simp)]

set_option maxRecDepth 100000 in
set_option maxHeartbeats 400000 in
theorem ckx_tls {s : List UInt8} {u : Value} (w : World) (hs : SrcB w w.heap.size u s) (hl : s.length ≤ 2147483647) :
    Calls Try.prog 41 #[u] w fun e w' => ∃ v, e = .returned (.tuple #[v, .nilIface]) ∧ w'.ownsRow w.heap.size 5 1 v (s.length + 4) ((en 1 16 ++ en 3 s.length ++ s).map by8) ∧ Below w.heap.size w w' := by
  obtain ⟨ad0, cap0, rfl⟩ := hs.len
  have HS := Lib.hid (hs.keep (w' := w.alloc (.cells #[.slice ad0 s.length cap0] 118)) (base' := (w.alloc (.cells #[.slice ad0 s.length cap0] 118)).heap.size) (by simp) (fun k hk => Below.heap_alloc _ _ _ hk))
  clear hs
  go_enter Try.func41, Try.ntmps41
  go_wp2_with fail
  refine (ckx_marshal (m := w.heap.size) _ (heap_alloc_new _ _) HS.out hl).mono ?_
  rintro e w1 ⟨v, rfl, hown, hbel⟩
  have HO := Lib.hid hown
  have HB := Lib.hid hbel
  clear hown hbel
  go_wp2_with fail
  go_ret2
  exact ⟨v, rfl, ownsRow_mono HO.out (by simp), ((Below.refl _ w).alloc (Nat.le_refl _) _).trans (HB.out.mono (by simp))⟩

set_option maxRecDepth 100000 in
set_option maxHeartbeats 400000 in
theorem ckx_impl {s : List UInt8} {u : Value} (w : World) (hs : SrcB w w.heap.size u s) (hl : s.length ≤ 2147483647) :
    Calls Try.prog 16 #[u] w fun e w' => ∃ v, e = .returned (.tuple #[v, .bool true]) ∧ w'.ownsRow w.heap.size 5 1 v (s.length + 4) ((en 1 16 ++ en 3 s.length ++ s).map by8) ∧ Below w.heap.size w w' := by
  have HS := Lib.hid hs
  clear hs
  go_enter Try.func16, Try.ntmps16
  go_wp2_with fail
  refine (ckx_tls w HS.out hl).mono ?_
  rintro e w1 ⟨v, rfl, hown, hbel⟩
  have HO := Lib.hid hown
  have HB := Lib.hid hbel
  clear hown hbel
  go_wp2_with fail
  go_quiet (fail)
  go_wp2_with fail
  go_ret2
  exact ⟨v, rfl, HO.out, Below_drewN HB.out nq⟩

end Go.Proofs.Ytopcljikkdlffaa
