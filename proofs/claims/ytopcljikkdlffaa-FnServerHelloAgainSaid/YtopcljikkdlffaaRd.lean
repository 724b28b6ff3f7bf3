/- Contracts of cryptobyte.String's readers: what each call leaves in the reader's cell. No statement of the seat is proved here. -/
import Derived.Test.YtopcljikkdlffaaBase
namespace Go.Proofs.Ytopcljikkdlffaa
open Go.RowKit

set_option maxHeartbeats 400000 in
theorem read_yes {C : Array Value} {db : Nat} {v : Value} {bs a r : List UInt8} (p : Addr) (n : Int) (w : World) (h0 : 0 ≤ n) (hr : rd n.toNat bs = some (a, r)) (hV : View C db v bs)
    (hp : w.cell? p = some v) (hf : w.frozen? p = false) :
    Calls Try.prog 140 #[.pointer (some p), .int .i64 n] w fun e w' => ∃ v1 v2, e = .returned v1 ∧ View C db v1 a ∧ View C db v2 r ∧ w' = w.setCell p v2 := by
  obtain ⟨off, cap, rfl, hc, hm, hcell⟩ := hV
  obtain ⟨k, rfl⟩ := Int.eq_ofNat_of_zero_le h0
  rw [Int.toNat_natCast] at hr
  obtain ⟨ha, hr', hk⟩ : a = bs.take k ∧ r = bs.drop k ∧ k ≤ bs.length := by
    unfold rd at hr
    split at hr
    · rename_i hk
      simp only [Option.some.injEq, Prod.mk.injEq] at hr
      exact ⟨hr.1.symm, hr.2.symm, hk⟩
    · cases hr
  subst ha; subst hr'
  have hm' : cap ≤ 9223372036854775807 := hm
  have V1 := View.take (db := db) k hk hc hm hcell
  have V2 := View.drop (db := db) k hk hc hm hcell
  have V3 : k = bs.length → View C db (.slice (some ⟨db, off, none⟩) 0 0) (bs.drop k) := fun h => View.dropAll k h
  have R := Lib.hid (And.intro V1 (And.intro V2 V3))
  clear V1 V2 V3 hcell hm hr
  by_cases hkc : k = cap
  · go_enter Try.func140, Try.ntmps140
    go_wp2
    go_ret
    exact ⟨_, _, rfl, hkc ▸ R.out.1, R.out.2.2 (by omega), rfl⟩
  · go_enter Try.func140, Try.ntmps140
    go_wp2
    go_ret
    exact ⟨_, _, rfl, R.out.1, R.out.2.1, rfl⟩

set_option maxHeartbeats 400000 in
/-- Too few bytes: nil, and nothing has turned. -/
theorem read_no {ao : Option Addr} {len cap : Nat} (p : Addr) (n : Int) (w : World) (h0 : 0 ≤ n) (hn : len < n) (_hl : len ≤ 9223372036854775807)
    (hp : w.cell? p = some (.slice ao len cap)) :
    Calls Try.prog 140 #[.pointer (some p), .int .i64 n] w fun e w' => e = .returned (.slice none 0 0) ∧ w = w' := by
  obtain ⟨k, rfl⟩ := Int.eq_ofNat_of_zero_le h0
  have hk : len < k := by omega
  go_enter Try.func140, Try.ntmps140
  go_wp2
  go_ret
  exact ⟨rfl, rfl⟩

theorem read_none {C : Array Value} {db : Nat} {v : Value} {bs : List UInt8} (p : Addr) (n : Int) (w : World) (h0 : 0 ≤ n) (hr : rd n.toNat bs = none) (hV : View C db v bs)
    (hp : w.cell? p = some v) :
    Calls Try.prog 140 #[.pointer (some p), .int .i64 n] w fun e w' => e = .returned (.slice none 0 0) ∧ w = w' := by
  obtain ⟨off, cap, rfl, hl⟩ := hV.slice
  have := rd_none hr
  exact read_no p n w h0 (by omega) hl hp

theorem rdv_cases {k : Nat} {s x r : List UInt8} (h : rdv k s = some (x, r)) : ∃ a r1, rd k s = some (a, r1) ∧ rd (be a) r1 = some (x, r) ∧ a.length = k ∧ be a < 256 ^ k := by
  unfold rdv at h
  split at h
  · rename_i a r1 h1
    have := (rd_some h1).2
    have hl := be_lt a
    rw [this] at hl
    exact ⟨a, r1, h1, h, this, hl⟩
  · cases h

theorem rdv_none {k : Nat} {s : List UInt8} (h : rdv k s = none) : rd k s = none ∨ ∃ a r1, rd k s = some (a, r1) ∧ rd (be a) r1 = none ∧ a.length = k ∧ be a < 256 ^ k := by
  unfold rdv at h
  split at h
  · rename_i a r1 h1
    have := (rd_some h1).2
    have hl := be_lt a
    rw [this] at hl
    exact .inr ⟨a, r1, h1, h, this, hl⟩
  · rename_i h1
    exact .inl h1

/-- One round of the loop over a length's bytes. -/
theorem be_round {a : List UInt8} {j k : Nat} (ha : a.length = k) (hk : k ≤ 3) (hj : j < k) :
    bits BinOp.or IntKind.u32 ((((be (a.take j) : Nat) : Int) * 256) % 4294967296) ((((a[j]?.getD 0).toNat : Int)) % 4294967296) = ((be (a.take (j + 1)) : Nat) : Int) := by
  have hja : j < a.length := by omega
  have hlt : be (a.take j) < 16777216 := by
    have h1 := be_lt (a.take j)
    have h2 : (a.take j).length ≤ 3 := by simp; omega
    have h3 := pow256_le h2
    omega
  have e3 : a.take (j + 1) = a.take j ++ [a.getD j 0] := by
    rw [List.take_succ_eq_append_getElem hja]; simp [hja]
  have e4 : a[j]?.getD 0 = a.getD j 0 := by simp
  rw [e4, u32_step _ _ hlt, e3, be_snoc]

set_option maxRecDepth 100000 in
set_option maxHeartbeats 800000 in
theorem rlp_yes {C : Array Value} {db : Nat} {T : TypeId} {fr : Nat × Nat} {v vq : Value} {bs x r : List UInt8} (p q : Addr) (k : Int) (w : World) (hk : 1 ≤ k ∧ k ≤ 3) (hr : rdv k.toNat bs = some (x, r))
    (hD : w.heap[db]? = some (.cells C T fr)) (hV : View C db v bs) (hp : w.cell? p = some v) (hf : w.frozen? p = false) (hq : w.cell? q = some vq) (hfq : w.frozen? q = false)
    (hpd : ¬ p.block = db) (hpq : ¬ p = q) :
    Calls Try.prog 141 #[.pointer (some p), .int .i64 k, .pointer (some q)] w fun e w' => ∃ v1 v2, e = .returned (.bool true) ∧ View C db v1 x ∧ View C db v2 r ∧ w' = (w.setCell p v2).setCell q v1 := by
  obtain ⟨k, rfl⟩ := Int.eq_ofNat_of_zero_le (show 0 ≤ k by omega)
  rw [Int.toNat_natCast] at hr
  have hk3 : 1 ≤ k ∧ k ≤ 3 := by omega
  clear hk
  obtain ⟨a, r1, h1, h2, ha, hba⟩ := rdv_cases hr
  have H1 : Hid (rd (k : Int).toNat bs = some (a, r1)) := by rw [Int.toNat_natCast]; exact h1
  have hb3 : be a ≤ 16777215 := by have := pow256_le hk3.2; omega
  have H2 : Hid (rd ((be a : Nat) : Int).toNat r1 = some (x, r)) := by rw [Int.toNat_natCast]; exact h2
  have HA : Hid (a.length = k) := ha
  clear hr h1 h2 ha hba
  go_enter Try.func141, Try.ntmps141
  go_wp2_with fail
  refine (read_yes p k w (by omega) H1.out hV hp hf).mono ?_
  rintro e w1 ⟨v1, v2, rfl, hv1, hv2, rfl⟩
  obtain ⟨off, cap, rfl, hx1⟩ := hv1.slice
  have hat : Hid (∀ i, i < a.length → C[off + i]? = some (by8 (a.getD i 0))) := hv1.at.2
  rw [HA.out] at hv1 hx1 ⊢
  clear hv1
  go_wp2_with fail
  go_loop [8, 19] (fun n i => ∃ j : Nat, j ≤ k ∧ i = .int .i64 j ∧ n = .int .u32 (be (a.take j))) (fun _ i => k - (intOf i).toNat)
  case atStart => exact ⟨0, Nat.zero_le _, rfl, by simp [be]⟩
  case round =>
    obtain ⟨j, hj, rfl, rfl⟩ := hrel
    by_cases hjk : j < k
    · have hcell : (w.setCell p v2).cell? ⟨db, off + j, none⟩ = some (by8 (a.getD j 0)) := by
        rw [cell_past hpd, cell_of_heap hD, hat.out j (by rw [HA.out]; exact hjk)]
      go_wp2_with fail
      go_round
      case rel => exact ⟨j + 1, by omega, by go_num, by rw [be_round HA.out hk3.2 hjk]⟩
      case measure => simp [intOf]; omega
    · have hkj : j = k := by omega
      subst hkj
      have e3 : a.take j = a := by rw [← HA.out]; simp
      rw [e3]
      clear e3
      go_wp2_with fail
      refine (read_yes p _ _ (by omega) H2.out hv2 (cell_same hp) (by simpa using hf)).mono ?_
      rintro e w1 ⟨v3, v4, rfl, hv3, hv4, rfl⟩
      obtain ⟨off2, cap2, rfl, hx2⟩ := hv3.slice
      go_wp2
      go_ret
      exact ⟨_, _, rfl, hv3, hv4, by rw [setCell_twice]⟩

set_option maxRecDepth 100000 in
set_option maxHeartbeats 800000 in
theorem rlp_no {C : Array Value} {db : Nat} {T : TypeId} {fr : Nat × Nat} {v : Value} {bs : List UInt8} (p : Addr) (qo : Option Addr) (k : Int) (w : World) (hk : 1 ≤ k ∧ k ≤ 3) (hr : rdv k.toNat bs = none)
    (hD : w.heap[db]? = some (.cells C T fr)) (hV : View C db v bs) (hp : w.cell? p = some v) (hf : w.frozen? p = false) (hpd : ¬ p.block = db) :
    Calls Try.prog 141 #[.pointer (some p), .int .i64 k, .pointer qo] w fun e w' => ∃ v2, e = .returned (.bool false) ∧ w' = w.setCell p v2 := by
  obtain ⟨k, rfl⟩ := Int.eq_ofNat_of_zero_le (show 0 ≤ k by omega)
  rw [Int.toNat_natCast] at hr
  have hk3 : 1 ≤ k ∧ k ≤ 3 := by omega
  clear hk
  rcases rdv_none hr with h1 | ⟨a, r1, h1, h2, ha, hba⟩
  · have H1 : Hid (rd (k : Int).toNat bs = none) := by rw [Int.toNat_natCast]; exact h1
    clear hr h1
    have HS : Hid (w.setCell p v = w) := setCell_self hp
    go_enter Try.func141, Try.ntmps141
    go_wp2_with fail
    refine (read_none p k w (by omega) H1.out hV hp).mono ?_
    rintro e w1 ⟨rfl, rfl⟩
    go_wp2_with fail
    go_ret
    exact ⟨v, rfl, HS.out.symm⟩
  · have H1 : Hid (rd (k : Int).toNat bs = some (a, r1)) := by rw [Int.toNat_natCast]; exact h1
    have hb3 : be a ≤ 16777215 := by have := pow256_le hk3.2; omega
    have H2 : Hid (rd ((be a : Nat) : Int).toNat r1 = none) := by rw [Int.toNat_natCast]; exact h2
    have HA : Hid (a.length = k) := ha
    clear hr h1 h2 ha hba
    go_enter Try.func141, Try.ntmps141
    go_wp2_with fail
    refine (read_yes p k w (by omega) H1.out hV hp hf).mono ?_
    rintro e w1 ⟨v1, v2, rfl, hv1, hv2, rfl⟩
    obtain ⟨off, cap, rfl, hx1⟩ := hv1.slice
    have hat : Hid (∀ i, i < a.length → C[off + i]? = some (by8 (a.getD i 0))) := hv1.at.2
    rw [HA.out] at hv1 hx1 ⊢
    clear hv1
    go_wp2_with fail
    go_loop [8, 19] (fun n i => ∃ j : Nat, j ≤ k ∧ i = .int .i64 j ∧ n = .int .u32 (be (a.take j))) (fun _ i => k - (intOf i).toNat)
    case atStart => exact ⟨0, Nat.zero_le _, rfl, by simp [be]⟩
    case round =>
      obtain ⟨j, hj, rfl, rfl⟩ := hrel
      by_cases hjk : j < k
      · have hcell : (w.setCell p v2).cell? ⟨db, off + j, none⟩ = some (by8 (a.getD j 0)) := by
          rw [cell_past hpd, cell_of_heap hD, hat.out j (by rw [HA.out]; exact hjk)]
        go_wp2_with fail
        go_round
        case rel => exact ⟨j + 1, by omega, by go_num, by rw [be_round HA.out hk3.2 hjk]⟩
        case measure => simp [intOf]; omega
      · have hkj : j = k := by omega
        subst hkj
        have e3 : a.take j = a := by rw [← HA.out]; simp
        rw [e3]
        clear e3
        go_wp2_with fail
        refine (read_none p _ _ (by omega) H2.out hv2 (cell_same hp)).mono ?_
        rintro e w1 ⟨rfl, rfl⟩
        go_wp2
        go_ret
        exact ⟨_, rfl, rfl⟩

set_option maxRecDepth 100000 in
set_option maxHeartbeats 800000 in
theorem skip_yes {C : Array Value} {db : Nat} {v : Value} {bs a r : List UInt8} (p : Addr) (n : Int) (w : World) (h0 : 0 ≤ n) (hr : rd n.toNat bs = some (a, r)) (hV : View C db v bs)
    (hp : w.cell? p = some v) (hf : w.frozen? p = false) :
    Calls Try.prog 94 #[.pointer (some p), .int .i64 n] w fun e w' => ∃ v2, e = .returned (.bool true) ∧ View C db v2 r ∧ w' = w.setCell p v2 := by
  have HR := Lib.hid hr
  clear hr
  go_enter Try.func94, Try.ntmps94
  go_wp2_with fail
  refine (read_yes p n w h0 HR.out hV hp hf).mono ?_
  rintro e w1 ⟨v1, v2, rfl, hv1, hv2, rfl⟩
  obtain ⟨off, cap, rfl, hx1⟩ := hv1.slice
  go_wp2
  go_ret
  exact ⟨_, rfl, hv2, rfl⟩

set_option maxRecDepth 100000 in
theorem skip_no {ao : Option Addr} {len cap : Nat} (p : Addr) (n : Int) (w : World) (h0 : 0 ≤ n) (hn : len < n) (hl : len ≤ 9223372036854775807)
    (hp : w.cell? p = some (.slice ao len cap)) :
    Calls Try.prog 94 #[.pointer (some p), .int .i64 n] w fun e w' => e = .returned (.bool false) ∧ w = w' := by
  go_enter Try.func94, Try.ntmps94
  go_wp2_with fail
  refine (read_no p n w h0 hn hl hp).mono ?_
  rintro e w1 ⟨rfl, rfl⟩
  go_wp2
  go_ret
  exact ⟨rfl, rfl⟩

set_option maxRecDepth 100000 in
set_option maxHeartbeats 800000 in
theorem ru8_yes {C : Array Value} {db : Nat} {T : TypeId} {fr : Nat × Nat} {v vq : Value} {bs a r : List UInt8} (p q : Addr) (w : World) (hr : rd 1 bs = some (a, r))
    (hD : w.heap[db]? = some (.cells C T fr)) (hV : View C db v bs) (hp : w.cell? p = some v) (hf : w.frozen? p = false) (hq : w.cell? q = some vq) (hfq : w.frozen? q = false)
    (hpd : ¬ p.block = db) (hpq : ¬ p = q) :
    Calls Try.prog 98 #[.pointer (some p), .pointer (some q)] w fun e w' => ∃ v2, e = .returned (.bool true) ∧ View C db v2 r ∧ w' = (w.setCell p v2).setCell q (.int .u8 (be a)) := by
  have HR := Lib.hid hr
  have ha := (rd_some hr).2
  clear hr
  obtain ⟨b, rfl⟩ : ∃ b, a = [b] := by
    cases a with
    | nil => simp at ha
    | cons b l => cases l with
      | nil => exact ⟨b, rfl⟩
      | cons c l => simp at ha
  clear ha
  go_enter Try.func98, Try.ntmps98
  go_wp2_with fail
  refine (read_yes p 1 w (by omega) HR.out hV hp hf).mono ?_
  rintro e w1 ⟨v1, v2, rfl, hv1, hv2, rfl⟩
  obtain ⟨off, cap, rfl, hx1⟩ := hv1.slice
  have hc0 : (w.setCell p v2).cell? ⟨db, off, none⟩ = some (by8 b) := by rw [cell_past hpd, cell_of_heap hD]; simpa using hv1.at.2 0 (by simp)
  clear hv1
  go_wp2
  go_ret
  exact ⟨_, rfl, hv2, by simp [be]⟩

set_option maxRecDepth 100000 in
set_option maxHeartbeats 800000 in
theorem ru16_yes {C : Array Value} {db : Nat} {T : TypeId} {fr : Nat × Nat} {v vq : Value} {bs a r : List UInt8} (p q : Addr) (w : World) (hr : rd 2 bs = some (a, r))
    (hD : w.heap[db]? = some (.cells C T fr)) (hV : View C db v bs) (hp : w.cell? p = some v) (hf : w.frozen? p = false) (hq : w.cell? q = some vq) (hfq : w.frozen? q = false)
    (hpd : ¬ p.block = db) (hpq : ¬ p = q) :
    Calls Try.prog 95 #[.pointer (some p), .pointer (some q)] w fun e w' => ∃ v2, e = .returned (.bool true) ∧ View C db v2 r ∧ w' = ((w.setCell p v2).setCell q (.int .u16 (be a))).drew := by
  have HR := Lib.hid hr
  have ha := (rd_some hr).2
  clear hr
  obtain ⟨b0, b1, rfl⟩ : ∃ b0 b1, a = [b0, b1] := by
    match a, ha with
    | [b0, b1], _ => exact ⟨b0, b1, rfl⟩
  clear ha
  go_enter Try.func95, Try.ntmps95
  go_wp2_with fail
  refine (read_yes p 2 w (by omega) HR.out hV hp hf).mono ?_
  rintro e w1 ⟨v1, v2, rfl, hv1, hv2, rfl⟩
  obtain ⟨off, cap, rfl, hx1⟩ := hv1.slice
  have hc0 : (w.setCell p v2).cell? ⟨db, off, none⟩ = some (by8 b0) := by rw [cell_past hpd, cell_of_heap hD]; simpa using hv1.at.2 0 (by simp)
  have hc1 : (w.setCell p v2).cell? ⟨db, off + 1, none⟩ = some (by8 b1) := by rw [cell_past hpd, cell_of_heap hD]; simpa using hv1.at.2 1 (by simp)
  clear hv1
  go_wp2_with fail
  refine region_tail 12 (by kernel_rfl) ?_
  simp only [List.take_succ_cons, List.take_zero, List.drop_succ_cons, List.drop_zero]
  repeat still_step
  refine wpStill_nil ?_
  go_wp2
  go_ret
  exact ⟨_, rfl, hv2, by rw [u16_be]⟩

set_option maxRecDepth 100000 in
set_option maxHeartbeats 800000 in
theorem ru32_yes {C : Array Value} {db : Nat} {T : TypeId} {fr : Nat × Nat} {v vq : Value} {bs a r : List UInt8} (p q : Addr) (w : World) (hr : rd 4 bs = some (a, r))
    (hD : w.heap[db]? = some (.cells C T fr)) (hV : View C db v bs) (hp : w.cell? p = some v) (hf : w.frozen? p = false) (hq : w.cell? q = some vq) (hfq : w.frozen? q = false)
    (hpd : ¬ p.block = db) (hpq : ¬ p = q) :
    Calls Try.prog 112 #[.pointer (some p), .pointer (some q)] w fun e w' => ∃ v2, e = .returned (.bool true) ∧ View C db v2 r ∧ w' = ((w.setCell p v2).setCell q (.int .u32 (be a))).drew := by
  have HR := Lib.hid hr
  have ha := (rd_some hr).2
  clear hr
  obtain ⟨b0, b1, b2, b3, rfl⟩ : ∃ b0 b1 b2 b3, a = [b0, b1, b2, b3] := by
    match a, ha with
    | [b0, b1, b2, b3], _ => exact ⟨b0, b1, b2, b3, rfl⟩
  clear ha
  go_enter Try.func112, Try.ntmps112
  go_wp2_with fail
  refine (read_yes p 4 w (by omega) HR.out hV hp hf).mono ?_
  rintro e w1 ⟨v1, v2, rfl, hv1, hv2, rfl⟩
  obtain ⟨off, cap, rfl, hx1⟩ := hv1.slice
  have hc0 : (w.setCell p v2).cell? ⟨db, off, none⟩ = some (by8 b0) := by rw [cell_past hpd, cell_of_heap hD]; simpa using hv1.at.2 0 (by simp)
  have hc1 : (w.setCell p v2).cell? ⟨db, off + 1, none⟩ = some (by8 b1) := by rw [cell_past hpd, cell_of_heap hD]; simpa using hv1.at.2 1 (by simp)
  have hc2 : (w.setCell p v2).cell? ⟨db, off + 2, none⟩ = some (by8 b2) := by rw [cell_past hpd, cell_of_heap hD]; simpa using hv1.at.2 2 (by simp)
  have hc3 : (w.setCell p v2).cell? ⟨db, off + 3, none⟩ = some (by8 b3) := by rw [cell_past hpd, cell_of_heap hD]; simpa using hv1.at.2 3 (by simp)
  clear hv1
  go_wp2_with fail
  refine region_tail 24 (by kernel_rfl) ?_
  simp only [List.take_succ_cons, List.take_zero, List.drop_succ_cons, List.drop_zero]
  repeat still_step
  refine wpStill_nil ?_
  go_wp2
  go_ret
  exact ⟨_, rfl, hv2, by rw [u32_be]⟩

set_option maxRecDepth 100000 in
theorem ru8_no {C : Array Value} {db : Nat} {v : Value} {bs : List UInt8} (p : Addr) (qo : Option Addr) (w : World) (hr : rd 1 bs = none) (hV : View C db v bs) (hp : w.cell? p = some v) :
    Calls Try.prog 98 #[.pointer (some p), .pointer qo] w fun e w' => e = .returned (.bool false) ∧ w = w' := by
  have HR := Lib.hid hr
  clear hr
  go_enter Try.func98, Try.ntmps98
  go_wp2_with fail
  refine (read_none p 1 w (by omega) HR.out hV hp).mono ?_
  rintro e w1 ⟨rfl, rfl⟩
  go_wp2
  go_ret
  exact ⟨rfl, rfl⟩
set_option maxRecDepth 100000 in
theorem ru16_no {C : Array Value} {db : Nat} {v : Value} {bs : List UInt8} (p : Addr) (qo : Option Addr) (w : World) (hr : rd 2 bs = none) (hV : View C db v bs) (hp : w.cell? p = some v) :
    Calls Try.prog 95 #[.pointer (some p), .pointer qo] w fun e w' => e = .returned (.bool false) ∧ w = w' := by
  have HR := Lib.hid hr
  clear hr
  go_enter Try.func95, Try.ntmps95
  go_wp2_with fail
  refine (read_none p 2 w (by omega) HR.out hV hp).mono ?_
  rintro e w1 ⟨rfl, rfl⟩
  go_wp2
  go_ret
  exact ⟨rfl, rfl⟩
set_option maxRecDepth 100000 in
theorem ru32_no {C : Array Value} {db : Nat} {v : Value} {bs : List UInt8} (p : Addr) (qo : Option Addr) (w : World) (hr : rd 4 bs = none) (hV : View C db v bs) (hp : w.cell? p = some v) :
    Calls Try.prog 112 #[.pointer (some p), .pointer qo] w fun e w' => e = .returned (.bool false) ∧ w = w' := by
  have HR := Lib.hid hr
  clear hr
  go_enter Try.func112, Try.ntmps112
  go_wp2_with fail
  refine (read_none p 4 w (by omega) HR.out hV hp).mono ?_
  rintro e w1 ⟨rfl, rfl⟩
  go_wp2
  go_ret
  exact ⟨rfl, rfl⟩

set_option maxRecDepth 100000 in
theorem r8_yes {C : Array Value} {db : Nat} {T : TypeId} {fr : Nat × Nat} {v vq : Value} {bs x r : List UInt8} (p q : Addr) (w : World) (hr : rdv 1 bs = some (x, r))
    (hD : w.heap[db]? = some (.cells C T fr)) (hV : View C db v bs) (hp : w.cell? p = some v) (hf : w.frozen? p = false) (hq : w.cell? q = some vq) (hfq : w.frozen? q = false)
    (hpd : ¬ p.block = db) (hpq : ¬ p = q) :
    Calls Try.prog 101 #[.pointer (some p), .pointer (some q)] w fun e w' => ∃ v1 v2, e = .returned (.bool true) ∧ View C db v1 x ∧ View C db v2 r ∧ w' = (w.setCell p v2).setCell q v1 := by
  have HR := Lib.hid hr
  clear hr
  go_enter Try.func101, Try.ntmps101
  go_wp2_with fail
  refine (rlp_yes p q 1 w (by omega) HR.out hD hV hp hf hq hfq hpd hpq).mono ?_
  rintro e w1 ⟨v1, v2, rfl, hv1, hv2, rfl⟩
  go_wp2
  go_ret
  exact ⟨_, _, rfl, hv1, hv2, rfl⟩

set_option maxRecDepth 100000 in
theorem r8_no {C : Array Value} {db : Nat} {T : TypeId} {fr : Nat × Nat} {v : Value} {bs : List UInt8} (p : Addr) (qo : Option Addr) (w : World) (hr : rdv 1 bs = none)
    (hD : w.heap[db]? = some (.cells C T fr)) (hV : View C db v bs) (hp : w.cell? p = some v) (hf : w.frozen? p = false) (hpd : ¬ p.block = db) :
    Calls Try.prog 101 #[.pointer (some p), .pointer qo] w fun e w' => ∃ v2, e = .returned (.bool false) ∧ w' = w.setCell p v2 := by
  have HR := Lib.hid hr
  clear hr
  go_enter Try.func101, Try.ntmps101
  go_wp2_with fail
  refine (rlp_no p qo 1 w (by omega) HR.out hD hV hp hf hpd).mono ?_
  rintro e w1 ⟨v2, rfl, rfl⟩
  go_wp2
  go_ret
  exact ⟨_, rfl, rfl⟩

set_option maxRecDepth 100000 in
theorem r16_yes {C : Array Value} {db : Nat} {T : TypeId} {fr : Nat × Nat} {v vq : Value} {bs x r : List UInt8} (p q : Addr) (w : World) (hr : rdv 2 bs = some (x, r))
    (hD : w.heap[db]? = some (.cells C T fr)) (hV : View C db v bs) (hp : w.cell? p = some v) (hf : w.frozen? p = false) (hq : w.cell? q = some vq) (hfq : w.frozen? q = false)
    (hpd : ¬ p.block = db) (hpq : ¬ p = q) :
    Calls Try.prog 100 #[.pointer (some p), .pointer (some q)] w fun e w' => ∃ v1 v2, e = .returned (.bool true) ∧ View C db v1 x ∧ View C db v2 r ∧ w' = (w.setCell p v2).setCell q v1 := by
  have HR := Lib.hid hr
  clear hr
  go_enter Try.func100, Try.ntmps100
  go_wp2_with fail
  refine (rlp_yes p q 2 w (by omega) HR.out hD hV hp hf hq hfq hpd hpq).mono ?_
  rintro e w1 ⟨v1, v2, rfl, hv1, hv2, rfl⟩
  go_wp2
  go_ret
  exact ⟨_, _, rfl, hv1, hv2, rfl⟩

set_option maxRecDepth 100000 in
theorem r16_no {C : Array Value} {db : Nat} {T : TypeId} {fr : Nat × Nat} {v : Value} {bs : List UInt8} (p : Addr) (qo : Option Addr) (w : World) (hr : rdv 2 bs = none)
    (hD : w.heap[db]? = some (.cells C T fr)) (hV : View C db v bs) (hp : w.cell? p = some v) (hf : w.frozen? p = false) (hpd : ¬ p.block = db) :
    Calls Try.prog 100 #[.pointer (some p), .pointer qo] w fun e w' => ∃ v2, e = .returned (.bool false) ∧ w' = w.setCell p v2 := by
  have HR := Lib.hid hr
  clear hr
  go_enter Try.func100, Try.ntmps100
  go_wp2_with fail
  refine (rlp_no p qo 2 w (by omega) HR.out hD hV hp hf hpd).mono ?_
  rintro e w1 ⟨v2, rfl, rfl⟩
  go_wp2
  go_ret
  exact ⟨_, rfl, rfl⟩

set_option maxRecDepth 100000 in
theorem r24_yes {C : Array Value} {db : Nat} {T : TypeId} {fr : Nat × Nat} {v vq : Value} {bs x r : List UInt8} (p q : Addr) (w : World) (hr : rdv 3 bs = some (x, r))
    (hD : w.heap[db]? = some (.cells C T fr)) (hV : View C db v bs) (hp : w.cell? p = some v) (hf : w.frozen? p = false) (hq : w.cell? q = some vq) (hfq : w.frozen? q = false)
    (hpd : ¬ p.block = db) (hpq : ¬ p = q) :
    Calls Try.prog 142 #[.pointer (some p), .pointer (some q)] w fun e w' => ∃ v1 v2, e = .returned (.bool true) ∧ View C db v1 x ∧ View C db v2 r ∧ w' = (w.setCell p v2).setCell q v1 := by
  have HR := Lib.hid hr
  clear hr
  go_enter Try.func142, Try.ntmps142
  go_wp2_with fail
  refine (rlp_yes p q 3 w (by omega) HR.out hD hV hp hf hq hfq hpd hpq).mono ?_
  rintro e w1 ⟨v1, v2, rfl, hv1, hv2, rfl⟩
  go_wp2
  go_ret
  exact ⟨_, _, rfl, hv1, hv2, rfl⟩

set_option maxRecDepth 100000 in
theorem r24_no {C : Array Value} {db : Nat} {T : TypeId} {fr : Nat × Nat} {v : Value} {bs : List UInt8} (p : Addr) (qo : Option Addr) (w : World) (hr : rdv 3 bs = none)
    (hD : w.heap[db]? = some (.cells C T fr)) (hV : View C db v bs) (hp : w.cell? p = some v) (hf : w.frozen? p = false) (hpd : ¬ p.block = db) :
    Calls Try.prog 142 #[.pointer (some p), .pointer qo] w fun e w' => ∃ v2, e = .returned (.bool false) ∧ w' = w.setCell p v2 := by
  have HR := Lib.hid hr
  clear hr
  go_enter Try.func142, Try.ntmps142
  go_wp2_with fail
  refine (rlp_no p qo 3 w (by omega) HR.out hD hV hp hf hpd).mono ?_
  rintro e w1 ⟨v2, rfl, rfl⟩
  go_wp2
  go_ret
  exact ⟨_, rfl, rfl⟩

set_option maxRecDepth 100000 in
theorem t8_yes {C : Array Value} {db : Nat} {T : TypeId} {fr : Nat × Nat} {v vq : Value} {bs x r : List UInt8} (p q : Addr) (w : World) (hr : rdv 1 bs = some (x, r))
    (hD : w.heap[db]? = some (.cells C T fr)) (hV : View C db v bs) (hp : w.cell? p = some v) (hf : w.frozen? p = false) (hq : w.cell? q = some vq) (hfq : w.frozen? q = false)
    (hpd : ¬ p.block = db) (hpq : ¬ p = q) :
    Calls Try.prog 97 #[.pointer (some p), .pointer (some q)] w fun e w' => ∃ v1 v2, e = .returned (.bool true) ∧ View C db v1 x ∧ View C db v2 r ∧ w' = (w.setCell p v2).setCell q v1 := by
  have HR := Lib.hid hr
  clear hr
  go_enter Try.func97, Try.ntmps97
  go_wp2_with fail
  refine (r8_yes p q w HR.out hD hV hp hf hq hfq hpd hpq).mono ?_
  rintro e w1 ⟨v1, v2, rfl, hv1, hv2, rfl⟩
  go_wp2
  go_ret
  exact ⟨_, _, rfl, hv1, hv2, rfl⟩

set_option maxRecDepth 100000 in
theorem t8_no {C : Array Value} {db : Nat} {T : TypeId} {fr : Nat × Nat} {v : Value} {bs : List UInt8} (p : Addr) (qo : Option Addr) (w : World) (hr : rdv 1 bs = none)
    (hD : w.heap[db]? = some (.cells C T fr)) (hV : View C db v bs) (hp : w.cell? p = some v) (hf : w.frozen? p = false) (hpd : ¬ p.block = db) :
    Calls Try.prog 97 #[.pointer (some p), .pointer qo] w fun e w' => ∃ v2, e = .returned (.bool false) ∧ w' = w.setCell p v2 := by
  have HR := Lib.hid hr
  clear hr
  go_enter Try.func97, Try.ntmps97
  go_wp2_with fail
  refine (r8_no p qo w HR.out hD hV hp hf hpd).mono ?_
  rintro e w1 ⟨v2, rfl, rfl⟩
  go_wp2
  go_ret
  exact ⟨_, rfl, rfl⟩

set_option maxRecDepth 100000 in
theorem t16_yes {C : Array Value} {db : Nat} {T : TypeId} {fr : Nat × Nat} {v vq : Value} {bs x r : List UInt8} (p q : Addr) (w : World) (hr : rdv 2 bs = some (x, r))
    (hD : w.heap[db]? = some (.cells C T fr)) (hV : View C db v bs) (hp : w.cell? p = some v) (hf : w.frozen? p = false) (hq : w.cell? q = some vq) (hfq : w.frozen? q = false)
    (hpd : ¬ p.block = db) (hpq : ¬ p = q) :
    Calls Try.prog 102 #[.pointer (some p), .pointer (some q)] w fun e w' => ∃ v1 v2, e = .returned (.bool true) ∧ View C db v1 x ∧ View C db v2 r ∧ w' = (w.setCell p v2).setCell q v1 := by
  have HR := Lib.hid hr
  clear hr
  go_enter Try.func102, Try.ntmps102
  go_wp2_with fail
  refine (r16_yes p q w HR.out hD hV hp hf hq hfq hpd hpq).mono ?_
  rintro e w1 ⟨v1, v2, rfl, hv1, hv2, rfl⟩
  go_wp2
  go_ret
  exact ⟨_, _, rfl, hv1, hv2, rfl⟩

set_option maxRecDepth 100000 in
theorem t16_no {C : Array Value} {db : Nat} {T : TypeId} {fr : Nat × Nat} {v : Value} {bs : List UInt8} (p : Addr) (qo : Option Addr) (w : World) (hr : rdv 2 bs = none)
    (hD : w.heap[db]? = some (.cells C T fr)) (hV : View C db v bs) (hp : w.cell? p = some v) (hf : w.frozen? p = false) (hpd : ¬ p.block = db) :
    Calls Try.prog 102 #[.pointer (some p), .pointer qo] w fun e w' => ∃ v2, e = .returned (.bool false) ∧ w' = w.setCell p v2 := by
  have HR := Lib.hid hr
  clear hr
  go_enter Try.func102, Try.ntmps102
  go_wp2_with fail
  refine (r16_no p qo w HR.out hD hV hp hf hpd).mono ?_
  rintro e w1 ⟨v2, rfl, rfl⟩
  go_wp2
  go_ret
  exact ⟨_, rfl, rfl⟩

set_option maxRecDepth 100000 in
theorem t24_yes {C : Array Value} {db : Nat} {T : TypeId} {fr : Nat × Nat} {v vq : Value} {bs x r : List UInt8} (p q : Addr) (w : World) (hr : rdv 3 bs = some (x, r))
    (hD : w.heap[db]? = some (.cells C T fr)) (hV : View C db v bs) (hp : w.cell? p = some v) (hf : w.frozen? p = false) (hq : w.cell? q = some vq) (hfq : w.frozen? q = false)
    (hpd : ¬ p.block = db) (hpq : ¬ p = q) :
    Calls Try.prog 143 #[.pointer (some p), .pointer (some q)] w fun e w' => ∃ v1 v2, e = .returned (.bool true) ∧ View C db v1 x ∧ View C db v2 r ∧ w' = (w.setCell p v2).setCell q v1 := by
  have HR := Lib.hid hr
  clear hr
  go_enter Try.func143, Try.ntmps143
  go_wp2_with fail
  refine (r24_yes p q w HR.out hD hV hp hf hq hfq hpd hpq).mono ?_
  rintro e w1 ⟨v1, v2, rfl, hv1, hv2, rfl⟩
  go_wp2
  go_ret
  exact ⟨_, _, rfl, hv1, hv2, rfl⟩

set_option maxRecDepth 100000 in
theorem t24_no {C : Array Value} {db : Nat} {T : TypeId} {fr : Nat × Nat} {v : Value} {bs : List UInt8} (p : Addr) (qo : Option Addr) (w : World) (hr : rdv 3 bs = none)
    (hD : w.heap[db]? = some (.cells C T fr)) (hV : View C db v bs) (hp : w.cell? p = some v) (hf : w.frozen? p = false) (hpd : ¬ p.block = db) :
    Calls Try.prog 143 #[.pointer (some p), .pointer qo] w fun e w' => ∃ v2, e = .returned (.bool false) ∧ w' = w.setCell p v2 := by
  have HR := Lib.hid hr
  clear hr
  go_enter Try.func143, Try.ntmps143
  go_wp2_with fail
  refine (r24_no p qo w HR.out hD hV hp hf hpd).mono ?_
  rintro e w1 ⟨v2, rfl, rfl⟩
  go_wp2
  go_ret
  exact ⟨_, rfl, rfl⟩

set_option maxRecDepth 100000 in
theorem rb_yes {C : Array Value} {db : Nat} {v vq : Value} {bs a r : List UInt8} (p q : Addr) (n : Int) (w : World) (h0 : 0 ≤ n) (hr : rd n.toNat bs = some (a, r)) (hV : View C db v bs)
    (hp : w.cell? p = some v) (hf : w.frozen? p = false) (hq : w.cell? q = some vq) (hfq : w.frozen? q = false) (hpq : ¬ p = q) :
    Calls Try.prog 96 #[.pointer (some p), .pointer (some q), .int .i64 n] w fun e w' => ∃ v1 v2, e = .returned (.bool true) ∧ View C db v1 a ∧ View C db v2 r ∧ w' = (w.setCell p v2).setCell q v1 := by
  have HR := Lib.hid hr
  clear hr
  go_enter Try.func96, Try.ntmps96
  go_wp2_with fail
  refine (read_yes p n w h0 HR.out hV hp hf).mono ?_
  rintro e w1 ⟨v1, v2, rfl, hv1, hv2, rfl⟩
  obtain ⟨off, cap, rfl, hx1⟩ := hv1.slice
  go_wp2
  go_ret
  exact ⟨_, _, rfl, hv1, hv2, rfl⟩

set_option maxRecDepth 100000 in
theorem rb_no {C : Array Value} {db : Nat} {v : Value} {bs : List UInt8} (p : Addr) (qo : Option Addr) (n : Int) (w : World) (h0 : 0 ≤ n) (hr : rd n.toNat bs = none) (hV : View C db v bs) (hp : w.cell? p = some v) :
    Calls Try.prog 96 #[.pointer (some p), .pointer qo, .int .i64 n] w fun e w' => e = .returned (.bool false) ∧ w = w' := by
  have HR := Lib.hid hr
  clear hr
  go_enter Try.func96, Try.ntmps96
  go_wp2_with fail
  refine (read_none p n w h0 HR.out hV hp).mono ?_
  rintro e w1 ⟨rfl, rfl⟩
  go_wp2
  go_ret
  exact ⟨rfl, rfl⟩

theorem empty_any {C : Array Value} {db : Nat} {v : Value} {bs : List UInt8} (w : World) (hV : View C db v bs) :
    Calls Try.prog 99 #[v] w fun e w' => e = .returned (.bool bs.isEmpty) ∧ w = w' := by
  obtain ⟨off, cap, rfl, hl⟩ := hV.slice
  clear hV
  cases bs with
  | nil =>
    go_enter Try.func99, Try.ntmps99
    go_wp2
    go_ret
    exact ⟨rfl, rfl⟩
  | cons b l =>
    have he : (((b :: l).length : Int) == 0) = false := by simp; omega
    go_enter Try.func99, Try.ntmps99
    go_wp2
    go_ret
    exact ⟨by simp; omega, rfl⟩

end Go.Proofs.Ytopcljikkdlffaa
