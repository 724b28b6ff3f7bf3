/- Contracts of cryptobyte.String's readers: what each call leaves in the reader's cell. Contracts of cryptobyte.Builder's own methods: what an append leaves in the builder's block, and what it leaves alone. No statement of the seat is proved here. -/
import Derived.Test.YtopcljikkdlffaaGreatX01
namespace Go.Proofs.YtopcljikkdlffaaGreat
open Go.RowKit

set_option maxHeartbeats 400000 in
theorem read_yes {C : Array Value} {db : Nat} {v : Value} {bs a r : List UInt8} (p : Addr) (n : Int) (w : World) (h0 : 0 ≤ n) (hr : rd n.toNat bs = some (a, r)) (hV : View C db v bs)
    (hp : w.cell? p = some v) (hf : w.frozen? p = false) :
    Calls Tryz.prog 43 #[.pointer (some p), .int .i64 n] w fun e w' => ∃ v1 v2, e = .returned v1 ∧ View C db v1 a ∧ View C db v2 r ∧ w' = w.setCell p v2 := by
  obtain ⟨off, cap, rfl, hc, hm, hcell⟩ := hV
  obtain ⟨k, rfl⟩ := Int.eq_ofNat_of_zero_le h0
  rw [Int.toNat_natCast] at hr
  obtain ⟨ha, hr', hk⟩ : a = bs.take k ∧ r = bs.drop k ∧ k ≤ bs.length := by
    unfold rd at hr
    split at hr
    · rename_i hk
      simp only [Option.some.injEq, Prod.mk.injEq] at hr
      exact ⟨hr.1.symm, hr.2.symm, hk⟩
    · cases hr
  subst ha; subst hr'
  have hm' : cap ≤ 9223372036854775807 := hm
  have V1 := View.take (db := db) k hk hc hm hcell
  have V2 := View.drop (db := db) k hk hc hm hcell
  have V3 : k = bs.length → View C db (.slice (some ⟨db, off, none⟩) 0 0) (bs.drop k) := fun h => View.dropAll k h
  have R := Lib.hid (And.intro V1 (And.intro V2 V3))
  clear V1 V2 V3 hcell hm hr
  by_cases hkc : k = cap
  · go_enter Tryz.func43, Tryz.ntmps43
    go_wp2
    go_ret
    exact ⟨_, _, rfl, hkc ▸ R.out.1, R.out.2.2 (by omega), rfl⟩
  · go_enter Tryz.func43, Tryz.ntmps43
    go_wp2
    go_ret
    exact ⟨_, _, rfl, R.out.1, R.out.2.1, rfl⟩

set_option maxHeartbeats 400000 in
/-- Too few bytes: nil, and nothing has turned. -/
theorem read_no {ao : Option Addr} {len cap : Nat} (p : Addr) (n : Int) (w : World) (h0 : 0 ≤ n) (hn : len < n) (_hl : len ≤ 9223372036854775807)
    (hp : w.cell? p = some (.slice ao len cap)) :
    Calls Tryz.prog 43 #[.pointer (some p), .int .i64 n] w fun e w' => e = .returned (.slice none 0 0) ∧ w = w' := by
  obtain ⟨k, rfl⟩ := Int.eq_ofNat_of_zero_le h0
  have hk : len < k := by omega
  go_enter Tryz.func43, Tryz.ntmps43
  go_wp2
  go_ret
  exact ⟨rfl, rfl⟩

theorem read_none {C : Array Value} {db : Nat} {v : Value} {bs : List UInt8} (p : Addr) (n : Int) (w : World) (h0 : 0 ≤ n) (hr : rd n.toNat bs = none) (hV : View C db v bs)
    (hp : w.cell? p = some v) :
    Calls Tryz.prog 43 #[.pointer (some p), .int .i64 n] w fun e w' => e = .returned (.slice none 0 0) ∧ w = w' := by
  obtain ⟨off, cap, rfl, hl⟩ := hV.slice
  have := rd_none hr
  exact read_no p n w h0 (by omega) hl hp

theorem rdv_cases {k : Nat} {s x r : List UInt8} (h : rdv k s = some (x, r)) : ∃ a r1, rd k s = some (a, r1) ∧ rd (be a) r1 = some (x, r) ∧ a.length = k ∧ be a < 256 ^ k := by
  unfold rdv at h
  split at h
  · rename_i a r1 h1
    have := (rd_some h1).2
    have hl := be_lt a
    rw [this] at hl
    exact ⟨a, r1, h1, h, this, hl⟩
  · cases h

theorem rdv_none {k : Nat} {s : List UInt8} (h : rdv k s = none) : rd k s = none ∨ ∃ a r1, rd k s = some (a, r1) ∧ rd (be a) r1 = none ∧ a.length = k ∧ be a < 256 ^ k := by
  unfold rdv at h
  split at h
  · rename_i a r1 h1
    have := (rd_some h1).2
    have hl := be_lt a
    rw [this] at hl
    exact .inr ⟨a, r1, h1, h, this, hl⟩
  · rename_i h1
    exact .inl h1

/-- One round of the loop over a length's bytes. -/
theorem be_round {a : List UInt8} {j k : Nat} (ha : a.length = k) (hk : k ≤ 3) (hj : j < k) :
    bits BinOp.or IntKind.u32 ((((be (a.take j) : Nat) : Int) * 256) % 4294967296) ((((a[j]?.getD 0).toNat : Int)) % 4294967296) = ((be (a.take (j + 1)) : Nat) : Int) := by
  have hja : j < a.length := by omega
  have hlt : be (a.take j) < 16777216 := by
    have h1 := be_lt (a.take j)
    have h2 : (a.take j).length ≤ 3 := by simp; omega
    have h3 := pow256_le h2
    omega
  have e3 : a.take (j + 1) = a.take j ++ [a.getD j 0] := by
    rw [List.take_succ_eq_append_getElem hja]; simp [hja]
  have e4 : a[j]?.getD 0 = a.getD j 0 := by simp
  rw [e4, u32_step _ _ hlt, e3, be_snoc]

set_option maxRecDepth 100000 in
set_option maxHeartbeats 800000 in
theorem rlp_yes {C : Array Value} {db : Nat} {T : TypeId} {fr : Nat × Nat} {v vq : Value} {bs x r : List UInt8} (p q : Addr) (k : Int) (w : World) (hk : 1 ≤ k ∧ k ≤ 3) (hr : rdv k.toNat bs = some (x, r))
    (hD : w.heap[db]? = some (.cells C T fr)) (hV : View C db v bs) (hp : w.cell? p = some v) (hf : w.frozen? p = false) (hq : w.cell? q = some vq) (hfq : w.frozen? q = false)
    (hpd : ¬ p.block = db) (hpq : ¬ p = q) :
    Calls Tryz.prog 44 #[.pointer (some p), .int .i64 k, .pointer (some q)] w fun e w' => ∃ v1 v2, e = .returned (.bool true) ∧ View C db v1 x ∧ View C db v2 r ∧ w' = (w.setCell p v2).setCell q v1 := by
  obtain ⟨k, rfl⟩ := Int.eq_ofNat_of_zero_le (show 0 ≤ k by omega)
  rw [Int.toNat_natCast] at hr
  have hk3 : 1 ≤ k ∧ k ≤ 3 := by omega
  clear hk
  obtain ⟨a, r1, h1, h2, ha, hba⟩ := rdv_cases hr
  have H1 : Hid (rd (k : Int).toNat bs = some (a, r1)) := by rw [Int.toNat_natCast]; exact h1
  have hb3 : be a ≤ 16777215 := by have := pow256_le hk3.2; omega
  have H2 : Hid (rd ((be a : Nat) : Int).toNat r1 = some (x, r)) := by rw [Int.toNat_natCast]; exact h2
  have HA : Hid (a.length = k) := ha
  clear hr h1 h2 ha hba
  go_enter Tryz.func44, Tryz.ntmps44
  go_wp2_with fail
  refine (read_yes p k w (by omega) H1.out hV hp hf).mono ?_
  rintro e w1 ⟨v1, v2, rfl, hv1, hv2, rfl⟩
  obtain ⟨off, cap, rfl, hx1⟩ := hv1.slice
  have hat : Hid (∀ i, i < a.length → C[off + i]? = some (by8 (a.getD i 0))) := hv1.at.2
  rw [HA.out] at hv1 hx1 ⊢
  clear hv1
  go_wp2_with fail
  go_loop [8, 19] (fun n i => ∃ j : Nat, j ≤ k ∧ i = .int .i64 j ∧ n = .int .u32 (be (a.take j))) (fun _ i => k - (intOf i).toNat)
  case atStart => exact ⟨0, Nat.zero_le _, rfl, by simp [be]⟩
  case round =>
    obtain ⟨j, hj, rfl, rfl⟩ := hrel
    by_cases hjk : j < k
    · have hcell : (w.setCell p v2).cell? ⟨db, off + j, none⟩ = some (by8 (a.getD j 0)) := by
        rw [cell_past hpd, cell_of_heap hD, hat.out j (by rw [HA.out]; exact hjk)]
      go_wp2_with fail
      go_round
      case rel => exact ⟨j + 1, by omega, by go_num, by rw [be_round HA.out hk3.2 hjk]⟩
      case measure => simp [intOf]; omega
    · have hkj : j = k := by omega
      subst hkj
      have e3 : a.take j = a := by rw [← HA.out]; simp
      rw [e3]
      clear e3
      go_wp2_with fail
      refine (read_yes p _ _ (by omega) H2.out hv2 (cell_same hp) (by simpa using hf)).mono ?_
      rintro e w1 ⟨v3, v4, rfl, hv3, hv4, rfl⟩
      obtain ⟨off2, cap2, rfl, hx2⟩ := hv3.slice
      go_wp2
      go_ret
      exact ⟨_, _, rfl, hv3, hv4, by rw [setCell_twice]⟩

set_option maxRecDepth 100000 in
set_option maxHeartbeats 800000 in
theorem rlp_no {C : Array Value} {db : Nat} {T : TypeId} {fr : Nat × Nat} {v : Value} {bs : List UInt8} (p : Addr) (qo : Option Addr) (k : Int) (w : World) (hk : 1 ≤ k ∧ k ≤ 3) (hr : rdv k.toNat bs = none)
    (hD : w.heap[db]? = some (.cells C T fr)) (hV : View C db v bs) (hp : w.cell? p = some v) (hf : w.frozen? p = false) (hpd : ¬ p.block = db) :
    Calls Tryz.prog 44 #[.pointer (some p), .int .i64 k, .pointer qo] w fun e w' => ∃ v2, e = .returned (.bool false) ∧ w' = w.setCell p v2 := by
  obtain ⟨k, rfl⟩ := Int.eq_ofNat_of_zero_le (show 0 ≤ k by omega)
  rw [Int.toNat_natCast] at hr
  have hk3 : 1 ≤ k ∧ k ≤ 3 := by omega
  clear hk
  rcases rdv_none hr with h1 | ⟨a, r1, h1, h2, ha, hba⟩
  · have H1 : Hid (rd (k : Int).toNat bs = none) := by rw [Int.toNat_natCast]; exact h1
    clear hr h1
    have HS : Hid (w.setCell p v = w) := setCell_self hp
    go_enter Tryz.func44, Tryz.ntmps44
    go_wp2_with fail
    refine (read_none p k w (by omega) H1.out hV hp).mono ?_
    rintro e w1 ⟨rfl, rfl⟩
    go_wp2_with fail
    go_ret
    exact ⟨v, rfl, HS.out.symm⟩
  · have H1 : Hid (rd (k : Int).toNat bs = some (a, r1)) := by rw [Int.toNat_natCast]; exact h1
    have hb3 : be a ≤ 16777215 := by have := pow256_le hk3.2; omega
    have H2 : Hid (rd ((be a : Nat) : Int).toNat r1 = none) := by rw [Int.toNat_natCast]; exact h2
    have HA : Hid (a.length = k) := ha
    clear hr h1 h2 ha hba
    go_enter Tryz.func44, Tryz.ntmps44
    go_wp2_with fail
    refine (read_yes p k w (by omega) H1.out hV hp hf).mono ?_
    rintro e w1 ⟨v1, v2, rfl, hv1, hv2, rfl⟩
    obtain ⟨off, cap, rfl, hx1⟩ := hv1.slice
    have hat : Hid (∀ i, i < a.length → C[off + i]? = some (by8 (a.getD i 0))) := hv1.at.2
    rw [HA.out] at hv1 hx1 ⊢
    clear hv1
    go_wp2_with fail
    go_loop [8, 19] (fun n i => ∃ j : Nat, j ≤ k ∧ i = .int .i64 j ∧ n = .int .u32 (be (a.take j))) (fun _ i => k - (intOf i).toNat)
    case atStart => exact ⟨0, Nat.zero_le _, rfl, by simp [be]⟩
    case round =>
      obtain ⟨j, hj, rfl, rfl⟩ := hrel
      by_cases hjk : j < k
      · have hcell : (w.setCell p v2).cell? ⟨db, off + j, none⟩ = some (by8 (a.getD j 0)) := by
          rw [cell_past hpd, cell_of_heap hD, hat.out j (by rw [HA.out]; exact hjk)]
        go_wp2_with fail
        go_round
        case rel => exact ⟨j + 1, by omega, by go_num, by rw [be_round HA.out hk3.2 hjk]⟩
        case measure => simp [intOf]; omega
      · have hkj : j = k := by omega
        subst hkj
        have e3 : a.take j = a := by rw [← HA.out]; simp
        rw [e3]
        clear e3
        go_wp2_with fail
        refine (read_none p _ _ (by omega) H2.out hv2 (cell_same hp)).mono ?_
        rintro e w1 ⟨rfl, rfl⟩
        go_wp2
        go_ret
        exact ⟨_, rfl, rfl⟩

set_option maxRecDepth 100000 in
set_option maxHeartbeats 800000 in
theorem skip_yes {C : Array Value} {db : Nat} {v : Value} {bs a r : List UInt8} (p : Addr) (n : Int) (w : World) (h0 : 0 ≤ n) (hr : rd n.toNat bs = some (a, r)) (hV : View C db v bs)
    (hp : w.cell? p = some v) (hf : w.frozen? p = false) :
    Calls Tryz.prog 26 #[.pointer (some p), .int .i64 n] w fun e w' => ∃ v2, e = .returned (.bool true) ∧ View C db v2 r ∧ w' = w.setCell p v2 := by
  have HR := Lib.hid hr
  clear hr
  go_enter Tryz.func26, Tryz.ntmps26
  go_wp2_with fail
  refine (read_yes p n w h0 HR.out hV hp hf).mono ?_
  rintro e w1 ⟨v1, v2, rfl, hv1, hv2, rfl⟩
  obtain ⟨off, cap, rfl, hx1⟩ := hv1.slice
  go_wp2
  go_ret
  exact ⟨_, rfl, hv2, rfl⟩

set_option maxRecDepth 100000 in
theorem skip_no {ao : Option Addr} {len cap : Nat} (p : Addr) (n : Int) (w : World) (h0 : 0 ≤ n) (hn : len < n) (hl : len ≤ 9223372036854775807)
    (hp : w.cell? p = some (.slice ao len cap)) :
    Calls Tryz.prog 26 #[.pointer (some p), .int .i64 n] w fun e w' => e = .returned (.bool false) ∧ w = w' := by
  go_enter Tryz.func26, Tryz.ntmps26
  go_wp2_with fail
  refine (read_no p n w h0 hn hl hp).mono ?_
  rintro e w1 ⟨rfl, rfl⟩
  go_wp2
  go_ret
  exact ⟨rfl, rfl⟩

set_option maxRecDepth 100000 in
set_option maxHeartbeats 800000 in
theorem ru8_yes {C : Array Value} {db : Nat} {T : TypeId} {fr : Nat × Nat} {v vq : Value} {bs a r : List UInt8} (p q : Addr) (w : World) (hr : rd 1 bs = some (a, r))
    (hD : w.heap[db]? = some (.cells C T fr)) (hV : View C db v bs) (hp : w.cell? p = some v) (hf : w.frozen? p = false) (hq : w.cell? q = some vq) (hfq : w.frozen? q = false)
    (hpd : ¬ p.block = db) (hpq : ¬ p = q) :
    Calls Tryz.prog 32 #[.pointer (some p), .pointer (some q)] w fun e w' => ∃ v2, e = .returned (.bool true) ∧ View C db v2 r ∧ w' = (w.setCell p v2).setCell q (.int .u8 (be a)) := by
  have HR := Lib.hid hr
  have ha := (rd_some hr).2
  clear hr
  obtain ⟨b, rfl⟩ : ∃ b, a = [b] := by
    cases a with
    | nil => simp at ha
    | cons b l => cases l with
      | nil => exact ⟨b, rfl⟩
      | cons c l => simp at ha
  clear ha
  go_enter Tryz.func32, Tryz.ntmps32
  go_wp2_with fail
  refine (read_yes p 1 w (by omega) HR.out hV hp hf).mono ?_
  rintro e w1 ⟨v1, v2, rfl, hv1, hv2, rfl⟩
  obtain ⟨off, cap, rfl, hx1⟩ := hv1.slice
  have hc0 : (w.setCell p v2).cell? ⟨db, off, none⟩ = some (by8 b) := by rw [cell_past hpd, cell_of_heap hD]; simpa using hv1.at.2 0 (by simp)
  clear hv1
  go_wp2
  go_ret
  exact ⟨_, rfl, hv2, by simp [be]⟩

set_option maxRecDepth 100000 in
set_option maxHeartbeats 800000 in
theorem ru16_yes {C : Array Value} {db : Nat} {T : TypeId} {fr : Nat × Nat} {v vq : Value} {bs a r : List UInt8} (p q : Addr) (w : World) (hr : rd 2 bs = some (a, r))
    (hD : w.heap[db]? = some (.cells C T fr)) (hV : View C db v bs) (hp : w.cell? p = some v) (hf : w.frozen? p = false) (hq : w.cell? q = some vq) (hfq : w.frozen? q = false)
    (hpd : ¬ p.block = db) (hpq : ¬ p = q) :
    Calls Tryz.prog 27 #[.pointer (some p), .pointer (some q)] w fun e w' => ∃ v2, e = .returned (.bool true) ∧ View C db v2 r ∧ w' = ((w.setCell p v2).setCell q (.int .u16 (be a))).drew := by
  have HR := Lib.hid hr
  have ha := (rd_some hr).2
  clear hr
  obtain ⟨b0, b1, rfl⟩ : ∃ b0 b1, a = [b0, b1] := by
    match a, ha with
    | [b0, b1], _ => exact ⟨b0, b1, rfl⟩
  clear ha
  go_enter Tryz.func27, Tryz.ntmps27
  go_wp2_with fail
  refine (read_yes p 2 w (by omega) HR.out hV hp hf).mono ?_
  rintro e w1 ⟨v1, v2, rfl, hv1, hv2, rfl⟩
  obtain ⟨off, cap, rfl, hx1⟩ := hv1.slice
  have hc0 : (w.setCell p v2).cell? ⟨db, off, none⟩ = some (by8 b0) := by rw [cell_past hpd, cell_of_heap hD]; simpa using hv1.at.2 0 (by simp)
  have hc1 : (w.setCell p v2).cell? ⟨db, off + 1, none⟩ = some (by8 b1) := by rw [cell_past hpd, cell_of_heap hD]; simpa using hv1.at.2 1 (by simp)
  clear hv1
  go_wp2_with fail
  refine region_tail 12 (by kernel_rfl) ?_
  simp only [List.take_succ_cons, List.take_zero, List.drop_succ_cons, List.drop_zero]
  repeat still_step
  refine wpStill_nil ?_
  go_wp2
  go_ret
  exact ⟨_, rfl, hv2, by rw [u16_be]⟩

set_option maxRecDepth 100000 in
set_option maxHeartbeats 800000 in
theorem ru32_yes {C : Array Value} {db : Nat} {T : TypeId} {fr : Nat × Nat} {v vq : Value} {bs a r : List UInt8} (p q : Addr) (w : World) (hr : rd 4 bs = some (a, r))
    (hD : w.heap[db]? = some (.cells C T fr)) (hV : View C db v bs) (hp : w.cell? p = some v) (hf : w.frozen? p = false) (hq : w.cell? q = some vq) (hfq : w.frozen? q = false)
    (hpd : ¬ p.block = db) (hpq : ¬ p = q) :
    Calls Tryz.prog 37 #[.pointer (some p), .pointer (some q)] w fun e w' => ∃ v2, e = .returned (.bool true) ∧ View C db v2 r ∧ w' = ((w.setCell p v2).setCell q (.int .u32 (be a))).drew := by
  have HR := Lib.hid hr
  have ha := (rd_some hr).2
  clear hr
  obtain ⟨b0, b1, b2, b3, rfl⟩ : ∃ b0 b1 b2 b3, a = [b0, b1, b2, b3] := by
    match a, ha with
    | [b0, b1, b2, b3], _ => exact ⟨b0, b1, b2, b3, rfl⟩
  clear ha
  go_enter Tryz.func37, Tryz.ntmps37
  go_wp2_with fail
  refine (read_yes p 4 w (by omega) HR.out hV hp hf).mono ?_
  rintro e w1 ⟨v1, v2, rfl, hv1, hv2, rfl⟩
  obtain ⟨off, cap, rfl, hx1⟩ := hv1.slice
  have hc0 : (w.setCell p v2).cell? ⟨db, off, none⟩ = some (by8 b0) := by rw [cell_past hpd, cell_of_heap hD]; simpa using hv1.at.2 0 (by simp)
  have hc1 : (w.setCell p v2).cell? ⟨db, off + 1, none⟩ = some (by8 b1) := by rw [cell_past hpd, cell_of_heap hD]; simpa using hv1.at.2 1 (by simp)
  have hc2 : (w.setCell p v2).cell? ⟨db, off + 2, none⟩ = some (by8 b2) := by rw [cell_past hpd, cell_of_heap hD]; simpa using hv1.at.2 2 (by simp)
  have hc3 : (w.setCell p v2).cell? ⟨db, off + 3, none⟩ = some (by8 b3) := by rw [cell_past hpd, cell_of_heap hD]; simpa using hv1.at.2 3 (by simp)
  clear hv1
  go_wp2_with fail
  refine region_tail 24 (by kernel_rfl) ?_
  simp only [List.take_succ_cons, List.take_zero, List.drop_succ_cons, List.drop_zero]
  repeat still_step
  refine wpStill_nil ?_
  go_wp2
  go_ret
  exact ⟨_, rfl, hv2, by rw [u32_be]⟩

set_option maxRecDepth 100000 in
theorem ru8_no {C : Array Value} {db : Nat} {v : Value} {bs : List UInt8} (p : Addr) (qo : Option Addr) (w : World) (hr : rd 1 bs = none) (hV : View C db v bs) (hp : w.cell? p = some v) :
    Calls Tryz.prog 32 #[.pointer (some p), .pointer qo] w fun e w' => e = .returned (.bool false) ∧ w = w' := by
  have HR := Lib.hid hr
  clear hr
  go_enter Tryz.func32, Tryz.ntmps32
  go_wp2_with fail
  refine (read_none p 1 w (by omega) HR.out hV hp).mono ?_
  rintro e w1 ⟨rfl, rfl⟩
  go_wp2
  go_ret
  exact ⟨rfl, rfl⟩
set_option maxRecDepth 100000 in
theorem ru16_no {C : Array Value} {db : Nat} {v : Value} {bs : List UInt8} (p : Addr) (qo : Option Addr) (w : World) (hr : rd 2 bs = none) (hV : View C db v bs) (hp : w.cell? p = some v) :
    Calls Tryz.prog 27 #[.pointer (some p), .pointer qo] w fun e w' => e = .returned (.bool false) ∧ w = w' := by
  have HR := Lib.hid hr
  clear hr
  go_enter Tryz.func27, Tryz.ntmps27
  go_wp2_with fail
  refine (read_none p 2 w (by omega) HR.out hV hp).mono ?_
  rintro e w1 ⟨rfl, rfl⟩
  go_wp2
  go_ret
  exact ⟨rfl, rfl⟩
set_option maxRecDepth 100000 in
theorem ru32_no {C : Array Value} {db : Nat} {v : Value} {bs : List UInt8} (p : Addr) (qo : Option Addr) (w : World) (hr : rd 4 bs = none) (hV : View C db v bs) (hp : w.cell? p = some v) :
    Calls Tryz.prog 37 #[.pointer (some p), .pointer qo] w fun e w' => e = .returned (.bool false) ∧ w = w' := by
  have HR := Lib.hid hr
  clear hr
  go_enter Tryz.func37, Tryz.ntmps37
  go_wp2_with fail
  refine (read_none p 4 w (by omega) HR.out hV hp).mono ?_
  rintro e w1 ⟨rfl, rfl⟩
  go_wp2
  go_ret
  exact ⟨rfl, rfl⟩

set_option maxRecDepth 100000 in
theorem r8_yes {C : Array Value} {db : Nat} {T : TypeId} {fr : Nat × Nat} {v vq : Value} {bs x r : List UInt8} (p q : Addr) (w : World) (hr : rdv 1 bs = some (x, r))
    (hD : w.heap[db]? = some (.cells C T fr)) (hV : View C db v bs) (hp : w.cell? p = some v) (hf : w.frozen? p = false) (hq : w.cell? q = some vq) (hfq : w.frozen? q = false)
    (hpd : ¬ p.block = db) (hpq : ¬ p = q) :
    Calls Tryz.prog 34 #[.pointer (some p), .pointer (some q)] w fun e w' => ∃ v1 v2, e = .returned (.bool true) ∧ View C db v1 x ∧ View C db v2 r ∧ w' = (w.setCell p v2).setCell q v1 := by
  have HR := Lib.hid hr
  clear hr
  go_enter Tryz.func34, Tryz.ntmps34
  go_wp2_with fail
  refine (rlp_yes p q 1 w (by omega) HR.out hD hV hp hf hq hfq hpd hpq).mono ?_
  rintro e w1 ⟨v1, v2, rfl, hv1, hv2, rfl⟩
  go_wp2
  go_ret
  exact ⟨_, _, rfl, hv1, hv2, rfl⟩

set_option maxRecDepth 100000 in
theorem r8_no {C : Array Value} {db : Nat} {T : TypeId} {fr : Nat × Nat} {v : Value} {bs : List UInt8} (p : Addr) (qo : Option Addr) (w : World) (hr : rdv 1 bs = none)
    (hD : w.heap[db]? = some (.cells C T fr)) (hV : View C db v bs) (hp : w.cell? p = some v) (hf : w.frozen? p = false) (hpd : ¬ p.block = db) :
    Calls Tryz.prog 34 #[.pointer (some p), .pointer qo] w fun e w' => ∃ v2, e = .returned (.bool false) ∧ w' = w.setCell p v2 := by
  have HR := Lib.hid hr
  clear hr
  go_enter Tryz.func34, Tryz.ntmps34
  go_wp2_with fail
  refine (rlp_no p qo 1 w (by omega) HR.out hD hV hp hf hpd).mono ?_
  rintro e w1 ⟨v2, rfl, rfl⟩
  go_wp2
  go_ret
  exact ⟨_, rfl, rfl⟩

set_option maxRecDepth 100000 in
theorem r16_yes {C : Array Value} {db : Nat} {T : TypeId} {fr : Nat × Nat} {v vq : Value} {bs x r : List UInt8} (p q : Addr) (w : World) (hr : rdv 2 bs = some (x, r))
    (hD : w.heap[db]? = some (.cells C T fr)) (hV : View C db v bs) (hp : w.cell? p = some v) (hf : w.frozen? p = false) (hq : w.cell? q = some vq) (hfq : w.frozen? q = false)
    (hpd : ¬ p.block = db) (hpq : ¬ p = q) :
    Calls Tryz.prog 30 #[.pointer (some p), .pointer (some q)] w fun e w' => ∃ v1 v2, e = .returned (.bool true) ∧ View C db v1 x ∧ View C db v2 r ∧ w' = (w.setCell p v2).setCell q v1 := by
  have HR := Lib.hid hr
  clear hr
  go_enter Tryz.func30, Tryz.ntmps30
  go_wp2_with fail
  refine (rlp_yes p q 2 w (by omega) HR.out hD hV hp hf hq hfq hpd hpq).mono ?_
  rintro e w1 ⟨v1, v2, rfl, hv1, hv2, rfl⟩
  go_wp2
  go_ret
  exact ⟨_, _, rfl, hv1, hv2, rfl⟩

set_option maxRecDepth 100000 in
theorem r16_no {C : Array Value} {db : Nat} {T : TypeId} {fr : Nat × Nat} {v : Value} {bs : List UInt8} (p : Addr) (qo : Option Addr) (w : World) (hr : rdv 2 bs = none)
    (hD : w.heap[db]? = some (.cells C T fr)) (hV : View C db v bs) (hp : w.cell? p = some v) (hf : w.frozen? p = false) (hpd : ¬ p.block = db) :
    Calls Tryz.prog 30 #[.pointer (some p), .pointer qo] w fun e w' => ∃ v2, e = .returned (.bool false) ∧ w' = w.setCell p v2 := by
  have HR := Lib.hid hr
  clear hr
  go_enter Tryz.func30, Tryz.ntmps30
  go_wp2_with fail
  refine (rlp_no p qo 2 w (by omega) HR.out hD hV hp hf hpd).mono ?_
  rintro e w1 ⟨v2, rfl, rfl⟩
  go_wp2
  go_ret
  exact ⟨_, rfl, rfl⟩

set_option maxRecDepth 100000 in
theorem t8_yes {C : Array Value} {db : Nat} {T : TypeId} {fr : Nat × Nat} {v vq : Value} {bs x r : List UInt8} (p q : Addr) (w : World) (hr : rdv 1 bs = some (x, r))
    (hD : w.heap[db]? = some (.cells C T fr)) (hV : View C db v bs) (hp : w.cell? p = some v) (hf : w.frozen? p = false) (hq : w.cell? q = some vq) (hfq : w.frozen? q = false)
    (hpd : ¬ p.block = db) (hpq : ¬ p = q) :
    Calls Tryz.prog 29 #[.pointer (some p), .pointer (some q)] w fun e w' => ∃ v1 v2, e = .returned (.bool true) ∧ View C db v1 x ∧ View C db v2 r ∧ w' = (w.setCell p v2).setCell q v1 := by
  have HR := Lib.hid hr
  clear hr
  go_enter Tryz.func29, Tryz.ntmps29
  go_wp2_with fail
  refine (r8_yes p q w HR.out hD hV hp hf hq hfq hpd hpq).mono ?_
  rintro e w1 ⟨v1, v2, rfl, hv1, hv2, rfl⟩
  go_wp2
  go_ret
  exact ⟨_, _, rfl, hv1, hv2, rfl⟩

set_option maxRecDepth 100000 in
theorem t8_no {C : Array Value} {db : Nat} {T : TypeId} {fr : Nat × Nat} {v : Value} {bs : List UInt8} (p : Addr) (qo : Option Addr) (w : World) (hr : rdv 1 bs = none)
    (hD : w.heap[db]? = some (.cells C T fr)) (hV : View C db v bs) (hp : w.cell? p = some v) (hf : w.frozen? p = false) (hpd : ¬ p.block = db) :
    Calls Tryz.prog 29 #[.pointer (some p), .pointer qo] w fun e w' => ∃ v2, e = .returned (.bool false) ∧ w' = w.setCell p v2 := by
  have HR := Lib.hid hr
  clear hr
  go_enter Tryz.func29, Tryz.ntmps29
  go_wp2_with fail
  refine (r8_no p qo w HR.out hD hV hp hf hpd).mono ?_
  rintro e w1 ⟨v2, rfl, rfl⟩
  go_wp2
  go_ret
  exact ⟨_, rfl, rfl⟩

set_option maxRecDepth 100000 in
theorem t16_yes {C : Array Value} {db : Nat} {T : TypeId} {fr : Nat × Nat} {v vq : Value} {bs x r : List UInt8} (p q : Addr) (w : World) (hr : rdv 2 bs = some (x, r))
    (hD : w.heap[db]? = some (.cells C T fr)) (hV : View C db v bs) (hp : w.cell? p = some v) (hf : w.frozen? p = false) (hq : w.cell? q = some vq) (hfq : w.frozen? q = false)
    (hpd : ¬ p.block = db) (hpq : ¬ p = q) :
    Calls Tryz.prog 35 #[.pointer (some p), .pointer (some q)] w fun e w' => ∃ v1 v2, e = .returned (.bool true) ∧ View C db v1 x ∧ View C db v2 r ∧ w' = (w.setCell p v2).setCell q v1 := by
  have HR := Lib.hid hr
  clear hr
  go_enter Tryz.func35, Tryz.ntmps35
  go_wp2_with fail
  refine (r16_yes p q w HR.out hD hV hp hf hq hfq hpd hpq).mono ?_
  rintro e w1 ⟨v1, v2, rfl, hv1, hv2, rfl⟩
  go_wp2
  go_ret
  exact ⟨_, _, rfl, hv1, hv2, rfl⟩

set_option maxRecDepth 100000 in
theorem t16_no {C : Array Value} {db : Nat} {T : TypeId} {fr : Nat × Nat} {v : Value} {bs : List UInt8} (p : Addr) (qo : Option Addr) (w : World) (hr : rdv 2 bs = none)
    (hD : w.heap[db]? = some (.cells C T fr)) (hV : View C db v bs) (hp : w.cell? p = some v) (hf : w.frozen? p = false) (hpd : ¬ p.block = db) :
    Calls Tryz.prog 35 #[.pointer (some p), .pointer qo] w fun e w' => ∃ v2, e = .returned (.bool false) ∧ w' = w.setCell p v2 := by
  have HR := Lib.hid hr
  clear hr
  go_enter Tryz.func35, Tryz.ntmps35
  go_wp2_with fail
  refine (r16_no p qo w HR.out hD hV hp hf hpd).mono ?_
  rintro e w1 ⟨v2, rfl, rfl⟩
  go_wp2
  go_ret
  exact ⟨_, rfl, rfl⟩

set_option maxRecDepth 100000 in
theorem rb_yes {C : Array Value} {db : Nat} {v vq : Value} {bs a r : List UInt8} (p q : Addr) (n : Int) (w : World) (h0 : 0 ≤ n) (hr : rd n.toNat bs = some (a, r)) (hV : View C db v bs)
    (hp : w.cell? p = some v) (hf : w.frozen? p = false) (hq : w.cell? q = some vq) (hfq : w.frozen? q = false) (hpq : ¬ p = q) :
    Calls Tryz.prog 28 #[.pointer (some p), .pointer (some q), .int .i64 n] w fun e w' => ∃ v1 v2, e = .returned (.bool true) ∧ View C db v1 a ∧ View C db v2 r ∧ w' = (w.setCell p v2).setCell q v1 := by
  have HR := Lib.hid hr
  clear hr
  go_enter Tryz.func28, Tryz.ntmps28
  go_wp2_with fail
  refine (read_yes p n w h0 HR.out hV hp hf).mono ?_
  rintro e w1 ⟨v1, v2, rfl, hv1, hv2, rfl⟩
  obtain ⟨off, cap, rfl, hx1⟩ := hv1.slice
  go_wp2
  go_ret
  exact ⟨_, _, rfl, hv1, hv2, rfl⟩

set_option maxRecDepth 100000 in
theorem rb_no {C : Array Value} {db : Nat} {v : Value} {bs : List UInt8} (p : Addr) (qo : Option Addr) (n : Int) (w : World) (h0 : 0 ≤ n) (hr : rd n.toNat bs = none) (hV : View C db v bs) (hp : w.cell? p = some v) :
    Calls Tryz.prog 28 #[.pointer (some p), .pointer qo, .int .i64 n] w fun e w' => e = .returned (.bool false) ∧ w = w' := by
  have HR := Lib.hid hr
  clear hr
  go_enter Tryz.func28, Tryz.ntmps28
  go_wp2_with fail
  refine (read_none p n w h0 HR.out hV hp).mono ?_
  rintro e w1 ⟨rfl, rfl⟩
  go_wp2
  go_ret
  exact ⟨rfl, rfl⟩

theorem empty_any {C : Array Value} {db : Nat} {v : Value} {bs : List UInt8} (w : World) (hV : View C db v bs) :
    Calls Tryz.prog 31 #[v] w fun e w' => e = .returned (.bool bs.isEmpty) ∧ w = w' := by
  obtain ⟨off, cap, rfl, hl⟩ := hV.slice
  clear hV
  cases bs with
  | nil =>
    go_enter Tryz.func31, Tryz.ntmps31
    go_wp2
    go_ret
    exact ⟨rfl, rfl⟩
  | cons b l =>
    have he : (((b :: l).length : Int) == 0) = false := by simp; omega
    go_enter Tryz.func31, Tryz.ntmps31
    go_wp2
    go_ret
    exact ⟨by simp; omega, rfl⟩

end Go.Proofs.YtopcljikkdlffaaGreat
namespace Go.Proofs.YtopcljikkdlffaaGreat
open Go.RowKit

/-- The cells of a Builder: its error, its bytes, its child, where it begins, how long its length is, its flag's address. -/
abbrev bcells (er v ch : Value) (off pl : Nat) (ic : Value) : Array Value := #[er, v, .bool false, ch, .int .i64 off, .int .i64 pl, .bool false, ic]

/-- A block of bytes. -/
def IsRow (w : World) (k : Nat) : Prop := ∃ cs fr, w.heap[k]? = some (.cells cs 5 fr)

/-- What a builder's method leaves alone: every block that was there but its own, and but rows of bytes from base on. -/
structure Fr (base c : Nat) (w w' : World) : Prop where
  os : w'.os = w.os
  tape : w'.tape = w.tape
  output : w'.output = w.output
  size : w.heap.size ≤ w'.heap.size
  keep : ∀ k, k < w.heap.size → k ≠ c → (k < base ∨ ¬ IsRow w k) → w'.heap[k]? = w.heap[k]?

theorem Fr.refl (base c : Nat) (w : World) : Fr base c w w := ⟨rfl, rfl, rfl, Nat.le_refl _, fun _ _ _ _ => rfl⟩

theorem Fr.trans {base c : Nat} {a b d : World} (h : Fr base c a b) (k : Fr base c b d) : Fr base c a d :=
  ⟨k.os.trans h.os, k.tape.trans h.tape, k.output.trans h.output, Nat.le_trans h.size k.size, fun i hi hc hr => by
    have h1 := h.keep i hi hc hr
    have hr' : i < base ∨ ¬ IsRow b i := by
      rcases hr with hr | hr
      · exact .inl hr
      · exact .inr fun ⟨cs, fr, e⟩ => hr ⟨cs, fr, by rw [← h1]; exact e⟩
    exact (k.keep i (Nat.lt_of_lt_of_le hi h.size) hc hr').trans h1⟩

theorem Fr.drew {base c : Nat} {a w : World} (h : Fr base c a w) : Fr base c a w.drew := ⟨h.os, h.tape, h.output, h.size, h.keep⟩
theorem Fr.drewN {base c : Nat} {a w : World} (h : Fr base c a w) (n : Nat) : Fr base c a (w.drewN n) := ⟨h.os, h.tape, h.output, h.size, h.keep⟩
theorem Fr.of_drew {base c : Nat} {w w' : World} (h : Fr base c w.drew w') : Fr base c w w' := ⟨h.os, h.tape, h.output, h.size, h.keep⟩
theorem Fr.alloc {base c : Nat} {a w : World} (h : Fr base c a w) (o : Obj) : Fr base c a (w.alloc o) :=
  h.trans ⟨rfl, rfl, rfl, by simp, fun _ hk _ _ => Below.heap_alloc _ _ _ hk⟩
theorem Fr.setCell {base c : Nat} {a w : World} (h : Fr base c a w) (o : Nat) (u : Value) : Fr base c a (w.setCell ⟨c, o, none⟩ u) :=
  h.trans ⟨rfl, rfl, rfl, by simp [World.setCell], fun _ _ hc _ => Below.heap_setCell _ _ _ _ hc⟩
/-- Behind an append to a row of bytes from base on. -/
theorem Fr.grown {base c : Nat} {a w w' : World} {size n : Nat} {v : Value} {xs : List Value} (h : Fr base c a w) (hg : w.grownBy w' v.ownBlock) (ho : w.ownsRow base 5 size v n xs) : Fr base c a w' :=
  h.trans ⟨hg.os, hg.tape, hg.output, hg.size, fun k hk _ hr => hg.block k hk fun e => by
    obtain ⟨_, h2⟩ := ho
    rcases h2 with ⟨rfl, _⟩ | ⟨g, cap, cur, rfl, hb, hh, _⟩
    · cases e
    · simp only [Value.ownBlock, Option.some.injEq] at e
      subst e
      rcases hr with hr | hr
      · omega
      · exact hr ⟨_, _, hh⟩⟩
theorem Fr.mono {base base' c : Nat} {w w' : World} (h : Fr base c w w') (hb : base' ≤ base) : Fr base' c w w' :=
  ⟨h.os, h.tape, h.output, h.size, fun k hk hc hr => h.keep k hk hc (hr.elim (fun h => .inl (by omega)) .inr)⟩
theorem Fr.below {base c : Nat} {w w' : World} (h : Fr base c w w') (hb : base ≤ w.heap.size) (hc : base ≤ c) : Below base w w' :=
  ⟨h.os, h.tape, h.output, h.size, fun k hk => h.keep k (by omega) (by omega) (.inl hk)⟩

theorem heap_set_same {w : World} {b o : Nat} {C : Array Value} {T : TypeId} {fr : Nat × Nat} {u : Value} (h : w.heap[b]? = some (.cells C T fr)) :
    (w.setCell ⟨b, o, none⟩ u).heap[b]? = some (.cells (C.setIfInBounds o u) T fr) := by
  simp [World.setCell, Array.getElem?_modify, h]

theorem frozen_of_heap {w : World} {b o : Nat} {C : Array Value} {T : TypeId} (h : w.heap[b]? = some (.cells C T (0, 0))) : w.frozen? ⟨b, o, none⟩ = false := by
  simp [World.frozen?, h]

theorem bfacts {w : World} {c off pl : Nat} {er v ch ic : Value} (h : w.heap[c]? = some (.cells (bcells er v ch off pl ic) 96 (0, 0))) :
    w.cell? ⟨c, 0, none⟩ = some er ∧ w.cell? ⟨c, 1, none⟩ = some v ∧ w.cell? ⟨c, 2, none⟩ = some (.bool false) ∧ w.cell? ⟨c, 3, none⟩ = some ch ∧
    w.cell? ⟨c, 4, none⟩ = some (.int .i64 off) ∧ w.cell? ⟨c, 5, none⟩ = some (.int .i64 pl) ∧ w.cell? ⟨c, 6, none⟩ = some (.bool false) ∧ w.cell? ⟨c, 7, none⟩ = some ic := by
  refine ⟨?_, ?_, ?_, ?_, ?_, ?_, ?_, ?_⟩ <;> (rw [cell_of_heap h]; rfl)

/-- A slice that shows the bytes s: nil, or at an address. -/
def Src (w : World) (v : Value) (s : List UInt8) : Prop :=
  (v = .slice none 0 0 ∧ s = []) ∨ ∃ ad cap, v = .slice (some ad) s.length cap ∧ ∀ j u, (s.map by8)[j]? = some u → w.cell? (ad.add j) = some u

/-- A builder without error and without child: its bytes so far. -/
def BAt (w : World) (base c off pl : Nat) (ic : Value) (bs : List UInt8) : Prop :=
  ∃ v, w.heap[c]? = some (.cells (bcells .nilIface v (.pointer none) off pl ic) 96 (0, 0)) ∧ w.ownsRow base 5 1 v bs.length (bs.map by8) ∧ base ≤ w.heap.size

theorem Tryz.info5 : (Tryz.prog.info? 5).map (fun i => (i.zero, i.size, i.bytes)) = some (some (.int .u8 0), 1, 1) := by kernel_rfl

theorem row_slice {w : World} {base n : Nat} {e : TypeId} {size : Nat} {v : Value} {xs : List Value} (h : w.ownsRow base e size v n xs) : ∃ ao cap, v = .slice ao n cap := by
  rcases h.2 with ⟨rfl, h2⟩ | ⟨g, cap, cur, rfl, _⟩
  · exact ⟨none, 0, by rw [h2]⟩
  · exact ⟨_, _, rfl⟩

/-- A block of another kind lies still behind an append to a row of bytes. -/
theorem grown_other {w w' : World} {base size n c : Nat} {v : Value} {xs : List Value} {C : Array Value} {T : TypeId} {fr : Nat × Nat} (hg : w.grownBy w' v.ownBlock) (ho : w.ownsRow base 5 size v n xs)
    (hc : w.heap[c]? = some (.cells C T fr)) (hT : T ≠ 5) : w'.heap[c]? = some (.cells C T fr) := by
  have hlt : c < w.heap.size := by
    rcases Nat.lt_or_ge c w.heap.size with h | h
    · exact h
    · rw [Array.getElem?_eq_none h] at hc; cases hc
  rw [hg.block c hlt, hc]
  intro e
  rcases ho.2 with ⟨rfl, _⟩ | ⟨g, cap, cur, rfl, hb, hh, _⟩
  · cases e
  · simp only [Value.ownBlock, Option.some.injEq] at e
    subst e
    rw [hc] at hh
    simp only [Option.some.injEq, Obj.cells.injEq] at hh
    exact hT hh.2.1

theorem lt_of_heap {w : World} {c : Nat} {o : Obj} (hc : w.heap[c]? = some o) : c < w.heap.size := by
  rcases Nat.lt_or_ge c w.heap.size with h | h
  · exact h
  · rw [Array.getElem?_eq_none h] at hc; cases hc

theorem ownsRow_set {w : World} {base size n c o : Nat} {e : TypeId} {u v : Value} {xs : List Value} {C : Array Value} {T : TypeId} {fr : Nat × Nat} (h : w.ownsRow base e size v n xs)
    (hc : w.heap[c]? = some (.cells C T fr)) (hT : T ≠ e) : (w.setCell ⟨c, o, none⟩ u).ownsRow base e size v n xs := by
  refine ⟨h.1, ?_⟩
  rcases h.2 with h2 | ⟨g, cap, cur, hv, hg, hh, r⟩
  · exact .inl h2
  · refine .inr ⟨g, cap, cur, hv, hg, ?_, r⟩
    rw [Below.heap_setCell _ _ _ _ ?_]
    · exact hh
    · rintro rfl
      rw [hc] at hh
      simp only [Option.some.injEq, Obj.cells.injEq] at hh
      exact hT hh.2.1

set_option maxRecDepth 100000 in
set_option maxHeartbeats 1000000 in
theorem add_ok {base c off pl : Nat} {ic src : Value} {bs s : List UInt8} (w : World) (hB : BAt w base c off pl ic bs) (hs : Src w src s) (hl : bs.length + s.length ≤ 70368744177664) :
    Calls Tryz.prog 98 #[.pointer (some ⟨c, 0, none⟩), src] w fun e w' => e = .returned (.tuple #[]) ∧ BAt w' base c off pl ic (bs ++ s) ∧ Fr base c w w' := by
  obtain ⟨v, hc, hown, hbase⟩ := hB
  obtain ⟨f0, f1, f2, f3, f4, f5, f6, f7⟩ := bfacts hc
  have hfz : ∀ o, w.frozen? ⟨c, o, none⟩ = false := fun o => frozen_of_heap hc
  obtain ⟨i0, hi, hz0, hz1, hz2⟩ := info_parts Tryz.info5
  obtain ⟨ao, cap, rfl⟩ := row_slice hown
  have HC := Lib.hid hc
  clear hc
  rcases hs with ⟨rfl, rfl⟩ | ⟨ad, capx, rfl, hnews⟩
  · have HF : Hid (∀ nq, Fr base c w (w.drewN nq)) := fun nq => ⟨rfl, rfl, rfl, Nat.le_refl _, fun _ _ _ _ => rfl⟩
    go_enter Tryz.func98, Tryz.ntmps98
    go_wp2_with fail
    go_quiet (fail)
    go_wp2_with (at_builtin; refine wpList_append_own_none rfl (.tmp 58) (.tmp 59) 22 rfl base 5 i0 1 Tryz.underlying22 hi _ bs.length (bs.map by8) rfl (show World.ownsRow (w.drewN nq) _ _ _ _ _ _ from hown) rfl ?_)
    go_end0
    refine ⟨rfl, ⟨_, (heap_set_same HC.out).trans rfl, ?_, by simpa using hbase⟩, ?_⟩
    · simp only [List.append_nil]; exact ownsRow_set (w := w.drewN nq) hown HC.out (by decide)
    · exact (HF.out nq).setCell 1 _
  · have HF : Hid (∀ nq, Fr base c w (w.drewN nq)) := fun nq => ⟨rfl, rfl, rfl, Nat.le_refl _, fun _ _ _ _ => rfl⟩
    go_enter Tryz.func98, Tryz.ntmps98
    go_wp2_with fail
    go_quiet (fail)
    go_wp2_with (at_builtin; refine wpList_append_own _ rfl (.tmp 58) (.tmp 59) 22 rfl base 5 i0 (.int .u8 0) 1 1 Tryz.underlying22 hi hz0 hz1 hz2 rfl (by decide) _ bs.length (bs.map by8) rfl (show World.ownsRow (w.drewN nq) _ _ _ _ _ _ from hown) ad s.length capx (s.map by8) rfl (by simp) hnews (fun u hu => by obtain ⟨b, _, rfl⟩ := List.mem_map.1 hu; rfl) (by unfold maxLen; omega) (by omega) hbase ?_; intro v' w1 hown' hgrow _; obtain ⟨ao', cap', rfl⟩ := row_slice hown'; have HC1 := Lib.hid (grown_other hgrow (show World.ownsRow (w.drewN nq) _ _ _ _ _ _ from hown) HC.out (by decide)); have g1 := (bfacts HC1.out).2.1; have hfz1 : w1.frozen? ⟨c, 1, none⟩ = false := frozen_of_heap HC1.out; have HG := Lib.hid hgrow; have HO := Lib.hid hown'; clear hgrow hown')
    go_end0
    have hsz := HG.out.size
    refine ⟨rfl, ⟨_, (heap_set_same HC1.out).trans rfl, ?_, ?_⟩, ?_⟩
    · rw [List.length_append, List.map_append]; exact ownsRow_set HO.out HC1.out (by decide)
    · simp [World.setCell] at hsz ⊢; omega
    · refine Fr.setCell ?_ 1 _
      exact Fr.grown (w := w.drewN nq) (HF.out nq) HG.out hown

theorem BAt.alloc {w : World} {base c off pl : Nat} {ic : Value} {bs : List UInt8} (h : BAt w base c off pl ic bs) (o : Obj) : BAt (w.alloc o) base c off pl ic bs := by
  obtain ⟨v, hc, hown, hb⟩ := h
  exact ⟨v, (Below.heap_alloc _ _ _ (lt_of_heap hc)).trans hc, hown.alloc _, by simp; omega⟩

theorem en2 (n : Nat) : en 2 n = [UInt8.ofNat (n / 256), UInt8.ofNat n] := by simp [en]
theorem en3 (n : Nat) : en 3 n = [UInt8.ofNat (n / 65536), UInt8.ofNat (n / 256), UInt8.ofNat n] := by simp [en]
theorem en4 (n : Nat) : en 4 n = [UInt8.ofNat (n / 16777216), UInt8.ofNat (n / 65536), UInt8.ofNat (n / 256), UInt8.ofNat n] := by simp [en]
theorem en1 (n : Nat) : en 1 n = [UInt8.ofNat n] := by simp [en]

/-- A slice over bytes that have just been laid in a new block. -/
theorem src_new (w : World) {arr : Array Value} {T : TypeId} {s : List UInt8} {n : Nat} (ha : arr = (s.map by8).toArray) (hn : n = s.length) : Src (w.alloc (.cells arr T)) (.slice (some ⟨w.heap.size, 0, none⟩) n n) s := by
  subst ha; subst hn
  refine .inr ⟨_, _, rfl, fun j u hu => ?_⟩
  have e : (Addr.add ⟨w.heap.size, 0, none⟩ j) = ⟨w.heap.size, j, none⟩ := by unfold Addr.add; split <;> simp_all
  rw [e, World.cell?_alloc_new]
  simpa using hu

theorem by8_int {k : Nat} {n : Int} (h : (k : Int) % 256 = n) : by8 (UInt8.ofNat k) = .int .u8 n := by
  have e : (((UInt8.ofNat k).toNat : Nat) : Int) = n := by rw [UInt8.toNat_ofNat', ← h]; rfl
  unfold by8
  rw [e]

set_option maxRecDepth 100000 in
set_option maxHeartbeats 400000 in
theorem add8_ok {base c off pl : Nat} {ic : Value} {bs : List UInt8} (n : Int) (w : World) (h0 : 0 ≤ n) (h1 : n < 256) (hB : BAt w base c off pl ic bs) (hl : bs.length + 1 ≤ 70368744177664) :
    Calls Tryz.prog 46 #[.pointer (some ⟨c, 0, none⟩), .int .u8 n] w fun e w' => e = .returned (.tuple #[]) ∧ BAt w' base c off pl ic (bs ++ en 1 n.toNat) ∧ Fr base c w w' := by
  obtain ⟨k, rfl⟩ := Int.eq_ofNat_of_zero_le h0
  have HB := Lib.hid hB
  clear hB
  go_enter Tryz.func46, Tryz.ntmps46
  go_wp2_with fail
  refine (add_ok _ (HB.out.alloc _) (src_new w (s := en 1 k) ?_ rfl) hl).mono ?_
  · rw [en1, List.map_cons, List.map_nil, by8_int (n := (k : Int)) (by omega)]
  rintro e w1 ⟨rfl, hb, hf⟩
  go_wp2_with fail
  go_end0
  exact ⟨rfl, hb, ((Fr.refl base c w).alloc _).trans hf⟩

set_option maxRecDepth 100000 in
set_option maxHeartbeats 400000 in
theorem add16_ok {base c off pl : Nat} {ic : Value} {bs : List UInt8} (n : Int) (w : World) (h0 : 0 ≤ n) (h1 : n < 65536) (hB : BAt w base c off pl ic bs) (hl : bs.length + 2 ≤ 70368744177664) :
    Calls Tryz.prog 50 #[.pointer (some ⟨c, 0, none⟩), .int .u16 n] w fun e w' => e = .returned (.tuple #[]) ∧ BAt w' base c off pl ic (bs ++ en 2 n.toNat) ∧ Fr base c w w' := by
  obtain ⟨k, rfl⟩ := Int.eq_ofNat_of_zero_le h0
  have HB := Lib.hid hB
  clear hB
  go_enter Tryz.func50, Tryz.ntmps50
  go_wp2_with fail
  refine (add_ok _ (HB.out.alloc _) (src_new w (s := en 2 k) ?_ rfl) hl).mono ?_
  · rw [en2, List.map_cons, List.map_cons, List.map_nil, by8_int (n := ((k : Int) / 256)) (by omega), by8_int (n := ((k : Int) % 256)) (by omega)]
  rintro e w1 ⟨rfl, hb, hf⟩
  go_wp2_with fail
  go_end0
  exact ⟨rfl, hb, ((Fr.refl base c w).alloc _).trans hf⟩

set_option maxRecDepth 100000 in
set_option maxHeartbeats 400000 in
theorem add32_ok {base c off pl : Nat} {ic : Value} {bs : List UInt8} (n : Int) (w : World) (h0 : 0 ≤ n) (h1 : n < 4294967296) (hB : BAt w base c off pl ic bs) (hl : bs.length + 4 ≤ 70368744177664) :
    Calls Tryz.prog 89 #[.pointer (some ⟨c, 0, none⟩), .int .u32 n] w fun e w' => e = .returned (.tuple #[]) ∧ BAt w' base c off pl ic (bs ++ en 4 n.toNat) ∧ Fr base c w w' := by
  obtain ⟨k, rfl⟩ := Int.eq_ofNat_of_zero_le h0
  have HB := Lib.hid hB
  clear hB
  go_enter Tryz.func89, Tryz.ntmps89
  go_wp2_with fail
  refine (add_ok _ (HB.out.alloc _) (src_new w (s := en 4 k) ?_ rfl) hl).mono ?_
  · rw [en4, List.map_cons, List.map_cons, List.map_cons, List.map_cons, List.map_nil, by8_int (n := ((k : Int) / 16777216)) (by omega), by8_int (n := ((k : Int) / 65536 % 256)) (by omega), by8_int (n := ((k : Int) / 256 % 256)) (by omega), by8_int (n := ((k : Int) % 256)) (by omega)]
  rintro e w1 ⟨rfl, hb, hf⟩
  go_wp2_with fail
  go_end0
  exact ⟨rfl, hb, ((Fr.refl base c w).alloc _).trans hf⟩

set_option maxRecDepth 100000 in
set_option maxHeartbeats 400000 in
theorem addb_ok {base c off pl : Nat} {ic src : Value} {bs s : List UInt8} (w : World) (hB : BAt w base c off pl ic bs) (hs : Src w src s) (hl : bs.length + s.length ≤ 70368744177664) :
    Calls Tryz.prog 55 #[.pointer (some ⟨c, 0, none⟩), src] w fun e w' => e = .returned (.tuple #[]) ∧ BAt w' base c off pl ic (bs ++ s) ∧ Fr base c w w' := by
  have HB := Lib.hid hB
  have HS := Lib.hid hs
  clear hB hs
  go_enter Tryz.func55, Tryz.ntmps55
  go_wp2_with fail
  refine (add_ok w HB.out HS.out hl).mono ?_
  rintro e w1 ⟨rfl, hb, hf⟩
  go_wp2_with fail
  go_end0
  exact ⟨rfl, hb, hf⟩

theorem Tryz.info96 : (Tryz.prog.info? 96).map (fun i => (i.size)) = some 8 := by kernel_rfl

end Go.Proofs.YtopcljikkdlffaaGreat
