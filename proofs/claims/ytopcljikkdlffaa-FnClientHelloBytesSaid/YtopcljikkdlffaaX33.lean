/- The reference reads an extension of a ClientHello. The plain law of one extension of a ClientHello: what the reference makes of it, package tls makes of it; what the reference finds broken or out of range, package tls refuses. No program and no memory stand here. The plain law of the extensions of a ClientHello, one behind the other. No program and no memory stand here. No statement of the seat is proved here. -/
import Derived.Test.YtopcljikkdlffaaX31
import Derived.Test.YtopcljikkdlffaaX32
import Derived.Test.YtopcljikkdlffaaX16
namespace Go.Proofs.Ytopcljikkdlffaa
open Go.RowKit

section
variable {w0 w : World} {C : Array Value} {g m x : Nat} {rnd : FD} {f : CH} {st : Nat × List UInt8}

set_option maxRecDepth 100000 in
set_option maxHeartbeats 2000000 in
theorem cx_41 (h : Cx w0 w C g m x rnd f st) :
    Calls Try.prog 88 #[.pointer (some ⟨x, 0, none⟩), .int .u16 41, .pointer (some ⟨m, 0, none⟩)] w (CxPost w0 w C g m x rnd (rcext13 41 f st)) := by
  rw [show rcext13 41 f st = ({ f with psks := f.psks ++ (rids st).1, binders := (rbind (f.psks ++ (rids st).1).length (rids st).2).1 }, (rbind (f.psks ++ (rids st).1).length (rids st).2).2) from rfl]
  have hxm : x ≠ m := by have := h.hx; have := h.hm; omega
  have hmx : m ≠ x := fun e => hxm e.symm
  have hgx := h.hb.gne h.hx
  have hok := rV_ok (C := C) (g := g) (f := f) h.hr
  obtain ⟨T, fr, hg⟩ := h.hb.data
  have HG := Lib.hid hg
  have HX := Lib.hid h
  clear hg h
  go_enter Try.func88, Try.ntmps88
  go_wp2_with fail
  refine (readKeys_ok HX.out).mono ?_
  rintro e w1 ⟨rfl, hb, hr, hk⟩
  have HB1 := Lib.hid hb
  have HR1 := Lib.hid hr
  have HK1 := Lib.hid hk
  clear hb hr hk
  go_wp2_with fail
  go_end0
  refine ⟨rfl, HB1.out, ?_, HK1.out⟩
  have h9 := HR1.out
  simp only [List.length_append] at h9 ⊢
  exact h9

theorem cx13_ok (kind : Nat) (h : Cx w0 w C g m x rnd f st) :
    Calls Try.prog 88 #[.pointer (some ⟨x, 0, none⟩), .int .u16 kind, .pointer (some ⟨m, 0, none⟩)] w (CxPost w0 w C g m x rnd (rcext13 kind f st)) := by
  by_cases h43 : kind = 43
  · subst h43; exact cx_43 h
  by_cases h44 : kind = 44
  · subst h44; exact cx_44 h
  by_cases h51 : kind = 51
  · subst h51; exact cx_51 h
  by_cases h42 : kind = 42
  · subst h42; exact cx_42 h
  by_cases h45 : kind = 45
  · subst h45; exact cx_45 h
  by_cases h57 : kind = 57
  · subst h57; exact cx_57 h
  by_cases h65037 : kind = 65037
  · subst h65037; exact cx_65037 h
  by_cases h41 : kind = 41
  · subst h41; exact cx_41 h
  exact cx13_other kind h43 h44 h51 h42 h45 h57 h65037 h41 h

set_option maxRecDepth 100000 in
set_option maxHeartbeats 2000000 in
theorem cx_other (kind : Nat) (h0 : ¬ kind = 0) (h5 : ¬ kind = 5) (h10 : ¬ kind = 10) (h11 : ¬ kind = 11) (h35 : ¬ kind = 35) (h13 : ¬ kind = 13) (h50 : ¬ kind = 50) (h65281 : ¬ kind = 65281) (h23 : ¬ kind = 23) (h16 : ¬ kind = 16) (h18 : ¬ kind = 18) (h : Cx w0 w C g m x rnd f st) :
    Calls Try.prog 64 #[.pointer (some ⟨x, 0, none⟩), .int .u16 kind, .pointer (some ⟨m, 0, none⟩)] w (CxPost w0 w C g m x rnd (rcext kind f st)) := by
  have hres : rcext kind f st = rcext13 kind f st := by
    unfold rcext
    rw [if_neg h0, if_neg h5, if_neg h10, if_neg h11, if_neg h35, if_neg h13, if_neg h50, if_neg h65281, if_neg h23, if_neg h16, if_neg h18]
  rw [hres]
  have k0 : ¬ ((kind : Nat) : Int) = 0 := by omega
  have k5 : ¬ ((kind : Nat) : Int) = 5 := by omega
  have k10 : ¬ ((kind : Nat) : Int) = 10 := by omega
  have k11 : ¬ ((kind : Nat) : Int) = 11 := by omega
  have k35 : ¬ ((kind : Nat) : Int) = 35 := by omega
  have k13 : ¬ ((kind : Nat) : Int) = 13 := by omega
  have k50 : ¬ ((kind : Nat) : Int) = 50 := by omega
  have k65281 : ¬ ((kind : Nat) : Int) = 65281 := by omega
  have k23 : ¬ ((kind : Nat) : Int) = 23 := by omega
  have k16 : ¬ ((kind : Nat) : Int) = 16 := by omega
  have k18 : ¬ ((kind : Nat) : Int) = 18 := by omega
  clear hres h0 h5 h10 h11 h35 h13 h50 h65281 h23 h16 h18
  have hxm : x ≠ m := by have := h.hx; have := h.hm; omega
  have hmx : m ≠ x := fun e => hxm e.symm
  have hgx := h.hb.gne h.hx
  have hok := rV_ok (C := C) (g := g) (f := f) h.hr
  obtain ⟨T, fr, hg⟩ := h.hb.data
  have HG := Lib.hid hg
  have HX := Lib.hid h
  clear hg h
  go_enter Try.func64, Try.ntmps64
  go_wp2_with fail
  refine (cx13_ok kind HX.out).mono ?_
  rintro e w1 ⟨rfl, hb, hr, hk⟩
  have HB1 := Lib.hid hb
  have HR1 := Lib.hid hr
  have HK1 := Lib.hid hk
  clear hb hr hk
  go_wp2_with fail
  go_end0
  exact ⟨rfl, HB1.out, HR1.out, HK1.out⟩

theorem cx_ok (kind : Nat) (h : Cx w0 w C g m x rnd f st) :
    Calls Try.prog 64 #[.pointer (some ⟨x, 0, none⟩), .int .u16 kind, .pointer (some ⟨m, 0, none⟩)] w (CxPost w0 w C g m x rnd (rcext kind f st)) := by
  by_cases h0 : kind = 0
  · subst h0; exact cx_0 h
  by_cases h5 : kind = 5
  · subst h5; exact cx_5 h
  by_cases h10 : kind = 10
  · subst h10; exact cx_10 h
  by_cases h11 : kind = 11
  · subst h11; exact cx_11 h
  by_cases h35 : kind = 35
  · subst h35; exact cx_35 h
  by_cases h13 : kind = 13
  · subst h13; exact cx_13 h
  by_cases h50 : kind = 50
  · subst h50; exact cx_50 h
  by_cases h65281 : kind = 65281
  · subst h65281; exact cx_65281 h
  by_cases h23 : kind = 23
  · subst h23; exact cx_23 h
  by_cases h16 : kind = 16
  · subst h16; exact cx_16 h
  by_cases h18 : kind = 18
  · subst h18; exact cx_18 h
  exact cx_other kind h0 h5 h10 h11 h35 h13 h50 h65281 h23 h16 h18 h

end
end Go.Proofs.Ytopcljikkdlffaa
namespace Go.Proofs.Ytopcljikkdlffaa

theorem ca_rfail {k : Nat} {st : Nat × List UInt8} (h : st.1 ≠ 0) : rfail k st = (st.1, []) := by unfold rfail; simp [h]
theorem ca_rfail0 {k : Nat} {s : List UInt8} : rfail k (0, s) = (k, []) := by unfold rfail; simp

/-- A number from a reader that has found nothing. -/
theorem ca_rnum (k : Nat) (s : List UInt8) : (rd k s = none ∧ rnum k (0, s) = (0, (3, []))) ∨ ∃ a r, rd k s = some (a, r) ∧ rnum k (0, s) = (be a, (0, r)) := by
  unfold rnum rd
  by_cases h : s.length < k
  · left
    rw [if_neg (by omega), if_pos h, ca_rfail0]
    exact ⟨rfl, rfl⟩
  · right
    rw [if_pos (by omega), if_neg h]
    exact ⟨_, _, rfl, rfl⟩
theorem ca_rnumx (k : Nat) {c : Nat} (hc : c ≠ 0) (hk : 0 < k) : rnum k (c, []) = (0, (c, [])) := by
  unfold rnum
  rw [if_pos (by simpa using hk), ca_rfail hc]

/-- A vector from a reader that has found nothing. -/
theorem ca_rvec (k low high : Nat) (s : List UInt8) :
    (rdv k s = none ∧ rvec k low high (0, s) = ([], (3, []))) ∨ (∃ x r, rdv k s = some (x, r) ∧ (x.length < low ∨ high < x.length) ∧ rvec k low high (0, s) = (x, (2, []))) ∨
      ∃ x r, rdv k s = some (x, r) ∧ low ≤ x.length ∧ x.length ≤ high ∧ rvec k low high (0, s) = (x, (0, r)) := by
  unfold rvec rdv
  rcases ca_rnum k s with ⟨h1, h2⟩ | ⟨a, r, h1, h2⟩
  · left
    rw [h1, h2]
    exact ⟨rfl, by simp⟩
  · rw [h1, h2]
    simp only [ne_eq, not_true_eq_false, if_false]
    unfold rd
    by_cases h3 : r.length < be a
    · left
      rw [if_neg (by omega), if_pos h3]
      exact ⟨rfl, rfl⟩
    · right
      rw [if_pos (by omega), if_neg h3]
      have hl : (r.take (be a)).length = be a := by simp; omega
      by_cases h4 : be a < low ∨ high < be a
      · left
        rw [if_pos h4]
        exact ⟨_, _, rfl, by rw [hl]; exact h4, rfl⟩
      · right
        rw [if_neg h4]
        exact ⟨_, _, rfl, by rw [hl]; omega, by rw [hl]; omega, rfl⟩
theorem ca_rvecx (k low high : Nat) {c : Nat} (hc : c ≠ 0) (hk : 0 < k) : rvec k low high (c, []) = ([], (c, [])) := by
  unfold rvec
  rw [ca_rnumx k hc hk]
  simp [hc]

theorem ca_rinx {c : Nat} (hc : c ≠ 0) (r bx : List UInt8) : rin (c, r) bx = (c, []) := by unfold rin; simp [hc]
theorem ca_rin0 (r bx : List UInt8) : rin (0, r) bx = (0, bx) := by unfold rin; simp
theorem ca_rend {c : Nat} (hc : c ≠ 0) (r : List UInt8) : (rend (c, r)).1 = c := by
  unfold rend
  split
  · rfl
  · rw [ca_rfail hc]
theorem ca_rdonex {c : Nat} (hc : c ≠ 0) (r : List UInt8) (p : Nat × List UInt8) : (rdone (c, r) p).1 = c ∧ (r = [] → (rdone (c, r) p).2 = []) := by
  unfold rdone
  split
  · exact ⟨rfl, fun h => h⟩
  · rw [ca_rfail hc]; exact ⟨rfl, fun _ => rfl⟩
theorem ca_rdone0 (r : List UInt8) : rdone (0, r) (0, []) = (0, r) := by simp [rdone, rend]
theorem ca_rdone1 {c : Nat} (hc : c ≠ 0) (r q : List UInt8) : rdone (0, r) (c, q) = (c, []) := by
  unfold rdone
  rw [ca_rend hc, if_neg hc, ca_rfail0]
theorem ca_rdone3 {r q : List UInt8} (hq : q ≠ []) : rdone (0, r) (0, q) = (3, []) := by
  unfold rdone rend
  rw [if_neg hq, ca_rfail0, if_neg (by decide), ca_rfail0]

theorem rdv_lt {k : Nat} {s x r : List UInt8} (h : rdv k s = some (x, r)) : x.length < 256 ^ k ∧ s.length = k + x.length + r.length := by
  obtain ⟨h1, h2⟩ := rdv_some h
  exact ⟨h2, by rw [h1]; simp [en_length]; omega⟩
theorem rd_lt {k : Nat} {s x r : List UInt8} (h : rd k s = some (x, r)) : x.length = k ∧ s.length = k + r.length := by
  obtain ⟨h1, h2⟩ := rd_some h
  exact ⟨h2, by rw [h1]; simp; omega⟩

/-- Numbers. -/
theorem ca_rw16 : ∀ (n : Nat) (s : List UInt8), s.length ≤ n → (twords n s = none ∧ ∃ L, rw16 n (0, s) = (L, (3, []))) ∨ ∃ L, twords n s = some L ∧ rw16 n (0, s) = (L, (0, []))
  | 0, [], _ => .inr ⟨[], rfl, rfl⟩
  | n + 1, [], _ => .inr ⟨[], twords_nil _, rw16_nil _ _ rfl⟩
  | 0, c :: s, h => by simp at h
  | n + 1, c :: s, h => by
    rw [twords_succ (by simp), rw16_succ _ _ (by simp)]
    rcases ca_rnum 2 (c :: s) with ⟨h1, h2⟩ | ⟨a, r, h1, h2⟩
    · left
      rw [h1, h2, rw16_nil _ _ rfl]
      exact ⟨rfl, _, rfl⟩
    · have hl := (rd_lt h1).2
      rw [h1, h2]
      rcases ca_rw16 n r (by simp only [List.length_cons] at hl h; omega) with ⟨h3, L, h4⟩ | ⟨L, h3, h4⟩
      · left
        rw [h4]
        exact ⟨by simp [h3], _, rfl⟩
      · right
        rw [h4]
        exact ⟨be a :: L, by simp [h3], rfl⟩

/-- Vectors that are not empty. -/
theorem ca_rvecs : ∀ (n : Nat) (s : List UInt8), s.length ≤ n → (tvecs 1 n s = none ∧ ∃ L c, c ≠ 0 ∧ rvecs 1 1 n (0, s) = (L, (c, []))) ∨ ∃ L, tvecs 1 n s = some L ∧ rvecs 1 1 n (0, s) = (L, (0, []))
  | 0, [], _ => .inr ⟨[], rfl, rfl⟩
  | n + 1, [], _ => .inr ⟨[], tvecs_nil _ _, rfl⟩
  | 0, c :: s, h => by simp at h
  | n + 1, c :: s, h => by
    have nilx : ∀ (c : Nat), rvecs 1 1 n (c, []) = ([], (c, [])) := fun c => by cases n <;> rfl
    rw [tvecs_succ (by simp), show rvecs 1 1 (n + 1) (0, c :: s) = ((rvec 1 1 255 (0, c :: s)).1 :: (rvecs 1 1 n (rvec 1 1 255 (0, c :: s)).2).1, (rvecs 1 1 n (rvec 1 1 255 (0, c :: s)).2).2) from rfl]
    rcases ca_rvec 1 1 255 (c :: s) with ⟨h1, h2⟩ | ⟨x, r, h1, h0, h2⟩ | ⟨x, r, h1, h5, h6, h2⟩
    · left
      rw [h1, h2, nilx]
      exact ⟨rfl, _, 3, by decide, rfl⟩
    · left
      have hx := (rdv_lt h1).1
      have hx0 : x = [] := List.length_eq_zero_iff.1 (by omega)
      rw [h1, h2, nilx]
      exact ⟨by simp [hx0], _, 2, by decide, rfl⟩
    · have hl := (rdv_lt h1).2
      have hx0 : x ≠ [] := by rintro rfl; simp at h5
      rw [h1, h2, Option.bind_some, if_neg hx0]
      rcases ca_rvecs n r (by simp only [List.length_cons] at hl h; omega) with ⟨h3, L, c, hc, h4⟩ | ⟨L, h3, h4⟩
      · left
        rw [h4]
        exact ⟨by simp [h3], _, c, hc, rfl⟩
      · right
        rw [h4]
        exact ⟨x :: L, by simp [h3], rfl⟩

/-- Key shares. -/
theorem ca_rsh : ∀ (n : Nat) (s : List UInt8), s.length ≤ n → (tshares n s = none ∧ ∃ L c, c ≠ 0 ∧ rsh n (0, s) = (L, (c, []))) ∨ ∃ L, tshares n s = some L ∧ rsh n (0, s) = (L, (0, []))
  | 0, [], _ => .inr ⟨[], rfl, rfl⟩
  | n + 1, [], _ => .inr ⟨[], tshares_nil _, rfl⟩
  | 0, c :: s, h => by simp at h
  | n + 1, c :: s, h => by
    rw [tshares_succ (by simp), rsh_succ _ _ (by simp)]
    rcases ca_rnum 2 (c :: s) with ⟨h1, h2⟩ | ⟨a, r, h1, h2⟩
    · left
      rw [h1, h2, ca_rvecx 2 1 65535 (by decide) (by decide), rsh_nil _ _ rfl]
      exact ⟨rfl, _, 3, by decide, rfl⟩
    · have hl := (rd_lt h1).2
      rw [h1, h2, Option.bind_some]
      rcases ca_rvec 2 1 65535 r with ⟨h3, h4⟩ | ⟨x, r2, h3, h0, h4⟩ | ⟨x, r2, h3, h5, h6, h4⟩
      · left
        rw [h3, h4, rsh_nil _ _ rfl]
        exact ⟨rfl, _, 3, by decide, rfl⟩
      · left
        have hx := (rdv_lt h3).1
        have hx0 : x = [] := List.length_eq_zero_iff.1 (by omega)
        rw [h3, h4, rsh_nil _ _ rfl]
        exact ⟨by simp [hx0], _, 2, by decide, rfl⟩
      · have hl2 := (rdv_lt h3).2
        have hx0 : x ≠ [] := by rintro rfl; simp at h5
        rw [h3, h4, Option.bind_some, if_neg hx0]
        rcases ca_rsh n r2 (by simp only [List.length_cons] at hl h; omega) with ⟨h7, L, c, hc, h8⟩ | ⟨L, h7, h8⟩
        · left
          rw [h8]
          exact ⟨by simp [h7], _, c, hc, rfl⟩
        · right
          rw [h8]
          exact ⟨(be a, x) :: L, by simp [h7], rfl⟩

/-- Identities of keys. -/
theorem ca_rid : ∀ (n : Nat) (s : List UInt8), s.length ≤ n → (tpsks n s = none ∧ ∃ L c, c ≠ 0 ∧ rid n (0, s) = (L, (c, []))) ∨ ∃ L, tpsks n s = some L ∧ rid n (0, s) = (L, (0, []))
  | 0, [], _ => .inr ⟨[], rfl, rfl⟩
  | n + 1, [], _ => .inr ⟨[], tpsks_nil _, rfl⟩
  | 0, c :: s, h => by simp at h
  | n + 1, c :: s, h => by
    rw [tpsks_succ (by simp), rid_succ _ _ (by simp)]
    rcases ca_rvec 2 1 65535 (c :: s) with ⟨h3, h4⟩ | ⟨x, r2, h3, h0, h4⟩ | ⟨x, r2, h3, h5, h6, h4⟩
    · left
      rw [h3, h4, ca_rnumx 4 (by decide) (by decide), rid_nil _ _ rfl]
      exact ⟨rfl, _, 3, by decide, rfl⟩
    · left
      have hx := (rdv_lt h3).1
      have hx0 : x = [] := List.length_eq_zero_iff.1 (by omega)
      rw [h3, h4, ca_rnumx 4 (by decide) (by decide), rid_nil _ _ rfl]
      refine ⟨?_, _, 2, by decide, rfl⟩
      rw [Option.bind_some]
      cases rd 4 r2 <;> simp [hx0]
    · have hl2 := (rdv_lt h3).2
      have hx0 : x ≠ [] := by rintro rfl; simp at h5
      rw [h3, h4, Option.bind_some]
      rcases ca_rnum 4 r2 with ⟨h1, h2⟩ | ⟨a, r, h1, h2⟩
      · left
        rw [h1, h2, rid_nil _ _ rfl]
        exact ⟨rfl, _, 3, by decide, rfl⟩
      · have hl := (rd_lt h1).2
        rw [h1, h2, Option.bind_some, if_neg hx0]
        rcases ca_rid n r (by simp only [List.length_cons] at hl2 h; omega) with ⟨h7, L, c, hc, h8⟩ | ⟨L, h7, h8⟩
        · left
          rw [h8]
          exact ⟨by simp [h7], _, c, hc, rfl⟩
        · right
          rw [h8]
          exact ⟨(x, be a) :: L, by simp [h7], rfl⟩

theorem twords_one {x : List UInt8} (h : x.length = 1) : twords x.length x = none := by
  match x, h with
  | [c], _ => rfl

theorem tpsks_short {x : List UInt8} (h0 : x ≠ []) (h : x.length < 7) : tpsks x.length x = none := by
  obtain ⟨n, hn⟩ : ∃ n, x.length = n + 1 := ⟨x.length - 1, by have := List.length_pos_iff.2 h0; omega⟩
  rw [hn, tpsks_succ h0]
  cases h1 : rdv 2 x with
  | none => rfl
  | some y =>
    obtain ⟨y, r⟩ := y
    rw [Option.bind_some]
    have hl := (rdv_lt h1).2
    cases h2 : rd 4 r with
    | none => rfl
    | some z =>
      obtain ⟨z, r2⟩ := z
      have hl2 := (rd_lt h2).2
      have hy : y = [] := List.length_eq_zero_iff.1 (by omega)
      simp [hy]

/-- Numbers in a vector. -/
theorem ca_rvw (k high : Nat) (hk : 0 < k) (hh : 256 ^ k ≤ high + 1) (s : List UInt8) :
    (∃ L c q, c ≠ 0 ∧ rvw k high (0, s) = (L, (c, q)) ∧ ((rdv k s).bind fun l => if l.1 = [] then none else (twords l.1.length l.1).map fun x => (x, l.2)) = none) ∨
      ∃ l r L, rdv k s = some (l, r) ∧ l ≠ [] ∧ twords l.length l = some L ∧ rvw k high (0, s) = (L, (0, r)) := by
  unfold rvw
  rcases ca_rvec k 2 high s with ⟨h1, h2⟩ | ⟨x, r, h1, h0, h2⟩ | ⟨x, r, h1, h5, h6, h2⟩
  · left
    rw [h2, h1]
    refine ⟨(rwords (3, []) []).1, 3, (rwords (3, []) []).2.2, by decide, ?_, rfl⟩
    rfl
  · left
    have hx := (rdv_lt h1).1
    rw [h2, h1]
    have e := ca_rdonex (c := 2) (by decide) [] (rw16 x.length (rin (2, []) x)).2
    refine ⟨(rwords (2, []) x).1, 2, (rwords (2, []) x).2.2, by decide, Prod.ext rfl (Prod.ext e.1 rfl), ?_⟩
    rw [Option.bind_some]
    split
    · rfl
    · rename_i hne
      have hpos := List.length_pos_iff.2 hne
      simp only at hne hpos ⊢
      rw [twords_one (by omega)]
      rfl
  · rw [h2, h1]
    unfold rwords
    rw [ca_rin0]
    simp only
    have hx0 : x ≠ [] := by rintro rfl; simp at h5
    rcases ca_rw16 x.length x (Nat.le_refl _) with ⟨h3, L, h4⟩ | ⟨L, h3, h4⟩
    · left
      rw [h4, ca_rdone1 (by decide)]
      exact ⟨_, _, _, by decide, rfl, by rw [Option.bind_some, if_neg hx0]; simp [h3]⟩
    · right
      rw [h4, ca_rdone0]
      exact ⟨x, r, L, rfl, hx0, h3, rfl⟩

/-- Vectors in a vector. -/
theorem ca_rvv (s : List UInt8) :
    (∃ L c q, c ≠ 0 ∧ rvv (0, s) = (L, (c, q)) ∧ ((rdv 2 s).bind fun l => if l.1 = [] then none else (tvecs 1 l.1.length l.1).map fun x => (x, l.2)) = none) ∨
      ∃ l r L, rdv 2 s = some (l, r) ∧ l ≠ [] ∧ tvecs 1 l.length l = some L ∧ rvv (0, s) = (L, (0, r)) := by
  unfold rvv
  rcases ca_rvec 2 2 65535 s with ⟨h1, h2⟩ | ⟨x, r, h1, h0, h2⟩ | ⟨x, r, h1, h5, h6, h2⟩
  · left
    rw [h2, h1]
    exact ⟨(rvecsIn 1 1 (3, []) []).1, 3, (rvecsIn 1 1 (3, []) []).2.2, by decide, rfl, rfl⟩
  · left
    have hx := (rdv_lt h1).1
    rw [h2, h1]
    have e := ca_rdonex (c := 2) (by decide) [] (rvecs 1 1 x.length (rin (2, []) x)).2
    refine ⟨(rvecsIn 1 1 (2, []) x).1, 2, (rvecsIn 1 1 (2, []) x).2.2, by decide, Prod.ext rfl (Prod.ext e.1 rfl), ?_⟩
    rw [Option.bind_some]
    split
    · rfl
    · rename_i hne
      have hpos := List.length_pos_iff.2 hne
      simp only at hne hpos ⊢
      have h1l : x.length = 1 := by omega
      have ht : tvecs 1 x.length x = none := by
        match x, h1l with
        | [c], _ =>
          rw [show [c].length = 0 + 1 from rfl, tvecs_succ (by simp)]
          cases hy : rdv 1 [c] with
          | none => rfl
          | some y =>
            obtain ⟨y, r'⟩ := y
            have := (rdv_lt hy).2
            have hy0 : y = [] := List.length_eq_zero_iff.1 (by simp only [List.length_cons, List.length_nil] at this; omega)
            simp [hy0]
      rw [ht]
      rfl
  · rw [h2, h1]
    unfold rvecsIn
    rw [ca_rin0]
    simp only
    have hx0 : x ≠ [] := by rintro rfl; simp at h5
    rcases ca_rvecs x.length x (Nat.le_refl _) with ⟨h3, L, c, hc, h4⟩ | ⟨L, h3, h4⟩
    · left
      rw [h4, ca_rdone1 hc]
      exact ⟨_, _, _, hc, rfl, by rw [Option.bind_some, if_neg hx0]; simp [h3]⟩
    · right
      rw [h4, ca_rdone0]
      exact ⟨x, r, L, rfl, hx0, h3, rfl⟩

/-- Of an extension's type nothing was said yet. -/
structure CH.fresh (f : CH) (ty : Nat) : Prop where
  name : ty = 0 → f.name = []
  curves : ty = 10 → f.curves = []
  sigs : ty = 13 → f.sigs = []
  sigsC : ty = 50 → f.sigsC = []
  alpn : ty = 16 → f.alpn = []
  vers13 : ty = 43 → f.vers13 = []
  binders : ty = 41 → f.binders = []

/-- What the reference says of an extension, and what package tls says. -/
def ExtSame (ty : Nat) (f : CH) (d rest : List UInt8) : Prop :=
  (∃ f' r, rcext ty f (0, d) = (f', (0, r)) ∧ chExt f ty d rest = some (f', r)) ∨ ((rcext ty f (0, d)).2.1 ≠ 0 ∧ chExt f ty d rest = none) ∨ (rcext ty f (0, d)).2.1 = 1

/-- A vector that may not be shorter than one byte. -/
theorem ca_vec1 {k high : Nat} (hh : 256 ^ k ≤ high + 1) (s : List UInt8) :
    (∃ x c, c ≠ 0 ∧ rvec k 1 high (0, s) = (x, (c, [])) ∧ (rdv k s = none ∨ ∃ r, rdv k s = some ([], r))) ∨ ∃ x r, rdv k s = some (x, r) ∧ x ≠ [] ∧ rvec k 1 high (0, s) = (x, (0, r)) := by
  rcases ca_rvec k 1 high s with ⟨h1, h2⟩ | ⟨x, r, h1, h0, h2⟩ | ⟨x, r, h1, h5, h6, h2⟩
  · exact .inl ⟨_, 3, by decide, h2, .inl h1⟩
  · have hx := (rdv_lt h1).1
    have hx0 : x = [] := List.length_eq_zero_iff.1 (by omega)
    subst hx0
    exact .inl ⟨_, 2, by decide, h2, .inr ⟨r, h1⟩⟩
  · exact .inr ⟨x, r, h1, by rintro rfl; simp at h5, h2⟩
/-- A vector of any length. -/
theorem ca_vec0 {k high : Nat} (hh : 256 ^ k ≤ high + 1) (s : List UInt8) :
    (rdv k s = none ∧ rvec k 0 high (0, s) = ([], (3, []))) ∨ ∃ x r, rdv k s = some (x, r) ∧ rvec k 0 high (0, s) = (x, (0, r)) := by
  rcases ca_rvec k 0 high s with ⟨h1, h2⟩ | ⟨x, r, h1, h0, h2⟩ | ⟨x, r, h1, h5, h6, h2⟩
  · exact .inl ⟨h1, h2⟩
  · have hx := (rdv_lt h1).1
    omega
  · exact .inr ⟨x, r, h1, h2⟩

theorem ext_rvw {k high ty : Nat} (hk : 0 < k) (hh : 256 ^ k ≤ high + 1) {f : CH} {d rest : List UInt8} (U : CH → List Nat → CH) (h1 : rcext ty f (0, d) = (U f (rvw k high (0, d)).1, (rvw k high (0, d)).2))
    (h2 : chExt f ty d rest = (rdv k d).bind fun l => if l.1 = [] then none else (twords l.1.length l.1).map fun x => (U f x, l.2)) : ExtSame ty f d rest := by
  rcases ca_rvw k high hk hh d with ⟨L, c, q, hc, e, hn⟩ | ⟨l, r, L, e1, e2, e3, e4⟩
  · refine .inr (.inl ⟨by rw [h1, e]; exact hc, ?_⟩)
    rw [h2]
    cases hr : rdv k d with
    | none => rfl
    | some l =>
      rw [hr, Option.bind_some] at hn
      rw [Option.bind_some]
      split
      · rfl
      · rename_i hl
        rw [if_neg hl] at hn
        cases ht : twords l.1.length l.1 with
        | none => rfl
        | some x => rw [ht] at hn; cases hn
  · refine .inl ⟨U f L, r, by rw [h1, e4], ?_⟩
    rw [h2, e1, Option.bind_some, if_neg e2, e3]
    rfl

end Go.Proofs.Ytopcljikkdlffaa
namespace Go.Proofs.Ytopcljikkdlffaa

/-- A vector that may not be empty, and is kept. -/
theorem ext_vec1 {k high ty : Nat} (hh : 256 ^ k ≤ high + 1) {f : CH} {d rest : List UInt8} (U : CH → List UInt8 → CH) (h1 : rcext ty f (0, d) = (U f (rvec k 1 high (0, d)).1, (rvec k 1 high (0, d)).2))
    (h2 : chExt f ty d rest = (rdv k d).bind fun x => if x.1 = [] then none else some (U f x.1, x.2)) : ExtSame ty f d rest := by
  rcases ca_vec1 hh d with ⟨x, c, hc, e, hn⟩ | ⟨x, r, e1, e2, e3⟩
  · refine .inr (.inl ⟨by rw [h1, e]; exact hc, ?_⟩)
    rw [h2]
    rcases hn with hn | ⟨r, hn⟩ <;> rw [hn] <;> rfl
  · refine .inl ⟨U f x, r, by rw [h1, e3], ?_⟩
    rw [h2, e1, Option.bind_some, if_neg e2]

theorem ext_name {f : CH} {d rest : List UInt8} (hf : f.fresh 0) : ExtSame 0 f d rest := by
  have h1 : rcext 0 f (0, d) = ({ f with name := (rname (0, d)).1 }, (rname (0, d)).2) := rfl
  have h2 : chExt f 0 d rest = (rdv 2 d).bind fun l => if l.1 = [] then none else (tnames l.1.length [] l.1).map fun x => ({ f with name := x }, l.2) := by
    show (rdv 2 d).bind (fun l => if l.1 = [] then none else (tnames l.1.length f.name l.1).map fun x => ({ f with name := x }, l.2)) = _
    rw [hf.name rfl]
  have hr : ∀ st, rname st = ((rname1 st).1, rdone (rvec 2 1 65535 st).2 (rhost (rname1 st))) := fun _ => rfl
  have hr1 : ∀ st, rname1 st = rvec 2 1 65535 (rkind 0 (rin (rvec 2 1 65535 st).2 (rvec 2 1 65535 st).1)) := fun _ => rfl
  rcases ca_vec1 (k := 2) (high := 65535) (by decide) d with ⟨x, c, hc, e, hn⟩ | ⟨x, r, e1, e2, e3⟩
  · refine .inr (.inl ⟨by rw [h1, hr, e, (ca_rdonex hc _ _).1]; exact hc, ?_⟩)
    rw [h2]
    rcases hn with hn | ⟨r, hn⟩ <;> rw [hn] <;> rfl
  · obtain ⟨n, hn⟩ : ∃ n, x.length = n + 1 := ⟨x.length - 1, by have := List.length_pos_iff.2 e2; omega⟩
    rw [e1, Option.bind_some, if_neg e2, hn, tnames_succ e2] at h2
    have hk : ∀ st, rkind 0 st = if (rnum 1 st).1 = 0 then (rnum 1 st).2 else rfail 1 (rnum 1 st).2 := fun _ => rfl
    have hh : ∀ h, rhost h = if h.1 ≠ [] ∧ (h.1.getLast? = some 46 ∨ h.2.2 ≠ []) then rfail 1 h.2 else h.2 := fun _ => rfl
    have hx : rname (0, d) = ((rvec 2 1 65535 (rkind 0 (0, x))).1, rdone (0, r) (rhost (rvec 2 1 65535 (rkind 0 (0, x))))) := by
      rw [hr, hr1, e3, ca_rin0]
    rw [hx] at h1
    rcases ca_rnum 1 x with ⟨k1, k2⟩ | ⟨a, q, k1, k2⟩
    · rw [k1] at h2
      refine .inr (.inl ⟨?_, h2⟩)
      rw [h1, hk, k2, if_pos rfl, ca_rvecx 2 1 65535 (by decide) (by decide), hh, if_neg (by simp), ca_rdone1 (by decide)]
      first | (show (3 : Nat) ≠ 0; decide) | (show (2 : Nat) ≠ 0; decide)
    · rw [k1, Option.bind_some] at h2
      simp only at h2
      by_cases ha : be a = 0
      · have hk0 : rkind 0 (0, x) = (0, q) := by rw [hk, k2, if_pos ha]
        rw [hk0] at h1
        rcases ca_vec1 (k := 2) (high := 65535) (by decide) q with ⟨y, c, hc, e, hn2⟩ | ⟨y, q2, e5, e6, e7⟩
        · refine .inr (.inl ⟨?_, ?_⟩)
          · rw [h1, e, hh]
            have : (if y ≠ [] ∧ (y.getLast? = some 46 ∨ ([] : List UInt8) ≠ []) then rfail 1 (c, []) else (c, [])) = (c, []) := by
              split
              · exact ca_rfail hc
              · rfl
            simp only
            rw [this, ca_rdone1 hc]
            exact hc
          · rw [h2]
            rcases hn2 with hn2 | ⟨r3, hn2⟩ <;> rw [hn2] <;> rfl
        · rw [e5, Option.bind_some, if_neg e6, if_neg (by simpa using ha), if_neg (by simp)] at h2
          rw [e7] at h1
          by_cases hd : y.getLast? = some 46 ∨ q2 ≠ []
          · refine .inr (.inr ?_)
            rw [h1, hh, if_pos ⟨e6, hd⟩, ca_rfail0, ca_rdone1 (by decide)]
          · have hd1 : ¬ y.getLast? = some 46 := fun h => hd (.inl h)
            have hd2 : q2 = [] := Decidable.of_not_not fun h => hd (.inr h)
            subst hd2
            refine .inl ⟨{ f with name := y }, r, ?_, ?_⟩
            · rw [h1, hh, if_neg (fun h => hd h.2), ca_rdone0]
            · rw [h2, if_neg hd1, tnames_nil]
              rfl
      · refine .inr (.inr ?_)
        rw [h1, hk, k2, if_neg ha, ca_rfail0, ca_rvecx 2 1 65535 (by decide) (by decide), hh, if_neg (by simp), ca_rdone1 (by decide)]

theorem ext_ocsp {f : CH} {d rest : List UInt8} : ExtSame 5 f d rest := by
  have h1 : rcext 5 f (0, d) = ({ f with ocsp := true }, (rvec 2 0 65535 (rvec 2 0 65535 (rkind 1 (0, d))).2).2) := rfl
  have h2 : chExt f 5 d rest = (rd 1 d).bind fun t => (rdv 2 t.2).bind fun a => (rdv 2 a.2).map fun b => ({ f with ocsp := decide (be t.1 = 1) }, b.2) := rfl
  have hk : ∀ st, rkind 1 st = if (rnum 1 st).1 = 1 then (rnum 1 st).2 else rfail 1 (rnum 1 st).2 := fun _ => rfl
  rw [hk] at h1
  rcases ca_rnum 1 d with ⟨k1, k2⟩ | ⟨a, q, k1, k2⟩
  · refine .inr (.inl ⟨?_, by rw [h2, k1]; rfl⟩)
    rw [h1, k2, if_neg (by decide), ca_rfail (by decide), ca_rvecx 2 0 65535 (by decide) (by decide), ca_rvecx 2 0 65535 (by decide) (by decide)]
    first | (show (3 : Nat) ≠ 0; decide) | (show (2 : Nat) ≠ 0; decide)
  · rw [k1, Option.bind_some] at h2
    rw [k2] at h1
    simp only at h1 h2
    by_cases ha : be a = 1
    · rw [if_pos ha] at h1
      rcases ca_vec0 (k := 2) (high := 65535) (by decide) q with ⟨e1, e2⟩ | ⟨x, r, e1, e2⟩
      · refine .inr (.inl ⟨?_, by rw [h2, e1]; rfl⟩)
        rw [h1, e2, ca_rvecx 2 0 65535 (by decide) (by decide)]
        first | (show (3 : Nat) ≠ 0; decide) | (show (2 : Nat) ≠ 0; decide)
      · rw [e1, Option.bind_some] at h2
        rw [e2] at h1
        simp only at h1 h2
        rcases ca_vec0 (k := 2) (high := 65535) (by decide) r with ⟨e3, e4⟩ | ⟨x2, r2, e3, e4⟩
        · refine .inr (.inl ⟨?_, by rw [h2, e3]; rfl⟩)
          rw [h1, e4]
          first | (show (3 : Nat) ≠ 0; decide) | (show (2 : Nat) ≠ 0; decide)
        · refine .inl ⟨{ f with ocsp := true }, r2, by rw [h1, e4], ?_⟩
          rw [h2, e3, ha]
          rfl
    · refine .inr (.inr ?_)
      rw [h1, if_neg ha, ca_rfail0, ca_rvecx 2 0 65535 (by decide) (by decide), ca_rvecx 2 0 65535 (by decide) (by decide)]

theorem ext_alpn {f : CH} {d rest : List UInt8} (hf : f.fresh 16) : ExtSame 16 f d rest := by
  have h1 : rcext 16 f (0, d) = ({ f with alpn := (rvv (0, d)).1 }, (rvv (0, d)).2) := rfl
  have h2 : chExt f 16 d rest = (rdv 2 d).bind fun l => if l.1 = [] then none else (tvecs 1 l.1.length l.1).map fun x => ({ f with alpn := [] ++ x }, l.2) := by
    rw [← hf.alpn rfl]; rfl
  rcases ca_rvv d with ⟨L, c, q, hc, e, hn⟩ | ⟨l, r, L, e1, e2, e3, e4⟩
  · refine .inr (.inl ⟨by rw [h1, e]; exact hc, ?_⟩)
    rw [h2]
    cases hr : rdv 2 d with
    | none => rfl
    | some l =>
      rw [hr, Option.bind_some] at hn
      rw [Option.bind_some]
      split
      · rfl
      · rename_i hl
        rw [if_neg hl] at hn
        cases ht : tvecs 1 l.1.length l.1 with
        | none => rfl
        | some x => rw [ht] at hn; cases hn
  · refine .inl ⟨{ f with alpn := L }, r, by rw [h1, e4], ?_⟩
    rw [h2, e1, Option.bind_some, if_neg e2, e3]
    rfl

theorem ext_share {f : CH} {d rest : List UInt8} : ExtSame 51 f d rest := by
  have h1 : rcext 51 f (0, d) = ({ f with shares := f.shares ++ (rshares (0, d)).1 }, (rshares (0, d)).2) := rfl
  have h2 : chExt f 51 d rest = (rdv 2 d).bind fun l => (tshares l.1.length l.1).map fun x => ({ f with shares := f.shares ++ x }, l.2) := rfl
  unfold rshares at h1
  rcases ca_vec0 (k := 2) (high := 65535) (by decide) d with ⟨e1, e2⟩ | ⟨x, r, e1, e2⟩
  · refine .inr (.inl ⟨?_, by rw [h2, e1]; rfl⟩)
    rw [h1, e2, (ca_rdonex (by decide) _ _).1]
    first | (show (3 : Nat) ≠ 0; decide) | (show (2 : Nat) ≠ 0; decide)
  · rw [e1, Option.bind_some] at h2
    rw [e2, ca_rin0] at h1
    simp only at h1 h2
    rcases ca_rsh x.length x (Nat.le_refl _) with ⟨h3, L, c, hc, h4⟩ | ⟨L, h3, h4⟩
    · refine .inr (.inl ⟨?_, by rw [h2, h3]; rfl⟩)
      rw [h1, h4, ca_rdone1 hc]
      exact hc
    · refine .inl ⟨{ f with shares := f.shares ++ L }, r, by rw [h1, h4, ca_rdone0], ?_⟩
      rw [h2, h3]
      rfl

theorem ext_psk {f : CH} {d : List UInt8} (hf : f.fresh 41) : ExtSame 41 f d [] := by
  have h1 : rcext 41 f (0, d) = ({ f with psks := f.psks ++ (rids (0, d)).1, binders := (rbind (f.psks ++ (rids (0, d)).1).length (rids (0, d)).2).1 }, (rbind (f.psks ++ (rids (0, d)).1).length (rids (0, d)).2).2) := rfl
  have h2 : chExt f 41 d [] = (rdv 2 d).bind fun l => if l.1 = [] then none else (tpsks l.1.length l.1).bind fun x =>
    (rdv 2 l.2).bind fun m => if m.1 = [] then none else (tvecs 1 m.1.length m.1).map fun y => ({ f with psks := f.psks ++ x, binders := [] ++ y }, m.2) := by
    rw [← hf.binders rfl]; rfl
  have hb : ∀ n st, rbind n st = ((rvv st).1, if (rvv st).2.1 = 0 ∧ ((rvv st).1.length ≠ n ∨ rnone 1 31 (rvv st).1 = false) then rfail 1 (rvv st).2 else (rvv st).2) := fun _ _ => rfl
  have hbad : ∀ n (c : Nat) , c ≠ 0 → (rbind n (c, [])).2.1 = c := by
    intro n c hc
    have e : (rvv (c, [])).2.1 = c := by
      unfold rvv
      rw [ca_rvecx 2 2 65535 hc (by decide)]
      unfold rvecsIn
      exact (ca_rdonex hc _ _).1
    rw [hb, if_neg (by rw [e]; exact fun h => hc h.1)]
    exact e
  have hi : ∀ st, rids st = ((rid (rvec 2 7 65535 st).1.length (rin (rvec 2 7 65535 st).2 (rvec 2 7 65535 st).1)).1, rdone (rvec 2 7 65535 st).2 (rid (rvec 2 7 65535 st).1.length (rin (rvec 2 7 65535 st).2 (rvec 2 7 65535 st).1)).2) := fun _ => rfl
  have hcode : ∀ n (st : Nat × List UInt8), st.1 ≠ 0 → st.2 = [] → (rbind n st).2.1 = st.1 := by
    rintro n ⟨c, q⟩ hc rfl
    exact hbad n c hc
  rcases ca_rvec 2 7 65535 d with ⟨e1, e2⟩ | ⟨x, r, e1, e0, e2⟩ | ⟨x, r, e1, e5, e6, e2⟩
  · refine .inr (.inl ⟨?_, by rw [h2, e1]; rfl⟩)
    have e9 := ca_rdonex (c := 3) (by decide) [] (rid ([] : List UInt8).length (rin (3, []) [])).2
    have hx : (rids (0, d)).2 = (3, []) := by rw [hi, e2]; exact Prod.ext e9.1 (e9.2 rfl)
    rw [h1, hx]
    simp only
    rw [hbad _ 3 (by decide)]
    first | (show (3 : Nat) ≠ 0; decide) | (show (2 : Nat) ≠ 0; decide)
  · have hx := (rdv_lt e1).1
    have e9 := ca_rdonex (c := 2) (by decide) [] (rid x.length (rin (2, []) x)).2
    have hx2 : (rids (0, d)).2 = (2, []) := by rw [hi, e2]; exact Prod.ext e9.1 (e9.2 rfl)
    refine .inr (.inl ⟨?_, ?_⟩)
    · rw [h1, hx2]
      simp only
      rw [hbad _ 2 (by decide)]
      first | (show (3 : Nat) ≠ 0; decide) | (show (2 : Nat) ≠ 0; decide)
    · rw [h2, e1, Option.bind_some]
      split
      · rfl
      · rename_i hne
        simp only at hne ⊢
        rw [tpsks_short hne (by omega)]
        rfl
  · have hx0 : x ≠ [] := by rintro rfl; simp at e5
    rw [e1, Option.bind_some, if_neg hx0] at h2
    simp only at h2
    have hi2 : rids (0, d) = ((rid x.length (0, x)).1, rdone (0, r) (rid x.length (0, x)).2) := by rw [hi, e2, ca_rin0]
    rw [hi2] at h1
    rcases ca_rid x.length x (Nat.le_refl _) with ⟨h3, L, c, hc, h4⟩ | ⟨L, h3, h4⟩
    · refine .inr (.inl ⟨?_, by rw [h2, h3]; rfl⟩)
      rw [h1, h4, ca_rdone1 hc]
      simp only
      rw [hbad _ c hc]
      exact hc
    · rw [h4, ca_rdone0] at h1
      rw [h3, Option.bind_some] at h2
      simp only at h1
      rcases ca_rvv r with ⟨L2, c, q, hc, e, hn⟩ | ⟨l, r2, L2, e3, e4, e7, e8⟩
      · refine .inr (.inl ⟨?_, ?_⟩)
        · rw [h1, hb, e]
          simp only
          rw [if_neg (fun h => hc h.1)]
          exact hc
        · rw [h2]
          cases hr : rdv 2 r with
          | none => rfl
          | some l =>
            rw [hr, Option.bind_some] at hn
            rw [Option.bind_some]
            split
            · rfl
            · rename_i hl
              rw [if_neg hl] at hn
              cases ht : tvecs 1 l.1.length l.1 with
              | none => rfl
              | some x => rw [ht] at hn; cases hn
      · rw [e3, Option.bind_some, if_neg e4, e7] at h2
        rw [hb, e8] at h1
        simp only at h1
        split at h1
        · exact .inr (.inr (by rw [h1, ca_rfail0]))
        · exact .inl ⟨_, _, h1, h2⟩

set_option maxHeartbeats 1000000 in
theorem ext_same {ty : Nat} {f : CH} {d rest : List UInt8} (hf : f.fresh ty) (hr : ty = 41 → rest = []) : ExtSame ty f d rest := by
  by_cases k1 : ty = 0
  · subst k1; exact ext_name hf
  by_cases k2 : ty = 5
  · subst k2; exact ext_ocsp
  by_cases k3 : ty = 10
  · subst k3
    exact ext_rvw (k := 2) (high := 65535) (by decide) (by decide) (fun f x => { f with curves := x }) rfl (by
      have e := hf.curves rfl
      show (rdv 2 d).bind (fun l => if l.1 = [] then none else (twords l.1.length l.1).map fun x => ({ f with curves := f.curves ++ x }, l.2)) = _
      rw [e]; rfl)
  by_cases k4 : ty = 11
  · subst k4; exact ext_vec1 (k := 1) (high := 255) (by decide) (fun f x => { f with points := x }) rfl rfl
  by_cases k5 : ty = 35
  · subst k5; exact .inl ⟨_, [], rfl, rfl⟩
  by_cases k6 : ty = 13
  · subst k6
    exact ext_rvw (k := 2) (high := 65535) (by decide) (by decide) (fun f x => { f with sigs := x }) rfl (by
      have e := hf.sigs rfl
      show (rdv 2 d).bind (fun l => if l.1 = [] then none else (twords l.1.length l.1).map fun x => ({ f with sigs := f.sigs ++ x }, l.2)) = _
      rw [e]; rfl)
  by_cases k7 : ty = 50
  · subst k7
    exact ext_rvw (k := 2) (high := 65535) (by decide) (by decide) (fun f x => { f with sigsC := x }) rfl (by
      have e := hf.sigsC rfl
      show (rdv 2 d).bind (fun l => if l.1 = [] then none else (twords l.1.length l.1).map fun x => ({ f with sigsC := f.sigsC ++ x }, l.2)) = _
      rw [e]; rfl)
  by_cases k8 : ty = 65281
  · subst k8
    have h1 : rcext 65281 f (0, d) = ({ f with srs := true, sr := (rvec 1 0 255 (0, d)).1 }, (rvec 1 0 255 (0, d)).2) := rfl
    have h2 : chExt f 65281 d rest = (rdv 1 d).map fun x => ({ f with sr := x.1, srs := true }, x.2) := rfl
    rcases ca_vec0 (k := 1) (high := 255) (by decide) d with ⟨e1, e2⟩ | ⟨x, r, e1, e2⟩
    · exact .inr (.inl ⟨by rw [h1, e2]; show (3 : Nat) ≠ 0; decide, by rw [h2, e1]; rfl⟩)
    · exact .inl ⟨_, r, by rw [h1, e2], by rw [h2, e1]; rfl⟩
  by_cases k9 : ty = 23
  · subst k9; exact .inl ⟨_, d, rfl, rfl⟩
  by_cases k10 : ty = 16
  · subst k10; exact ext_alpn hf
  by_cases k11 : ty = 18
  · subst k11; exact .inl ⟨_, d, rfl, rfl⟩
  by_cases k12 : ty = 43
  · subst k12
    exact ext_rvw (k := 1) (high := 255) (by decide) (by decide) (fun f x => { f with vers13 := x }) rfl (by
      have e := hf.vers13 rfl
      show (rdv 1 d).bind (fun l => if l.1 = [] then none else (twords l.1.length l.1).map fun x => ({ f with vers13 := f.vers13 ++ x }, l.2)) = _
      rw [e]; rfl)
  by_cases k13 : ty = 44
  · subst k13; exact ext_vec1 (k := 2) (high := 65535) (by decide) (fun f x => { f with cookie := x }) rfl rfl
  by_cases k14 : ty = 51
  · subst k14; exact ext_share
  by_cases k15 : ty = 42
  · subst k15; exact .inl ⟨_, d, rfl, rfl⟩
  by_cases k16 : ty = 45
  · subst k16
    have h1 : rcext 45 f (0, d) = ({ f with modes := (rvec 1 0 255 (0, d)).1 }, if (rvec 1 0 255 (0, d)).1 = [] then rfail 1 (rvec 1 0 255 (0, d)).2 else (rvec 1 0 255 (0, d)).2) := rfl
    have h2 : chExt f 45 d rest = (rdv 1 d).map fun x => ({ f with modes := x.1 }, x.2) := rfl
    rcases ca_vec0 (k := 1) (high := 255) (by decide) d with ⟨e1, e2⟩ | ⟨x, r, e1, e2⟩
    · exact .inr (.inl ⟨by rw [h1, e2, if_pos rfl, ca_rfail (by decide)]; show (3 : Nat) ≠ 0; decide, by rw [h2, e1]; rfl⟩)
    · by_cases hx : x = []
      · exact .inr (.inr (by rw [h1, e2, if_pos hx, ca_rfail0]))
      · exact .inl ⟨_, r, by rw [h1, e2, if_neg hx], by rw [h2, e1]; rfl⟩
  by_cases k17 : ty = 57
  · subst k17; exact .inl ⟨_, [], rfl, rfl⟩
  by_cases k18 : ty = 41
  · subst k18
    rw [hr rfl]
    exact ext_psk hf
  by_cases k19 : ty = 65037
  · subst k19
    have h1 : rcext 65037 f (0, d) = ({ f with ech := (rrest (0, d)).1 }, (rrest (0, d)).2) := rfl
    have h2 : chExt f 65037 d rest = some ({ f with ech := d }, []) := rfl
    by_cases hd : d = []
    · refine .inr (.inr ?_)
      rw [h1]
      unfold rrest
      rw [if_pos hd, ca_rfail0]
    · refine .inl ⟨_, [], ?_, h2⟩
      rw [h1]
      unfold rrest
      rw [if_neg hd]
  refine .inl ⟨f, [], ?_, ?_⟩
  · unfold rcext
    rw [if_neg k1, if_neg k2, if_neg k3, if_neg k4, if_neg k5, if_neg k6, if_neg k7, if_neg k8, if_neg k9, if_neg k10, if_neg k11]
    unfold rcext13
    rw [if_neg k12, if_neg k13, if_neg k14, if_neg k15, if_neg k16, if_neg k17, if_neg k19, if_neg k18]
  · unfold chExt
    rw [if_neg k1, if_neg k2, if_neg k3, if_neg k4, if_neg k5, if_neg k6, if_neg k7, if_neg k8, if_neg k9, if_neg k10, if_neg k11, if_neg k12, if_neg k13, if_neg k14, if_neg k15, if_neg k16, if_neg k17, if_neg k18, if_neg k19]

end Go.Proofs.Ytopcljikkdlffaa
