/- The plain law of FnServerHelloAgain: a ServerHello that was read is made, and read again as it was. No program and no memory stand here. -/
import Derived.Test.YtopcljikkdlffaaMx
import Derived.Test.YtopcljikkdlffaaCa
namespace Go.Proofs.Ytopcljikkdlffaa

def pz0 (f : SH) : Nat := if f.ocsp = true then 4 else 0
def pz1 (f : SH) : Nat := if f.ticket = true then 4 else 0
def pz2 (f : SH) : Nat := if f.srs = true then 5 + f.sr.length else 0
def pz3 (f : SH) : Nat := if f.ems = true then 4 else 0
def pz4 (f : SH) : Nat := if 0 < f.alpn.length then 7 + f.alpn.length else 0
def pz5 (f : SH) : Nat := if 0 < f.scts.length then 6 + (vecs 2 f.scts).length else 0
def pz6 (f : SH) : Nat := if f.sver ≠ 0 then 6 else 0
def pz7 (f : SH) : Nat := if f.sgroup ≠ 0 then 8 + f.sdata.length else 0
def pz8 (f : SH) : Nat := if f.sip = true then 6 else 0
def pz9 (f : SH) : Nat := if 0 < f.cookie.length then 6 + f.cookie.length else 0
def pz10 (f : SH) : Nat := if f.selg ≠ 0 then 6 else 0
def pz11 (f : SH) : Nat := if 0 < f.pts.length then 5 + f.pts.length else 0
def pz12 (f : SH) : Nat := if 0 < f.ech.length then 4 + f.ech.length else 0
def pz13 (f : SH) : Nat := if f.sna = true then 4 else 0
/-- What the extensions cost when they are made. -/
def shCost (f : SH) : Nat := pz0 f + pz1 f + pz2 f + pz3 f + pz4 f + pz5 f + pz6 f + pz7 f + pz8 f + pz9 f + pz10 f + pz11 f + pz12 f + pz13 f

theorem pzl0 (f : SH) : (encX (one (f.ocsp = true) 5 (([] : List UInt8)))).length = pz0 f := by
  unfold one pz0
  by_cases h : f.ocsp = true
  · rw [if_pos h, if_pos h]; simp [encX, en_length] <;> omega
  · rw [if_neg h, if_neg h]; rfl

theorem pzl1 (f : SH) : (encX (one (f.ticket = true) 35 (([] : List UInt8)))).length = pz1 f := by
  unfold one pz1
  by_cases h : f.ticket = true
  · rw [if_pos h, if_pos h]; simp [encX, en_length] <;> omega
  · rw [if_neg h, if_neg h]; rfl

theorem pzl2 (f : SH) : (encX (one (f.srs = true) 65281 (en 1 f.sr.length ++ f.sr))).length = pz2 f := by
  unfold one pz2
  by_cases h : f.srs = true
  · rw [if_pos h, if_pos h]; simp [encX, en_length] <;> omega
  · rw [if_neg h, if_neg h]; rfl

theorem pzl3 (f : SH) : (encX (one (f.ems = true) 23 (([] : List UInt8)))).length = pz3 f := by
  unfold one pz3
  by_cases h : f.ems = true
  · rw [if_pos h, if_pos h]; simp [encX, en_length] <;> omega
  · rw [if_neg h, if_neg h]; rfl

theorem pzl4 (f : SH) : (encX (one (0 < f.alpn.length) 16 (en 2 (en 1 f.alpn.length ++ f.alpn).length ++ (en 1 f.alpn.length ++ f.alpn)))).length = pz4 f := by
  unfold one pz4
  by_cases h : 0 < f.alpn.length
  · rw [if_pos h, if_pos h]; simp [encX, en_length] <;> omega
  · rw [if_neg h, if_neg h]; rfl

theorem pzl5 (f : SH) : (encX (one (0 < f.scts.length) 18 (en 2 (vecs 2 f.scts).length ++ vecs 2 f.scts))).length = pz5 f := by
  unfold one pz5
  by_cases h : 0 < f.scts.length
  · rw [if_pos h, if_pos h]; simp [encX, en_length] <;> omega
  · rw [if_neg h, if_neg h]; rfl

theorem pzl6 (f : SH) : (encX (one (f.sver ≠ 0) 43 (en 2 f.sver))).length = pz6 f := by
  unfold one pz6
  by_cases h : f.sver ≠ 0
  · rw [if_pos h, if_pos h]; simp [encX, en_length] <;> omega
  · rw [if_neg h, if_neg h]; rfl

theorem pzl7 (f : SH) : (encX (one (f.sgroup ≠ 0) 51 (en 2 f.sgroup ++ en 2 f.sdata.length ++ f.sdata))).length = pz7 f := by
  unfold one pz7
  by_cases h : f.sgroup ≠ 0
  · rw [if_pos h, if_pos h]; simp [encX, en_length] <;> omega
  · rw [if_neg h, if_neg h]; rfl

theorem pzl8 (f : SH) : (encX (one (f.sip = true) 41 (en 2 f.sid))).length = pz8 f := by
  unfold one pz8
  by_cases h : f.sip = true
  · rw [if_pos h, if_pos h]; simp [encX, en_length] <;> omega
  · rw [if_neg h, if_neg h]; rfl

theorem pzl9 (f : SH) : (encX (one (0 < f.cookie.length) 44 (en 2 f.cookie.length ++ f.cookie))).length = pz9 f := by
  unfold one pz9
  by_cases h : 0 < f.cookie.length
  · rw [if_pos h, if_pos h]; simp [encX, en_length] <;> omega
  · rw [if_neg h, if_neg h]; rfl

theorem pzl10 (f : SH) : (encX (one (f.selg ≠ 0) 51 (en 2 f.selg))).length = pz10 f := by
  unfold one pz10
  by_cases h : f.selg ≠ 0
  · rw [if_pos h, if_pos h]; simp [encX, en_length] <;> omega
  · rw [if_neg h, if_neg h]; rfl

theorem pzl11 (f : SH) : (encX (one (0 < f.pts.length) 11 (en 1 f.pts.length ++ f.pts))).length = pz11 f := by
  unfold one pz11
  by_cases h : 0 < f.pts.length
  · rw [if_pos h, if_pos h]; simp [encX, en_length] <;> omega
  · rw [if_neg h, if_neg h]; rfl

theorem pzl12 (f : SH) : (encX (one (0 < f.ech.length) 65037 (f.ech))).length = pz12 f := by
  unfold one pz12
  by_cases h : 0 < f.ech.length
  · rw [if_pos h, if_pos h]; simp [encX, en_length] <;> omega
  · rw [if_neg h, if_neg h]; rfl

theorem pzl13 (f : SH) : (encX (one (f.sna = true) 0 (([] : List UInt8)))).length = pz13 f := by
  unfold one pz13
  by_cases h : f.sna = true
  · rw [if_pos h, if_pos h]; simp [encX, en_length] <;> omega
  · rw [if_neg h, if_neg h]; rfl

theorem len14 (a0 a1 a2 a3 a4 a5 a6 a7 a8 a9 a10 a11 a12 a13 : List UInt8) : (a0 ++ a1 ++ a2 ++ a3 ++ a4 ++ a5 ++ a6 ++ a7 ++ a8 ++ a9 ++ a10 ++ a11 ++ a12 ++ a13).length = a0.length + a1.length + a2.length + a3.length + a4.length + a5.length + a6.length + a7.length + a8.length + a9.length + a10.length + a11.length + a12.length + a13.length := by
  simp only [List.length_append]

theorem shCost_len (f : SH) : (encX (shX f)).length = shCost f := by
  unfold shX shCost
  simp only [encX_append]
  rw [len14, pzl0, pzl1, pzl2, pzl3, pzl4, pzl5, pzl6, pzl7, pzl8, pzl9, pzl10, pzl11, pzl12, pzl13]

/-- What is right of fields that were read. -/
structure ShS (f : SH) : Prop where
  vers : f.vers < 65536
  random : f.random.length = 32
  session : f.session.length < 256
  cipher : f.cipher < 65536
  comp : f.comp < 256
  sr : f.sr.length < 256
  alpn : f.alpn.length < 256
  scts : ∀ x ∈ f.scts, x ≠ [] ∧ x.length < 256 ^ 2
  sver : f.sver < 65536
  sgroup : f.sgroup < 65536
  sid : f.sid < 65536
  pts : f.pts.length < 256
  selg : f.selg < 65536
  nosr : f.srs = false → f.sr = []
  nosid : f.sip = false → f.sid = 0
  excl : (f.sgroup = 0 ∧ f.sdata = []) ∨ f.selg = 0

theorem be2_lt {s a r : List UInt8} (h : rd 2 s = some (a, r)) : be a < 65536 := by
  have := be_lt a
  rw [(rd_some h).2] at this
  exact this
theorem be1_lt {s a r : List UInt8} (h : rd 1 s = some (a, r)) : be a < 256 := by
  have := be_lt a
  rw [(rd_some h).2] at this
  exact this
theorem rdv_len {k : Nat} {s x r : List UInt8} (h : rdv k s = some (x, r)) : s.length = k + x.length + r.length := by
  rw [(rdv_some h).1]; simp [en_length]; omega
theorem rd_len {k : Nat} {s x r : List UInt8} (h : rd k s = some (x, r)) : s.length = k + r.length := by
  obtain ⟨e, e2⟩ := rd_some h
  rw [e]; simp [e2]

theorem shExt_ok {f f' : SH} {ty : Nat} {d r : List UInt8} (h : shExt f ty d = some (f', r)) (hS : ShS f) (h51 : ty = 51 → f.sgroup = 0 ∧ f.sdata = [] ∧ f.selg = 0) : ShS f' ∧ shCost f' + r.length ≤ shCost f + 4 + d.length ∧ (ty ≠ 51 → f'.sgroup = f.sgroup ∧ f'.sdata = f.sdata ∧ f'.selg = f.selg) := by
  unfold shExt at h
  by_cases h5 : ty = 5
  · rw [if_pos h5] at h
    cases h
    refine ⟨⟨hS.vers, hS.random, hS.session, hS.cipher, hS.comp, hS.sr, hS.alpn, hS.scts, hS.sver, hS.sgroup, hS.sid, hS.pts, hS.selg, hS.nosr, hS.nosid, hS.excl⟩, ?_, fun hne => ⟨rfl, rfl, rfl⟩⟩
    have hp : pz0 ({ f with ocsp := true }) ≤ 4 := by unfold pz0; split <;> simp
    change pz0 ({ f with ocsp := true }) + pz1 f + pz2 f + pz3 f + pz4 f + pz5 f + pz6 f + pz7 f + pz8 f + pz9 f + pz10 f + pz11 f + pz12 f + pz13 f + d.length ≤ shCost f + 4 + d.length
    unfold shCost
    omega
  rw [if_neg h5] at h
  by_cases h35 : ty = 35
  · rw [if_pos h35] at h
    cases h
    refine ⟨⟨hS.vers, hS.random, hS.session, hS.cipher, hS.comp, hS.sr, hS.alpn, hS.scts, hS.sver, hS.sgroup, hS.sid, hS.pts, hS.selg, hS.nosr, hS.nosid, hS.excl⟩, ?_, fun hne => ⟨rfl, rfl, rfl⟩⟩
    have hp : pz1 ({ f with ticket := true }) ≤ 4 := by unfold pz1; split <;> simp
    change pz0 f + pz1 ({ f with ticket := true }) + pz2 f + pz3 f + pz4 f + pz5 f + pz6 f + pz7 f + pz8 f + pz9 f + pz10 f + pz11 f + pz12 f + pz13 f + d.length ≤ shCost f + 4 + d.length
    unfold shCost
    omega
  rw [if_neg h35] at h
  by_cases h65281 : ty = 65281
  · rw [if_pos h65281] at h
    obtain ⟨⟨x, rr⟩, h1, h2⟩ := Option.map_eq_some_iff.1 h
    cases h2
    have hd := rdv_len h1
    have hx := (rdv_some h1).2
    refine ⟨⟨hS.vers, hS.random, hS.session, hS.cipher, hS.comp, (by simpa using hx), hS.alpn, hS.scts, hS.sver, hS.sgroup, hS.sid, hS.pts, hS.selg, (fun e => by cases e), hS.nosid, hS.excl⟩, ?_, fun hne => ⟨rfl, rfl, rfl⟩⟩
    have hp : pz2 ({ f with sr := x, srs := true }) ≤ 5 + x.length := by unfold pz2; split <;> simp
    change pz0 f + pz1 f + pz2 ({ f with sr := x, srs := true }) + pz3 f + pz4 f + pz5 f + pz6 f + pz7 f + pz8 f + pz9 f + pz10 f + pz11 f + pz12 f + pz13 f + rr.length ≤ shCost f + 4 + d.length
    unfold shCost
    omega
  rw [if_neg h65281] at h
  by_cases h23 : ty = 23
  · rw [if_pos h23] at h
    cases h
    refine ⟨⟨hS.vers, hS.random, hS.session, hS.cipher, hS.comp, hS.sr, hS.alpn, hS.scts, hS.sver, hS.sgroup, hS.sid, hS.pts, hS.selg, hS.nosr, hS.nosid, hS.excl⟩, ?_, fun hne => ⟨rfl, rfl, rfl⟩⟩
    have hp : pz3 ({ f with ems := true }) ≤ 4 := by unfold pz3; split <;> simp
    change pz0 f + pz1 f + pz2 f + pz3 ({ f with ems := true }) + pz4 f + pz5 f + pz6 f + pz7 f + pz8 f + pz9 f + pz10 f + pz11 f + pz12 f + pz13 f + d.length ≤ shCost f + 4 + d.length
    unfold shCost
    omega
  rw [if_neg h23] at h
  by_cases h16 : ty = 16
  · rw [if_pos h16] at h
    obtain ⟨⟨l, rr⟩, h1, h2⟩ := Option.bind_eq_some_iff.1 h
    by_cases hl : l = []
    · rw [if_pos hl] at h2; cases h2
    rw [if_neg hl] at h2
    obtain ⟨⟨x, r2⟩, h3, h4⟩ := Option.bind_eq_some_iff.1 h2
    by_cases hx : x = [] ∨ r2 ≠ []
    · rw [if_pos hx] at h4; cases h4
    rw [if_neg hx] at h4
    cases h4
    have hd := rdv_len h1
    have hd2 := rdv_len h3
    have hx2 := (rdv_some h3).2
    simp only at hd2
    refine ⟨⟨hS.vers, hS.random, hS.session, hS.cipher, hS.comp, hS.sr, (by simpa using hx2), hS.scts, hS.sver, hS.sgroup, hS.sid, hS.pts, hS.selg, hS.nosr, hS.nosid, hS.excl⟩, ?_, fun hne => ⟨rfl, rfl, rfl⟩⟩
    have hp : pz4 ({ f with alpn := x }) ≤ 7 + x.length := by unfold pz4; split <;> simp
    change pz0 f + pz1 f + pz2 f + pz3 f + pz4 ({ f with alpn := x }) + pz5 f + pz6 f + pz7 f + pz8 f + pz9 f + pz10 f + pz11 f + pz12 f + pz13 f + rr.length ≤ shCost f + 4 + d.length
    unfold shCost
    omega
  rw [if_neg h16] at h
  by_cases h18 : ty = 18
  · rw [if_pos h18] at h
    obtain ⟨⟨l, rr⟩, h1, h2⟩ := Option.bind_eq_some_iff.1 h
    by_cases hl : l = []
    · rw [if_pos hl] at h2; cases h2
    rw [if_neg hl] at h2
    obtain ⟨L, h3, h4⟩ := Option.map_eq_some_iff.1 h2
    cases h4
    have hd := rdv_len h1
    obtain ⟨e1, e2⟩ := tvecs_len h3
    simp only at e1
    have hv : (vecs 2 (f.scts ++ L)).length = (vecs 2 f.scts).length + l.length := by rw [vecs_append, List.length_append, ← e1]
    refine ⟨⟨hS.vers, hS.random, hS.session, hS.cipher, hS.comp, hS.sr, hS.alpn, (fun x hx => by rcases List.mem_append.1 hx with hx | hx; exact hS.scts x hx; exact e2 x hx), hS.sver, hS.sgroup, hS.sid, hS.pts, hS.selg, hS.nosr, hS.nosid, hS.excl⟩, ?_, fun hne => ⟨rfl, rfl, rfl⟩⟩
    have hp : pz5 ({ f with scts := f.scts ++ L }) ≤ pz5 f + 6 + l.length := by
      unfold pz5
      by_cases hz : 0 < f.scts.length
      · rw [if_pos hz, if_pos (by simp; omega)]; simp only; omega
      · rw [if_neg hz]
        have hz2 : f.scts = [] := List.length_eq_zero_iff.1 (by omega)
        have hz3 : (vecs 2 f.scts).length = 0 := by rw [hz2]; rfl
        split
        · simp only; omega
        · omega
    change pz0 f + pz1 f + pz2 f + pz3 f + pz4 f + pz5 ({ f with scts := f.scts ++ L }) + pz6 f + pz7 f + pz8 f + pz9 f + pz10 f + pz11 f + pz12 f + pz13 f + rr.length ≤ shCost f + 4 + d.length
    unfold shCost
    omega
  rw [if_neg h18] at h
  by_cases h43 : ty = 43
  · rw [if_pos h43] at h
    obtain ⟨⟨a, rr⟩, h1, h2⟩ := Option.map_eq_some_iff.1 h
    cases h2
    have hd := rd_len h1
    refine ⟨⟨hS.vers, hS.random, hS.session, hS.cipher, hS.comp, hS.sr, hS.alpn, hS.scts, (be2_lt h1), hS.sgroup, hS.sid, hS.pts, hS.selg, hS.nosr, hS.nosid, hS.excl⟩, ?_, fun hne => ⟨rfl, rfl, rfl⟩⟩
    have hp : pz6 ({ f with sver := be a }) ≤ 6 := by unfold pz6; split <;> simp
    change pz0 f + pz1 f + pz2 f + pz3 f + pz4 f + pz5 f + pz6 ({ f with sver := be a }) + pz7 f + pz8 f + pz9 f + pz10 f + pz11 f + pz12 f + pz13 f + rr.length ≤ shCost f + 4 + d.length
    unfold shCost
    omega
  rw [if_neg h43] at h
  by_cases h44 : ty = 44
  · rw [if_pos h44] at h
    obtain ⟨⟨x, rr⟩, h1, h2⟩ := Option.bind_eq_some_iff.1 h
    by_cases hx : x = []
    · rw [if_pos hx] at h2; cases h2
    rw [if_neg hx] at h2
    cases h2
    have hd := rdv_len h1
    refine ⟨⟨hS.vers, hS.random, hS.session, hS.cipher, hS.comp, hS.sr, hS.alpn, hS.scts, hS.sver, hS.sgroup, hS.sid, hS.pts, hS.selg, hS.nosr, hS.nosid, hS.excl⟩, ?_, fun hne => ⟨rfl, rfl, rfl⟩⟩
    have hp : pz9 ({ f with cookie := x }) ≤ 6 + x.length := by unfold pz9; split <;> simp
    change pz0 f + pz1 f + pz2 f + pz3 f + pz4 f + pz5 f + pz6 f + pz7 f + pz8 f + pz9 ({ f with cookie := x }) + pz10 f + pz11 f + pz12 f + pz13 f + rr.length ≤ shCost f + 4 + d.length
    unfold shCost
    omega
  rw [if_neg h44] at h
  by_cases h51' : ty = 51
  · rw [if_pos h51'] at h
    obtain ⟨g1, g2, g3⟩ := h51 h51'
    by_cases hl : d.length = 2
    · rw [if_pos hl] at h
      obtain ⟨⟨a, rr⟩, h1, h2⟩ := Option.map_eq_some_iff.1 h
      cases h2
      have hd := rd_len h1
      refine ⟨⟨hS.vers, hS.random, hS.session, hS.cipher, hS.comp, hS.sr, hS.alpn, hS.scts, hS.sver, hS.sgroup, hS.sid, hS.pts, (be2_lt h1), hS.nosr, hS.nosid, (.inl ⟨g1, g2⟩)⟩, ?_, fun hne => absurd h51' hne⟩
      have hp : pz10 ({ f with selg := be a }) ≤ 6 := by unfold pz10; split <;> simp
      change pz0 f + pz1 f + pz2 f + pz3 f + pz4 f + pz5 f + pz6 f + pz7 f + pz8 f + pz9 f + pz10 ({ f with selg := be a }) + pz11 f + pz12 f + pz13 f + rr.length ≤ shCost f + 4 + d.length
      unfold shCost
      omega
    · rw [if_neg hl] at h
      obtain ⟨⟨a, r1⟩, h1, h2⟩ := Option.bind_eq_some_iff.1 h
      obtain ⟨⟨x, rr⟩, h3, h4⟩ := Option.map_eq_some_iff.1 h2
      cases h4
      have hd := rd_len h1
      have hd2 := rdv_len h3
      simp only at hd2
      refine ⟨⟨hS.vers, hS.random, hS.session, hS.cipher, hS.comp, hS.sr, hS.alpn, hS.scts, hS.sver, (be2_lt h1), hS.sid, hS.pts, hS.selg, hS.nosr, hS.nosid, (.inr g3)⟩, ?_, fun hne => absurd h51' hne⟩
      have hp : pz7 ({ f with sgroup := be a, sdata := x }) ≤ 8 + x.length := by unfold pz7; split <;> simp
      change pz0 f + pz1 f + pz2 f + pz3 f + pz4 f + pz5 f + pz6 f + pz7 ({ f with sgroup := be a, sdata := x }) + pz8 f + pz9 f + pz10 f + pz11 f + pz12 f + pz13 f + rr.length ≤ shCost f + 4 + d.length
      unfold shCost
      omega
  rw [if_neg h51'] at h
  by_cases h41 : ty = 41
  · rw [if_pos h41] at h
    obtain ⟨⟨a, rr⟩, h1, h2⟩ := Option.map_eq_some_iff.1 h
    cases h2
    have hd := rd_len h1
    refine ⟨⟨hS.vers, hS.random, hS.session, hS.cipher, hS.comp, hS.sr, hS.alpn, hS.scts, hS.sver, hS.sgroup, (be2_lt h1), hS.pts, hS.selg, hS.nosr, (fun e => by cases e), hS.excl⟩, ?_, fun hne => ⟨rfl, rfl, rfl⟩⟩
    have hp : pz8 ({ f with sip := true, sid := be a }) ≤ 6 := by unfold pz8; split <;> simp
    change pz0 f + pz1 f + pz2 f + pz3 f + pz4 f + pz5 f + pz6 f + pz7 f + pz8 ({ f with sip := true, sid := be a }) + pz9 f + pz10 f + pz11 f + pz12 f + pz13 f + rr.length ≤ shCost f + 4 + d.length
    unfold shCost
    omega
  rw [if_neg h41] at h
  by_cases h11 : ty = 11
  · rw [if_pos h11] at h
    obtain ⟨⟨x, rr⟩, h1, h2⟩ := Option.bind_eq_some_iff.1 h
    by_cases hx : x = []
    · rw [if_pos hx] at h2; cases h2
    rw [if_neg hx] at h2
    cases h2
    have hd := rdv_len h1
    have hx2 := (rdv_some h1).2
    refine ⟨⟨hS.vers, hS.random, hS.session, hS.cipher, hS.comp, hS.sr, hS.alpn, hS.scts, hS.sver, hS.sgroup, hS.sid, (by simpa using hx2), hS.selg, hS.nosr, hS.nosid, hS.excl⟩, ?_, fun hne => ⟨rfl, rfl, rfl⟩⟩
    have hp : pz11 ({ f with pts := x }) ≤ 5 + x.length := by unfold pz11; split <;> simp
    change pz0 f + pz1 f + pz2 f + pz3 f + pz4 f + pz5 f + pz6 f + pz7 f + pz8 f + pz9 f + pz10 f + pz11 ({ f with pts := x }) + pz12 f + pz13 f + rr.length ≤ shCost f + 4 + d.length
    unfold shCost
    omega
  rw [if_neg h11] at h
  by_cases h65037 : ty = 65037
  · rw [if_pos h65037] at h
    cases h
    refine ⟨⟨hS.vers, hS.random, hS.session, hS.cipher, hS.comp, hS.sr, hS.alpn, hS.scts, hS.sver, hS.sgroup, hS.sid, hS.pts, hS.selg, hS.nosr, hS.nosid, hS.excl⟩, ?_, fun hne => ⟨rfl, rfl, rfl⟩⟩
    have hp : pz12 ({ f with ech := d }) ≤ 4 + d.length := by unfold pz12; split <;> simp
    change pz0 f + pz1 f + pz2 f + pz3 f + pz4 f + pz5 f + pz6 f + pz7 f + pz8 f + pz9 f + pz10 f + pz11 f + pz12 ({ f with ech := d }) + pz13 f + ([] : List UInt8).length ≤ shCost f + 4 + d.length
    unfold shCost
    simp only [List.length_nil]
    omega
  rw [if_neg h65037] at h
  by_cases h0 : ty = 0
  · rw [if_pos h0] at h
    by_cases hd : d = []
    · rw [if_pos hd] at h
      cases h
      refine ⟨⟨hS.vers, hS.random, hS.session, hS.cipher, hS.comp, hS.sr, hS.alpn, hS.scts, hS.sver, hS.sgroup, hS.sid, hS.pts, hS.selg, hS.nosr, hS.nosid, hS.excl⟩, ?_, fun hne => ⟨rfl, rfl, rfl⟩⟩
      have hp : pz13 ({ f with sna := true }) ≤ 4 := by unfold pz13; split <;> simp
      change pz0 f + pz1 f + pz2 f + pz3 f + pz4 f + pz5 f + pz6 f + pz7 f + pz8 f + pz9 f + pz10 f + pz11 f + pz12 f + pz13 ({ f with sna := true }) + ([] : List UInt8).length ≤ shCost f + 4 + d.length
      unfold shCost
      simp only [List.length_nil]
      omega
    · rw [if_neg hd] at h; cases h
  rw [if_neg h0] at h
  cases h
  exact ⟨hS, by simp only [List.length_nil]; omega, fun hne => ⟨rfl, rfl, rfl⟩⟩

theorem shExts_ok : ∀ {n : Nat} {seen : List Nat} {f f' : SH} {s : List UInt8}, shExts n seen f s = some f' → ShS f → (51 ∉ seen → f.sgroup = 0 ∧ f.sdata = [] ∧ f.selg = 0) → ShS f' ∧ shCost f' ≤ shCost f + s.length
  | 0, seen, f, f', s, h, hS, _ => by
    unfold shExts at h
    by_cases hs : s = []
    · rw [if_pos hs] at h; cases h; exact ⟨hS, by omega⟩
    · rw [if_neg hs] at h; cases h
  | n + 1, seen, f, f', s, h, hS, h51 => by
    by_cases hs : s = []
    · unfold shExts at h; rw [if_pos hs] at h; cases h; exact ⟨hS, by omega⟩
    · unfold shExts at h
      rw [if_neg hs] at h
      obtain ⟨⟨t, r1⟩, h1, h2⟩ := Option.bind_eq_some_iff.1 h
      obtain ⟨⟨d, r2⟩, h3, h4⟩ := Option.bind_eq_some_iff.1 h2
      simp only at h3 h4
      by_cases hin : be t ∈ seen
      · rw [if_pos hin] at h4; cases h4
      · rw [if_neg hin] at h4
        obtain ⟨⟨f1, r3⟩, h5, h6⟩ := Option.bind_eq_some_iff.1 h4
        by_cases hr : r3 = []
        · rw [if_pos hr] at h6
          obtain ⟨j1, j2, j3⟩ := shExt_ok h5 hS (fun e => h51 (e ▸ hin))
          have hl1 := rd_len h1
          have hl2 := rdv_len h3
          simp only at h6
          obtain ⟨k1, k2⟩ := shExts_ok h6 j1 (fun hn => by
            have hne : be t ≠ 51 := fun e => hn (by simp [e])
            obtain ⟨e1, e2, e3⟩ := j3 hne
            rw [e1, e2, e3]
            exact h51 (fun hm => hn (by simp [hm])))
          exact ⟨k1, by omega⟩
        · rw [if_neg hr] at h6; cases h6

/-- The extensions of a list, one behind the other. -/
def foldX : List (Nat × List UInt8) → SH → Option SH
  | [], f => some f
  | e :: L, f => (shExt f e.1 e.2).bind fun y => if y.2 = [] then foldX L y.1 else none

theorem foldX_append (A B : List (Nat × List UInt8)) (f : SH) : foldX (A ++ B) f = (foldX A f).bind (foldX B) := by
  induction A generalizing f with
  | nil => rfl
  | cons e A ih =>
    show ((shExt f e.1 e.2).bind fun y => if y.2 = [] then foldX (A ++ B) y.1 else none) = ((shExt f e.1 e.2).bind fun y => if y.2 = [] then foldX A y.1 else none).bind (foldX B)
    cases shExt f e.1 e.2 with
    | none => rfl
    | some y =>
      simp only [Option.bind_some]
      by_cases h : y.2 = []
      · rw [if_pos h, if_pos h]; exact ih _
      · rw [if_neg h, if_neg h]; rfl

theorem shExts_enc : ∀ (L : List (Nat × List UInt8)) (n : Nat) (seen : List Nat) (f : SH), (∀ e ∈ L, e.1 < 65536 ∧ e.2.length < 65536) → (L.map (·.1)).Nodup → (∀ e ∈ L, e.1 ∉ seen) → L.length ≤ n → shExts n seen f (encX L) = foldX L f
  | [], n, seen, f, _, _, _, _ => by cases n <;> rfl
  | e :: L, n, seen, f, hb, hnd, hs, hn => by
    obtain ⟨n, rfl⟩ : ∃ n', n = n' + 1 := ⟨n - 1, by simp at hn; omega⟩
    obtain ⟨b1, b2⟩ := hb e (by simp)
    have e0 : encX (e :: L) = en 2 e.1 ++ (en 2 e.2.length ++ e.2 ++ encX L) := by simp [encX]
    have hne : encX (e :: L) ≠ [] := by rw [e0]; simp [en]
    have hbe : be (en 2 e.1) = e.1 := by rw [be_en]; exact Nat.mod_eq_of_lt b1
    have h1 : shExts (n + 1) seen f (encX (e :: L)) = (rd 2 (encX (e :: L))).bind fun t => (rdv 2 t.2).bind fun d => if be t.1 ∈ seen then none else
        (shExt f (be t.1) d.1).bind fun y => if y.2 = [] then shExts n (be t.1 :: seen) y.1 d.2 else none := by
      show (if encX (e :: L) = [] then _ else _) = _
      rw [if_neg hne]
    rw [h1, e0, rd_en, Option.bind_some]
    simp only
    rw [rdv_append (k := 2) (by omega), Option.bind_some]
    simp only
    rw [hbe, if_neg (hs e (by simp))]
    show _ = (shExt f e.1 e.2).bind fun y => if y.2 = [] then foldX L y.1 else none
    simp only [List.map_cons, List.nodup_cons] at hnd
    congr 1
    funext y
    by_cases hy : y.2 = []
    · rw [if_pos hy, if_pos hy]
      refine shExts_enc L n (e.1 :: seen) y.1 (fun x hx => hb x (by simp [hx])) hnd.2 (fun x hx hm => ?_) (by simp at hn; omega)
      rcases List.mem_cons.1 hm with hm | hm
      · exact hnd.1 (by rw [← hm]; exact List.mem_map_of_mem hx)
      · exact hs x (by simp [hx]) hm
    · rw [if_neg hy, if_neg hy]

theorem sna_eta (f : SH) (b : Bool) (e : b = f.sna) : some ({ vers := f.vers, random := f.random, session := f.session, cipher := f.cipher, comp := f.comp, ocsp := f.ocsp, ticket := f.ticket, srs := f.srs, sr := f.sr, ems := f.ems, alpn := f.alpn, scts := f.scts, sver := f.sver, sgroup := f.sgroup, sdata := f.sdata, sip := f.sip, sid := f.sid, pts := f.pts, ech := f.ech, sna := b, cookie := f.cookie, selg := f.selg } : SH) = some f := by subst e; rfl

theorem fx0 (f : SH) (hS : ShS f) (hc : shCost f < 60000) (hg : f.sgroup ≠ 0 ∨ f.sdata = []) : foldX (one (f.ocsp = true) 5 (([] : List UInt8))) { vers := f.vers, random := f.random, session := f.session, cipher := f.cipher, comp := f.comp } = some { vers := f.vers, random := f.random, session := f.session, cipher := f.cipher, comp := f.comp, ocsp := f.ocsp } := by
  unfold one
  by_cases h : f.ocsp = true
  · rw [if_pos h]
    show ((shExt _ 5 (([] : List UInt8))).bind fun y => if y.2 = [] then some y.1 else none) = _
    unfold shExt
    simp only [Nat.reduceEqDiff, if_false, if_true, Option.bind_some, h]
  · rw [if_neg h]
    have z : f.ocsp = false := by simpa using h
    show some _ = some _
    rw [z]

theorem fx1 (f : SH) (hS : ShS f) (hc : shCost f < 60000) (hg : f.sgroup ≠ 0 ∨ f.sdata = []) : foldX (one (f.ticket = true) 35 (([] : List UInt8))) { vers := f.vers, random := f.random, session := f.session, cipher := f.cipher, comp := f.comp, ocsp := f.ocsp } = some { vers := f.vers, random := f.random, session := f.session, cipher := f.cipher, comp := f.comp, ocsp := f.ocsp, ticket := f.ticket } := by
  unfold one
  by_cases h : f.ticket = true
  · rw [if_pos h]
    show ((shExt _ 35 (([] : List UInt8))).bind fun y => if y.2 = [] then some y.1 else none) = _
    unfold shExt
    simp only [Nat.reduceEqDiff, if_false, if_true, Option.bind_some, h]
  · rw [if_neg h]
    have z : f.ticket = false := by simpa using h
    show some _ = some _
    rw [z]

theorem fx2 (f : SH) (hS : ShS f) (hc : shCost f < 60000) (hg : f.sgroup ≠ 0 ∨ f.sdata = []) : foldX (one (f.srs = true) 65281 (en 1 f.sr.length ++ f.sr)) { vers := f.vers, random := f.random, session := f.session, cipher := f.cipher, comp := f.comp, ocsp := f.ocsp, ticket := f.ticket } = some { vers := f.vers, random := f.random, session := f.session, cipher := f.cipher, comp := f.comp, ocsp := f.ocsp, ticket := f.ticket, srs := f.srs, sr := f.sr } := by
  unfold one
  by_cases h : f.srs = true
  · rw [if_pos h]
    have h1 : rdv 1 (en 1 f.sr.length ++ f.sr) = some (f.sr, []) := by
      have := rdv_append (k := 1) (x := f.sr) (r := []) (by have := hS.sr; omega)
      simpa using this
    show ((shExt _ 65281 (en 1 f.sr.length ++ f.sr)).bind fun y => if y.2 = [] then some y.1 else none) = _
    unfold shExt
    simp only [Nat.reduceEqDiff, if_false, if_true, Option.bind_some, h1, Option.map_some, h]
  · rw [if_neg h]
    have z2 : f.sr = [] := hS.nosr (by simpa using h)
    have z : f.srs = false := by simpa using h
    show some _ = some _
    rw [z, z2]

theorem fx3 (f : SH) (hS : ShS f) (hc : shCost f < 60000) (hg : f.sgroup ≠ 0 ∨ f.sdata = []) : foldX (one (f.ems = true) 23 (([] : List UInt8))) { vers := f.vers, random := f.random, session := f.session, cipher := f.cipher, comp := f.comp, ocsp := f.ocsp, ticket := f.ticket, srs := f.srs, sr := f.sr } = some { vers := f.vers, random := f.random, session := f.session, cipher := f.cipher, comp := f.comp, ocsp := f.ocsp, ticket := f.ticket, srs := f.srs, sr := f.sr, ems := f.ems } := by
  unfold one
  by_cases h : f.ems = true
  · rw [if_pos h]
    show ((shExt _ 23 (([] : List UInt8))).bind fun y => if y.2 = [] then some y.1 else none) = _
    unfold shExt
    simp only [Nat.reduceEqDiff, if_false, if_true, Option.bind_some, h]
  · rw [if_neg h]
    have z : f.ems = false := by simpa using h
    show some _ = some _
    rw [z]

theorem fx4 (f : SH) (hS : ShS f) (hc : shCost f < 60000) (hg : f.sgroup ≠ 0 ∨ f.sdata = []) : foldX (one (0 < f.alpn.length) 16 (en 2 (en 1 f.alpn.length ++ f.alpn).length ++ (en 1 f.alpn.length ++ f.alpn))) { vers := f.vers, random := f.random, session := f.session, cipher := f.cipher, comp := f.comp, ocsp := f.ocsp, ticket := f.ticket, srs := f.srs, sr := f.sr, ems := f.ems } = some { vers := f.vers, random := f.random, session := f.session, cipher := f.cipher, comp := f.comp, ocsp := f.ocsp, ticket := f.ticket, srs := f.srs, sr := f.sr, ems := f.ems, alpn := f.alpn } := by
  unfold one
  by_cases h : 0 < f.alpn.length
  · rw [if_pos h]
    have h1 : rdv 1 (en 1 f.alpn.length ++ f.alpn) = some (f.alpn, []) := by
      have := rdv_append (k := 1) (x := f.alpn) (r := []) (by have := hS.alpn; omega)
      simpa using this
    have h2 : rdv 2 (en 2 (en 1 f.alpn.length ++ f.alpn).length ++ (en 1 f.alpn.length ++ f.alpn)) = some (en 1 f.alpn.length ++ f.alpn, []) := by
      have := rdv_append (k := 2) (x := en 1 f.alpn.length ++ f.alpn) (r := []) (by have := hS.alpn; simp [en_length]; omega)
      simpa using this
    have h3 : f.alpn ≠ [] := fun e => by rw [e] at h; simp at h
    have h4 : en 1 f.alpn.length ++ f.alpn ≠ [] := by simp [en]
    show ((shExt _ 16 (en 2 (en 1 f.alpn.length ++ f.alpn).length ++ (en 1 f.alpn.length ++ f.alpn))).bind fun y => if y.2 = [] then some y.1 else none) = _
    unfold shExt
    simp only [Nat.reduceEqDiff, if_false, if_true, Option.bind_some, h2, Option.bind_some, h4, if_false, h1, h3, false_or, ne_eq, not_true_eq_false]
  · rw [if_neg h]
    have z : f.alpn = [] := List.length_eq_zero_iff.1 (by omega)
    show some _ = some _
    rw [z]

theorem fx5 (f : SH) (hS : ShS f) (hc : shCost f < 60000) (hg : f.sgroup ≠ 0 ∨ f.sdata = []) : foldX (one (0 < f.scts.length) 18 (en 2 (vecs 2 f.scts).length ++ vecs 2 f.scts)) { vers := f.vers, random := f.random, session := f.session, cipher := f.cipher, comp := f.comp, ocsp := f.ocsp, ticket := f.ticket, srs := f.srs, sr := f.sr, ems := f.ems, alpn := f.alpn } = some { vers := f.vers, random := f.random, session := f.session, cipher := f.cipher, comp := f.comp, ocsp := f.ocsp, ticket := f.ticket, srs := f.srs, sr := f.sr, ems := f.ems, alpn := f.alpn, scts := f.scts } := by
  unfold one
  by_cases h : 0 < f.scts.length
  · rw [if_pos h]
    have h2 : rdv 2 (en 2 (vecs 2 f.scts).length ++ vecs 2 f.scts) = some (vecs 2 f.scts, []) := by
      have := rdv_append (k := 2) (x := vecs 2 f.scts) (r := []) (by have hc5 := hc; unfold shCost pz5 at hc5; rw [if_pos h] at hc5; omega)
      simpa using this
    have hm := vecs_many (k := 2) (by omega) f.scts
    have h4 : vecs 2 f.scts ≠ [] := fun e => by rw [e] at hm; simp at hm; rw [hm] at h; simp at h
    have h5 := tvecs_vecs (k := 2) f.scts (vecs 2 f.scts).length hS.scts hm
    show ((shExt _ 18 (en 2 (vecs 2 f.scts).length ++ vecs 2 f.scts)).bind fun y => if y.2 = [] then some y.1 else none) = _
    unfold shExt
    simp only [Nat.reduceEqDiff, if_false, if_true, Option.bind_some, h2, Option.bind_some, h4, if_false, h5, Option.map_some, List.nil_append]
  · rw [if_neg h]
    have z : f.scts = [] := List.length_eq_zero_iff.1 (by omega)
    show some _ = some _
    rw [z]

theorem fx6 (f : SH) (hS : ShS f) (hc : shCost f < 60000) (hg : f.sgroup ≠ 0 ∨ f.sdata = []) : foldX (one (f.sver ≠ 0) 43 (en 2 f.sver)) { vers := f.vers, random := f.random, session := f.session, cipher := f.cipher, comp := f.comp, ocsp := f.ocsp, ticket := f.ticket, srs := f.srs, sr := f.sr, ems := f.ems, alpn := f.alpn, scts := f.scts } = some { vers := f.vers, random := f.random, session := f.session, cipher := f.cipher, comp := f.comp, ocsp := f.ocsp, ticket := f.ticket, srs := f.srs, sr := f.sr, ems := f.ems, alpn := f.alpn, scts := f.scts, sver := f.sver } := by
  unfold one
  by_cases h : f.sver ≠ 0
  · rw [if_pos h]
    have h1 : rd 2 (en 2 f.sver) = some (en 2 f.sver, []) := by simpa using rd_en (k := 2) (n := f.sver) (r := [])
    have h2 : be (en 2 f.sver) = f.sver := by rw [be_en]; exact Nat.mod_eq_of_lt (by have := hS.sver; omega)
    show ((shExt _ 43 (en 2 f.sver)).bind fun y => if y.2 = [] then some y.1 else none) = _
    unfold shExt
    simp only [Nat.reduceEqDiff, if_false, if_true, Option.bind_some, h1, Option.map_some, h2]
  · rw [if_neg h]
    have z : f.sver = 0 := by omega
    show some _ = some _
    rw [z]

theorem fx7 (f : SH) (hS : ShS f) (hc : shCost f < 60000) (hg : f.sgroup ≠ 0 ∨ f.sdata = []) : foldX (one (f.sgroup ≠ 0) 51 (en 2 f.sgroup ++ en 2 f.sdata.length ++ f.sdata)) { vers := f.vers, random := f.random, session := f.session, cipher := f.cipher, comp := f.comp, ocsp := f.ocsp, ticket := f.ticket, srs := f.srs, sr := f.sr, ems := f.ems, alpn := f.alpn, scts := f.scts, sver := f.sver } = some { vers := f.vers, random := f.random, session := f.session, cipher := f.cipher, comp := f.comp, ocsp := f.ocsp, ticket := f.ticket, srs := f.srs, sr := f.sr, ems := f.ems, alpn := f.alpn, scts := f.scts, sver := f.sver, sgroup := f.sgroup, sdata := f.sdata } := by
  unfold one
  by_cases h : f.sgroup ≠ 0
  · rw [if_pos h]
    have h1 : rd 2 (en 2 f.sgroup ++ en 2 f.sdata.length ++ f.sdata) = some (en 2 f.sgroup, en 2 f.sdata.length ++ f.sdata) := by rw [List.append_assoc]; exact rd_en
    have h2 : be (en 2 f.sgroup) = f.sgroup := by rw [be_en]; exact Nat.mod_eq_of_lt (by have := hS.sgroup; omega)
    have h3 : rdv 2 (en 2 f.sdata.length ++ f.sdata) = some (f.sdata, []) := by
      have := rdv_append (k := 2) (x := f.sdata) (r := []) (by have hc5 := hc; unfold shCost pz7 at hc5; rw [if_pos h] at hc5; omega)
      simpa using this
    have h4 : ¬ (en 2 f.sgroup ++ en 2 f.sdata.length ++ f.sdata).length = 2 := by simp [en_length] <;> omega
    show ((shExt _ 51 (en 2 f.sgroup ++ en 2 f.sdata.length ++ f.sdata)).bind fun y => if y.2 = [] then some y.1 else none) = _
    unfold shExt
    simp only [Nat.reduceEqDiff, if_false, if_true, Option.bind_some, h4, if_false, h1, Option.bind_some, h3, Option.map_some, h2]
  · rw [if_neg h]
    have z : f.sgroup = 0 := by omega
    have z2 : f.sdata = [] := hg.resolve_left (by omega)
    show some _ = some _
    rw [z, z2]

theorem fx8 (f : SH) (hS : ShS f) (hc : shCost f < 60000) (hg : f.sgroup ≠ 0 ∨ f.sdata = []) : foldX (one (f.sip = true) 41 (en 2 f.sid)) { vers := f.vers, random := f.random, session := f.session, cipher := f.cipher, comp := f.comp, ocsp := f.ocsp, ticket := f.ticket, srs := f.srs, sr := f.sr, ems := f.ems, alpn := f.alpn, scts := f.scts, sver := f.sver, sgroup := f.sgroup, sdata := f.sdata } = some { vers := f.vers, random := f.random, session := f.session, cipher := f.cipher, comp := f.comp, ocsp := f.ocsp, ticket := f.ticket, srs := f.srs, sr := f.sr, ems := f.ems, alpn := f.alpn, scts := f.scts, sver := f.sver, sgroup := f.sgroup, sdata := f.sdata, sip := f.sip, sid := f.sid } := by
  unfold one
  by_cases h : f.sip = true
  · rw [if_pos h]
    have h1 : rd 2 (en 2 f.sid) = some (en 2 f.sid, []) := by simpa using rd_en (k := 2) (n := f.sid) (r := [])
    have h2 : be (en 2 f.sid) = f.sid := by rw [be_en]; exact Nat.mod_eq_of_lt (by have := hS.sid; omega)
    show ((shExt _ 41 (en 2 f.sid)).bind fun y => if y.2 = [] then some y.1 else none) = _
    unfold shExt
    simp only [Nat.reduceEqDiff, if_false, if_true, Option.bind_some, h1, Option.map_some, h2, h]
  · rw [if_neg h]
    have z : f.sip = false := by simpa using h
    have z2 : f.sid = 0 := hS.nosid (by simpa using h)
    show some _ = some _
    rw [z, z2]

theorem fx9 (f : SH) (hS : ShS f) (hc : shCost f < 60000) (hg : f.sgroup ≠ 0 ∨ f.sdata = []) : foldX (one (0 < f.cookie.length) 44 (en 2 f.cookie.length ++ f.cookie)) { vers := f.vers, random := f.random, session := f.session, cipher := f.cipher, comp := f.comp, ocsp := f.ocsp, ticket := f.ticket, srs := f.srs, sr := f.sr, ems := f.ems, alpn := f.alpn, scts := f.scts, sver := f.sver, sgroup := f.sgroup, sdata := f.sdata, sip := f.sip, sid := f.sid } = some { vers := f.vers, random := f.random, session := f.session, cipher := f.cipher, comp := f.comp, ocsp := f.ocsp, ticket := f.ticket, srs := f.srs, sr := f.sr, ems := f.ems, alpn := f.alpn, scts := f.scts, sver := f.sver, sgroup := f.sgroup, sdata := f.sdata, sip := f.sip, sid := f.sid, cookie := f.cookie } := by
  unfold one
  by_cases h : 0 < f.cookie.length
  · rw [if_pos h]
    have h2 : rdv 2 (en 2 f.cookie.length ++ f.cookie) = some (f.cookie, []) := by
      have := rdv_append (k := 2) (x := f.cookie) (r := []) (by have hc5 := hc; unfold shCost pz9 at hc5; rw [if_pos h] at hc5; omega)
      simpa using this
    have h3 : f.cookie ≠ [] := fun e => by rw [e] at h; simp at h
    show ((shExt _ 44 (en 2 f.cookie.length ++ f.cookie)).bind fun y => if y.2 = [] then some y.1 else none) = _
    unfold shExt
    simp only [Nat.reduceEqDiff, if_false, if_true, Option.bind_some, h2, Option.bind_some, h3, if_false]
  · rw [if_neg h]
    have z : f.cookie = [] := List.length_eq_zero_iff.1 (by omega)
    show some _ = some _
    rw [z]

theorem fx10 (f : SH) (hS : ShS f) (hc : shCost f < 60000) (hg : f.sgroup ≠ 0 ∨ f.sdata = []) : foldX (one (f.selg ≠ 0) 51 (en 2 f.selg)) { vers := f.vers, random := f.random, session := f.session, cipher := f.cipher, comp := f.comp, ocsp := f.ocsp, ticket := f.ticket, srs := f.srs, sr := f.sr, ems := f.ems, alpn := f.alpn, scts := f.scts, sver := f.sver, sgroup := f.sgroup, sdata := f.sdata, sip := f.sip, sid := f.sid, cookie := f.cookie } = some { vers := f.vers, random := f.random, session := f.session, cipher := f.cipher, comp := f.comp, ocsp := f.ocsp, ticket := f.ticket, srs := f.srs, sr := f.sr, ems := f.ems, alpn := f.alpn, scts := f.scts, sver := f.sver, sgroup := f.sgroup, sdata := f.sdata, sip := f.sip, sid := f.sid, cookie := f.cookie, selg := f.selg } := by
  unfold one
  by_cases h : f.selg ≠ 0
  · rw [if_pos h]
    have h1 : rd 2 (en 2 f.selg) = some (en 2 f.selg, []) := by simpa using rd_en (k := 2) (n := f.selg) (r := [])
    have h2 : be (en 2 f.selg) = f.selg := by rw [be_en]; exact Nat.mod_eq_of_lt (by have := hS.selg; omega)
    have h4 : (en 2 f.selg).length = 2 := en_length 2 _
    show ((shExt _ 51 (en 2 f.selg)).bind fun y => if y.2 = [] then some y.1 else none) = _
    unfold shExt
    simp only [Nat.reduceEqDiff, if_false, if_true, Option.bind_some, h4, if_true, h1, Option.map_some, h2]
  · rw [if_neg h]
    have z : f.selg = 0 := by omega
    show some _ = some _
    rw [z]

theorem fx11 (f : SH) (hS : ShS f) (hc : shCost f < 60000) (hg : f.sgroup ≠ 0 ∨ f.sdata = []) : foldX (one (0 < f.pts.length) 11 (en 1 f.pts.length ++ f.pts)) { vers := f.vers, random := f.random, session := f.session, cipher := f.cipher, comp := f.comp, ocsp := f.ocsp, ticket := f.ticket, srs := f.srs, sr := f.sr, ems := f.ems, alpn := f.alpn, scts := f.scts, sver := f.sver, sgroup := f.sgroup, sdata := f.sdata, sip := f.sip, sid := f.sid, cookie := f.cookie, selg := f.selg } = some { vers := f.vers, random := f.random, session := f.session, cipher := f.cipher, comp := f.comp, ocsp := f.ocsp, ticket := f.ticket, srs := f.srs, sr := f.sr, ems := f.ems, alpn := f.alpn, scts := f.scts, sver := f.sver, sgroup := f.sgroup, sdata := f.sdata, sip := f.sip, sid := f.sid, pts := f.pts, cookie := f.cookie, selg := f.selg } := by
  unfold one
  by_cases h : 0 < f.pts.length
  · rw [if_pos h]
    have h1 : rdv 1 (en 1 f.pts.length ++ f.pts) = some (f.pts, []) := by
      have := rdv_append (k := 1) (x := f.pts) (r := []) (by have := hS.pts; omega)
      simpa using this
    have h3 : f.pts ≠ [] := fun e => by rw [e] at h; simp at h
    show ((shExt _ 11 (en 1 f.pts.length ++ f.pts)).bind fun y => if y.2 = [] then some y.1 else none) = _
    unfold shExt
    simp only [Nat.reduceEqDiff, if_false, if_true, Option.bind_some, h1, Option.bind_some, h3, if_false]
  · rw [if_neg h]
    have z : f.pts = [] := List.length_eq_zero_iff.1 (by omega)
    show some _ = some _
    rw [z]

theorem fx12 (f : SH) (hS : ShS f) (hc : shCost f < 60000) (hg : f.sgroup ≠ 0 ∨ f.sdata = []) : foldX (one (0 < f.ech.length) 65037 (f.ech)) { vers := f.vers, random := f.random, session := f.session, cipher := f.cipher, comp := f.comp, ocsp := f.ocsp, ticket := f.ticket, srs := f.srs, sr := f.sr, ems := f.ems, alpn := f.alpn, scts := f.scts, sver := f.sver, sgroup := f.sgroup, sdata := f.sdata, sip := f.sip, sid := f.sid, pts := f.pts, cookie := f.cookie, selg := f.selg } = some { vers := f.vers, random := f.random, session := f.session, cipher := f.cipher, comp := f.comp, ocsp := f.ocsp, ticket := f.ticket, srs := f.srs, sr := f.sr, ems := f.ems, alpn := f.alpn, scts := f.scts, sver := f.sver, sgroup := f.sgroup, sdata := f.sdata, sip := f.sip, sid := f.sid, pts := f.pts, ech := f.ech, cookie := f.cookie, selg := f.selg } := by
  unfold one
  by_cases h : 0 < f.ech.length
  · rw [if_pos h]
    show ((shExt _ 65037 (f.ech)).bind fun y => if y.2 = [] then some y.1 else none) = _
    unfold shExt
    simp only [Nat.reduceEqDiff, if_false, if_true, Option.bind_some]
  · rw [if_neg h]
    have z : f.ech = [] := List.length_eq_zero_iff.1 (by omega)
    show some _ = some _
    rw [z]

theorem fx13 (f : SH) (hS : ShS f) (hc : shCost f < 60000) (hg : f.sgroup ≠ 0 ∨ f.sdata = []) : foldX (one (f.sna = true) 0 (([] : List UInt8))) { vers := f.vers, random := f.random, session := f.session, cipher := f.cipher, comp := f.comp, ocsp := f.ocsp, ticket := f.ticket, srs := f.srs, sr := f.sr, ems := f.ems, alpn := f.alpn, scts := f.scts, sver := f.sver, sgroup := f.sgroup, sdata := f.sdata, sip := f.sip, sid := f.sid, pts := f.pts, ech := f.ech, cookie := f.cookie, selg := f.selg } = some { vers := f.vers, random := f.random, session := f.session, cipher := f.cipher, comp := f.comp, ocsp := f.ocsp, ticket := f.ticket, srs := f.srs, sr := f.sr, ems := f.ems, alpn := f.alpn, scts := f.scts, sver := f.sver, sgroup := f.sgroup, sdata := f.sdata, sip := f.sip, sid := f.sid, pts := f.pts, ech := f.ech, sna := f.sna, cookie := f.cookie, selg := f.selg } := by
  unfold one
  by_cases h : f.sna = true
  · rw [if_pos h]
    show ((shExt _ 0 (([] : List UInt8))).bind fun y => if y.2 = [] then some y.1 else none) = _
    unfold shExt
    simp only [Nat.reduceEqDiff, if_false, if_true, Option.bind_some, if_true]
    exact sna_eta f true h.symm
  · rw [if_neg h]
    have z : f.sna = false := by simpa using h
    show some _ = some _
    exact sna_eta f false z.symm

theorem shX_fold (f : SH) (hS : ShS f) (hc : shCost f < 60000) (hg : f.sgroup ≠ 0 ∨ f.sdata = []) : foldX (shX f) { vers := f.vers, random := f.random, session := f.session, cipher := f.cipher, comp := f.comp } = some f := by
  unfold shX
  simp only [foldX_append]
  rw [fx0 f hS hc hg, Option.bind_some]
  rw [fx1 f hS hc hg, Option.bind_some]
  rw [fx2 f hS hc hg, Option.bind_some]
  rw [fx3 f hS hc hg, Option.bind_some]
  rw [fx4 f hS hc hg, Option.bind_some]
  rw [fx5 f hS hc hg, Option.bind_some]
  rw [fx6 f hS hc hg, Option.bind_some]
  rw [fx7 f hS hc hg, Option.bind_some]
  rw [fx8 f hS hc hg, Option.bind_some]
  rw [fx9 f hS hc hg, Option.bind_some]
  rw [fx10 f hS hc hg, Option.bind_some]
  rw [fx11 f hS hc hg, Option.bind_some]
  rw [fx12 f hS hc hg, Option.bind_some]
  rw [fx13 f hS hc hg]

theorem one_sub {b : Prop} [Decidable b] {ty : Nat} {d : List UInt8} : ((one b ty d).map (·.1)).Sublist [ty] := by
  unfold one
  by_cases h : b
  · rw [if_pos h]; simp
  · rw [if_neg h]; simp
theorem one_nil {b : Prop} [Decidable b] {ty : Nat} {d : List UInt8} (h : ¬ b) : ((one b ty d).map (·.1)).Sublist [] := by
  unfold one
  rw [if_neg h]; simp

theorem shX_nodup (f : SH) (hS : ShS f) (hg : f.sgroup ≠ 0 ∨ f.sdata = []) : ((shX f).map (·.1)).Nodup := by
  unfold shX
  simp only [List.map_append]
  by_cases h : f.sgroup = 0
  · refine List.Sublist.nodup (l₂ := ([5] ++ [35] ++ [65281] ++ [23] ++ [16] ++ [18] ++ [43] ++ [] ++ [41] ++ [44] ++ [51] ++ [11] ++ [65037] ++ [0] : List Nat)) ?_ (by decide)
    exact ((((((((((((one_sub.append one_sub).append one_sub).append one_sub).append one_sub).append one_sub).append one_sub).append (one_nil (b := f.sgroup ≠ 0) (fun e => e h))).append one_sub).append one_sub).append one_sub).append one_sub).append one_sub).append one_sub
  · have hz : f.selg = 0 := by rcases hS.excl with ⟨e, _⟩ | e; exact absurd e h; exact e
    refine List.Sublist.nodup (l₂ := ([5] ++ [35] ++ [65281] ++ [23] ++ [16] ++ [18] ++ [43] ++ [51] ++ [41] ++ [44] ++ [] ++ [11] ++ [65037] ++ [0] : List Nat)) ?_ (by decide)
    exact ((((((((((((one_sub.append one_sub).append one_sub).append one_sub).append one_sub).append one_sub).append one_sub).append one_sub).append one_sub).append one_sub).append (one_nil (b := f.selg ≠ 0) (fun e => e hz))).append one_sub).append one_sub).append one_sub

theorem one_mem {b : Prop} [Decidable b] {ty : Nat} {d : List UInt8} {e : Nat × List UInt8} (h : e ∈ one b ty d) : e = (ty, d) ∧ b := by
  unfold one at h
  by_cases hb : b
  · rw [if_pos hb] at h; simp at h; exact ⟨h, hb⟩
  · rw [if_neg hb] at h; cases h

theorem encX_mem : ∀ {L : List (Nat × List UInt8)} {e : Nat × List UInt8}, e ∈ L → 4 + e.2.length ≤ (encX L).length
  | x :: L, e, h => by
    have e0 : encX (x :: L) = en 2 x.1 ++ en 2 x.2.length ++ x.2 ++ encX L := by simp [encX]
    rw [e0]
    rcases List.mem_cons.1 h with rfl | h
    · simp [en_length]; omega
    · have := encX_mem h
      simp [en_length]; omega

theorem encX_many : ∀ (L : List (Nat × List UInt8)), L.length ≤ (encX L).length
  | [] => by simp
  | x :: L => by
    have := encX_many L
    have e0 : encX (x :: L) = en 2 x.1 ++ en 2 x.2.length ++ x.2 ++ encX L := by simp [encX]
    rw [e0]
    simp [en_length]; omega

theorem shX_types (f : SH) : ∀ e ∈ shX f, e.1 < 65536 := by
  intro e he
  unfold shX at he
  simp only [List.mem_append] at he
  rcases he with ((((((((((((h | h) | h) | h) | h) | h) | h) | h) | h) | h) | h) | h) | h) | h <;> (rw [(one_mem h).1]; simp)

theorem shExt_head {f f' : SH} {ty : Nat} {d r : List UInt8} (h : shExt f ty d = some (f', r)) : f'.session = f.session := by
  have som : ∀ {p : SH × List UInt8}, some p = some (f', r) → p.1.session = f.session → f'.session = f.session := fun e1 e2 => by cases e1; exact e2
  have mp : ∀ {α : Type} {x : Option α} {k : α → SH × List UInt8}, x.map k = some (f', r) → (∀ y, (k y).1.session = f.session) → f'.session = f.session := fun e1 e2 => by
    obtain ⟨y, _, e3⟩ := Option.map_eq_some_iff.1 e1
    have := e2 y
    rw [e3] at this
    exact this
  have bnd : ∀ {α : Type} {x : Option α} {k : α → Option (SH × List UInt8)}, x.bind k = some (f', r) → (∀ y, k y = some (f', r) → f'.session = f.session) → f'.session = f.session := fun e1 e2 => by
    obtain ⟨y, _, e3⟩ := Option.bind_eq_some_iff.1 e1
    exact e2 y e3
  have it : ∀ {c : Prop} [Decidable c] {a b : Option (SH × List UInt8)}, (if c then a else b) = some (f', r) → (a = some (f', r) → f'.session = f.session) → (b = some (f', r) → f'.session = f.session) → f'.session = f.session := fun {c} _ {a b} e1 e2 e3 => by
    by_cases hc : c
    · rw [if_pos hc] at e1; exact e2 e1
    · rw [if_neg hc] at e1; exact e3 e1
  unfold shExt at h
  refine it h (fun h => som h rfl) fun h => ?_
  refine it h (fun h => som h rfl) fun h => ?_
  refine it h (fun h => mp h fun _ => rfl) fun h => ?_
  refine it h (fun h => som h rfl) fun h => ?_
  refine it h (fun h => bnd h fun l h => it h (fun h => by cases h) fun h => bnd h fun x h => it h (fun h => by cases h) fun h => som h rfl) fun h => ?_
  refine it h (fun h => bnd h fun l h => it h (fun h => by cases h) fun h => mp h fun _ => rfl) fun h => ?_
  refine it h (fun h => mp h fun _ => rfl) fun h => ?_
  refine it h (fun h => bnd h fun l h => it h (fun h => by cases h) fun h => som h rfl) fun h => ?_
  refine it h (fun h => it h (fun h => mp h fun _ => rfl) fun h => bnd h fun l h => mp h fun _ => rfl) fun h => ?_
  refine it h (fun h => mp h fun _ => rfl) fun h => ?_
  refine it h (fun h => bnd h fun l h => it h (fun h => by cases h) fun h => som h rfl) fun h => ?_
  refine it h (fun h => som h rfl) fun h => ?_
  refine it h (fun h => it h (fun h => som h rfl) fun h => by cases h) fun h => som h rfl

theorem shExts_head : ∀ {n : Nat} {seen : List Nat} {f f' : SH} {s : List UInt8}, shExts n seen f s = some f' → f'.session = f.session
  | 0, seen, f, f', s, h => by
    unfold shExts at h
    by_cases hs : s = []
    · rw [if_pos hs] at h; cases h; rfl
    · rw [if_neg hs] at h; cases h
  | n + 1, seen, f, f', s, h => by
    unfold shExts at h
    by_cases hs : s = []
    · rw [if_pos hs] at h; cases h; rfl
    · rw [if_neg hs] at h
      obtain ⟨⟨t, r1⟩, h1, h2⟩ := Option.bind_eq_some_iff.1 h
      obtain ⟨⟨d, r2⟩, h3, h4⟩ := Option.bind_eq_some_iff.1 h2
      simp only at h4
      by_cases hin : be t ∈ seen
      · rw [if_pos hin] at h4; cases h4
      · rw [if_neg hin] at h4
        obtain ⟨⟨f1, r3⟩, h5, h6⟩ := Option.bind_eq_some_iff.1 h4
        by_cases hr : r3 = []
        · rw [if_pos hr] at h6
          exact (shExts_head h6).trans (shExt_head h5)
        · rw [if_neg hr] at h6; cases h6

/-- What was read is right, and no longer than it was. -/
theorem shRead_ok {bs : List UInt8} {f : SH} (h : shRead bs = some f) : ShS f ∧ shCost f + 42 + f.session.length ≤ bs.length := by
  unfold shRead at h
  obtain ⟨⟨f0, r6⟩, h0, h1⟩ := Option.bind_eq_some_iff.1 h
  unfold shHead at h0
  obtain ⟨⟨a1, r1⟩, g1, h0⟩ := Option.bind_eq_some_iff.1 h0
  obtain ⟨⟨a2, r2⟩, g2, h0⟩ := Option.bind_eq_some_iff.1 h0
  obtain ⟨⟨a3, r3⟩, g3, h0⟩ := Option.bind_eq_some_iff.1 h0
  obtain ⟨⟨a4, r4⟩, g4, h0⟩ := Option.bind_eq_some_iff.1 h0
  obtain ⟨⟨a5, r5⟩, g5, h0⟩ := Option.bind_eq_some_iff.1 h0
  obtain ⟨⟨a6, r6'⟩, g6, h0⟩ := Option.map_eq_some_iff.1 h0
  cases h0
  simp only at g1 g2 g3 g4 g5 g6 h1
  have l1 := rd_len g1
  have l2 := rd_len g2
  have l3 := rd_len g3
  have l4 := rdv_len g4
  have l5 := rd_len g5
  have l6 := rd_len g6
  have hs4 := (rdv_some g4).2
  have hS0 : ShS { vers := be a2, random := a3, session := a4, cipher := be a5, comp := be a6 } := ⟨be2_lt g2, (rd_some g3).2, hs4, be2_lt g5, be1_lt g6, by simp, by simp, (fun x hx => by cases hx), by simp, by simp, by simp, by simp, by simp, fun _ => rfl, fun _ => rfl, .inr rfl⟩
  have hc0 : shCost { vers := be a2, random := a3, session := a4, cipher := be a5, comp := be a6 } = 0 := rfl
  by_cases hr : r6' = []
  · rw [if_pos hr] at h1
    cases h1
    exact ⟨hS0, by rw [hc0]; simp only; omega⟩
  · rw [if_neg hr] at h1
    obtain ⟨⟨x, r7⟩, h2, h3⟩ := Option.bind_eq_some_iff.1 h1
    by_cases hr7 : r7 = []
    · rw [if_pos hr7] at h3
      simp only at h3
      have l7 := rdv_len h2
      obtain ⟨k1, k2⟩ := shExts_ok h3 hS0 (fun _ => ⟨rfl, rfl, rfl⟩)
      refine ⟨k1, ?_⟩
      have hse : f.session = a4 := shExts_head h3
      rw [hse]
      omega
    · rw [if_neg hr7] at h3; cases h3

theorem shFit_of {f : SH} (hS : ShS f) (hc : shCost f < 60000) (hg : f.sgroup ≠ 0 ∨ f.sdata = []) : ShFit f := by
  have hm := vecs_many (k := 2) (by omega) f.scts
  have hv : (vecs 2 f.scts).length < 65534 := by
    by_cases h : 0 < f.scts.length
    · have hc5 := hc; unfold shCost pz5 at hc5; rw [if_pos h] at hc5; omega
    · have z : f.scts = [] := List.length_eq_zero_iff.1 (by omega)
      rw [z]; decide
  have hd : f.sdata.length < 65532 := by
    by_cases h : f.sgroup ≠ 0
    · have hc5 := hc; unfold shCost pz7 at hc5; rw [if_pos h] at hc5; omega
    · rw [hg.resolve_left h]; decide
  have he : f.ech.length < 65536 := by
    by_cases h : 0 < f.ech.length
    · have hc5 := hc; unfold shCost pz12 at hc5; rw [if_pos h] at hc5; omega
    · omega
  have hk : f.cookie.length < 65534 := by
    by_cases h : 0 < f.cookie.length
    · have hc5 := hc; unfold shCost pz9 at hc5; rw [if_pos h] at hc5; omega
    · omega
  exact ⟨hS.vers, hS.random, hS.session, hS.cipher, hS.comp, hS.sr, hS.alpn, fun x hx => (hS.scts x hx).2, by omega, hv, hS.sver, hS.sgroup, hd, hS.sid, hS.pts, he, hk, hS.selg⟩

theorem sh_again {bs : List UInt8} {f : SH} (h : shRead bs = some f) (hl : bs.length ≤ 60000) (hg : f.sgroup ≠ 0 ∨ f.sdata = []) :
    shRead (wSH f) = some f ∧ ShFit f ∧ (encX (shX f)).length < 65536 ∧ (wSH f).length ≤ 120000 := by
  obtain ⟨hS, hb⟩ := shRead_ok h
  have hc : shCost f < 60000 := by omega
  have hF := shFit_of hS hc hg
  have hle := shCost_len f
  refine ⟨?_, hF, by omega, ?_⟩
  · obtain ⟨Y, hY⟩ : ∃ Y, Y = encX (shX f) := ⟨_, rfl⟩
    have e1 : wSH f = (en 1 2 ++ en 3 (shBodyB f).length) ++ (en 2 f.vers ++ (f.random ++ (en 1 f.session.length ++ f.session ++ (en 2 f.cipher ++ (en 1 f.comp ++ (if Y = [] then [] else en 2 Y.length ++ Y)))))) := by
      unfold wSH
      have : shBodyB f = en 2 f.vers ++ (f.random ++ (en 1 f.session.length ++ f.session ++ (en 2 f.cipher ++ (en 1 f.comp ++ (if Y = [] then [] else en 2 Y.length ++ Y))))) := by
        unfold shBodyB; rw [← hY]; simp only [List.append_assoc]
      rw [← this]
    have h4 : rd 4 (wSH f) = some (en 1 2 ++ en 3 (shBodyB f).length, en 2 f.vers ++ (f.random ++ (en 1 f.session.length ++ f.session ++ (en 2 f.cipher ++ (en 1 f.comp ++ (if Y = [] then [] else en 2 Y.length ++ Y)))))) := by
      have h := rd_append (en 1 2 ++ en 3 (shBodyB f).length) (en 2 f.vers ++ (f.random ++ (en 1 f.session.length ++ f.session ++ (en 2 f.cipher ++ (en 1 f.comp ++ (if Y = [] then [] else en 2 Y.length ++ Y))))))
      rw [← e1] at h
      have hl4 : (en 1 2 ++ en 3 (shBodyB f).length).length = 4 := by simp [en_length]
      rwa [hl4] at h
    have h32 : ∀ r, rd 32 (f.random ++ r) = some (f.random, r) := fun r => by
      have h := rd_append f.random r
      rwa [hS.random] at h
    have b1 : be (en 2 f.vers) = f.vers := by rw [be_en]; exact Nat.mod_eq_of_lt (by have := hS.vers; omega)
    have b2 : be (en 2 f.cipher) = f.cipher := by rw [be_en]; exact Nat.mod_eq_of_lt (by have := hS.cipher; omega)
    have b3 : be (en 1 f.comp) = f.comp := by rw [be_en]; exact Nat.mod_eq_of_lt (by have := hS.comp; omega)
    have hh : shHead (wSH f) = some ({ vers := f.vers, random := f.random, session := f.session, cipher := f.cipher, comp := f.comp }, if Y = [] then [] else en 2 Y.length ++ Y) := by
      unfold shHead
      rw [h4, Option.bind_some]
      simp only
      rw [rd_en, Option.bind_some]
      simp only
      rw [h32, Option.bind_some]
      simp only
      rw [rdv_append (k := 1) (by have := hS.session; omega), Option.bind_some]
      simp only
      rw [rd_en, Option.bind_some]
      simp only
      rw [rd_en, Option.map_some]
      simp only [b1, b2, b3]
    unfold shRead
    rw [hh, Option.bind_some]
    simp only
    have hfold := shX_fold f hS hc hg
    by_cases hy : Y = []
    · rw [if_pos hy, if_pos rfl]
      have hz : shX f = [] := by
        have := encX_many (shX f)
        rw [← hY, hy] at this
        exact List.length_eq_zero_iff.1 (by simpa using this)
      rw [hz] at hfold
      exact hfold
    · rw [if_neg hy, if_neg (by simp [en])]
      have hr := rdv_append (k := 2) (x := Y) (r := []) (by rw [hY]; omega)
      rw [List.append_nil] at hr
      rw [hr, Option.bind_some]
      simp only
      rw [if_pos trivial, hY, shExts_enc (shX f) _ [] _ (fun e he => ⟨shX_types f e he, by have := encX_mem he; omega⟩) (shX_nodup f hS hg) (fun e _ => by simp) (encX_many _)]
      exact hfold
  · have hrl := hF.random
    have hsl := hF.session
    have hxo : (if encX (shX f) = [] then [] else en 2 (encX (shX f)).length ++ encX (shX f)).length ≤ 2 + (encX (shX f)).length := by
      by_cases h : encX (shX f) = []
      · rw [if_pos h]; simp
      · rw [if_neg h]; simp [en_length]
    unfold wSH shBodyB
    simp only [List.length_append, en_length]
    omega

end Go.Proofs.Ytopcljikkdlffaa
