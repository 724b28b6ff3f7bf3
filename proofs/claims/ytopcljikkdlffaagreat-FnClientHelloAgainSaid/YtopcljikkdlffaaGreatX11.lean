/- What package tls makes of the fields of a ClientHello; what is right of fields that were read, and what they cost. No program and no memory stand here. No statement of the seat is proved here. -/
import Derived.Test.YtopcljikkdlffaaGreatX10
namespace Go.Proofs.YtopcljikkdlffaaGreat

/-- Extensions, one behind the other. -/
def encE (L : List (Nat × List UInt8)) : List UInt8 := L.flatMap fun e => en 2 e.1 ++ en 2 e.2.length ++ e.2

theorem encE_append (L R : List (Nat × List UInt8)) : encE (L ++ R) = encE L ++ encE R := by simp [encE]

def onE (b : Prop) [Decidable b] (ty : Nat) (d : List UInt8) : List (Nat × List UInt8) := if b then [(ty, d)] else []

/-- Key shares, one behind the other. -/
def wshr (L : List (Nat × List UInt8)) : List UInt8 := L.flatMap fun x => en 2 x.1 ++ en 2 x.2.length ++ x.2
theorem wshr_snoc {L : List (Nat × List UInt8)} {x : Nat × List UInt8} : wshr (L ++ [x]) = wshr L ++ en 2 x.1 ++ en 2 x.2.length ++ x.2 := by simp [wshr]
theorem wshr_append (L M : List (Nat × List UInt8)) : wshr (L ++ M) = wshr L ++ wshr M := by simp [wshr]
theorem widn_append (L M : List (List UInt8 × Nat)) : widn (L ++ M) = widn L ++ widn M := by simp [widn]
theorem wshr_many : ∀ L : List (Nat × List UInt8), L.length ≤ (wshr L).length
  | [] => by simp
  | x :: L => by
    have := wshr_many L
    have e0 : wshr (x :: L) = en 2 x.1 ++ en 2 x.2.length ++ x.2 ++ wshr L := by simp [wshr]
    rw [e0]
    simp only [List.length_append, List.length_cons, en_length]; omega

/-- The extensions of a ClientHello, in the order in which they are made. -/
def chX (f : CH) : List (Nat × List UInt8) := onE (0 < f.name.length) 0 (en 2 (en 1 0 ++ en 2 f.name.length ++ f.name).length ++ (en 1 0 ++ en 2 f.name.length ++ f.name)) ++ onE (0 < f.points.length) 11 (en 1 f.points.length ++ f.points) ++ onE (f.ticket = true) 35 (f.tickets) ++ onE (f.srs = true) 65281 (en 1 f.sr.length ++ f.sr) ++ onE (f.ems = true) 23 (([] : List UInt8)) ++ onE (f.scts = true) 18 (([] : List UInt8)) ++ onE (f.early = true) 42 (([] : List UInt8)) ++ onE (f.quic.isSome = true) 57 (f.quic.getD []) ++ onE (0 < f.ech.length) 65037 (f.ech) ++ onE (f.ocsp = true) 5 (en 1 1 ++ en 2 0 ++ en 2 0) ++ onE (0 < f.curves.length) 10 (en 2 (wnums 2 f.curves).length ++ (wnums 2 f.curves)) ++ onE (0 < f.sigs.length) 13 (en 2 (wnums 2 f.sigs).length ++ (wnums 2 f.sigs)) ++ onE (0 < f.sigsC.length) 50 (en 2 (wnums 2 f.sigsC).length ++ (wnums 2 f.sigsC)) ++ onE (0 < f.alpn.length) 16 (en 2 (vecs 1 f.alpn).length ++ (vecs 1 f.alpn)) ++ onE (0 < f.vers13.length) 43 (en 1 (wnums 2 f.vers13).length ++ (wnums 2 f.vers13)) ++ onE (0 < f.cookie.length) 44 (en 2 f.cookie.length ++ f.cookie) ++ onE (0 < f.shares.length) 51 (en 2 (wshr f.shares).length ++ (wshr f.shares)) ++ onE (0 < f.modes.length) 45 (en 1 f.modes.length ++ f.modes) ++ onE (0 < f.psks.length) 41 (en 2 (widn f.psks).length ++ (widn f.psks) ++ (en 2 (vecs 1 f.binders).length ++ (vecs 1 f.binders)))

/-- The body of a ClientHello that is made. -/
def chBodyB (f : CH) : List UInt8 := en 2 f.vers ++ f.random ++ (en 1 f.session.length ++ f.session) ++ (en 2 (wnums 2 f.suites).length ++ wnums 2 f.suites) ++ (en 1 f.comps.length ++ f.comps) ++ (if encE (chX f) = [] then [] else en 2 (encE (chX f)).length ++ encE (chX f))

/-- A ClientHello that is made. -/
def wCH (f : CH) : List UInt8 := en 1 1 ++ en 3 (chBodyB f).length ++ chBodyB f

def pc0 (f : CH) : Nat := if 0 < f.name.length then 9 + f.name.length else 0
def pc1 (f : CH) : Nat := if 0 < f.points.length then 5 + f.points.length else 0
def pc2 (f : CH) : Nat := if f.ticket = true then 4 + f.tickets.length else 0
def pc3 (f : CH) : Nat := if f.srs = true then 5 + f.sr.length else 0
def pc4 (f : CH) : Nat := if f.ems = true then 4 else 0
def pc5 (f : CH) : Nat := if f.scts = true then 4 else 0
def pc6 (f : CH) : Nat := if f.early = true then 4 else 0
def pc7 (f : CH) : Nat := if f.quic.isSome = true then 4 + (f.quic.getD []).length else 0
def pc8 (f : CH) : Nat := if 0 < f.ech.length then 4 + f.ech.length else 0
def pc9 (f : CH) : Nat := if f.ocsp = true then 9 else 0
def pc10 (f : CH) : Nat := if 0 < f.curves.length then 6 + 2 * f.curves.length else 0
def pc11 (f : CH) : Nat := if 0 < f.sigs.length then 6 + 2 * f.sigs.length else 0
def pc12 (f : CH) : Nat := if 0 < f.sigsC.length then 6 + 2 * f.sigsC.length else 0
def pc13 (f : CH) : Nat := if 0 < f.alpn.length then 6 + (vecs 1 f.alpn).length else 0
def pc14 (f : CH) : Nat := if 0 < f.vers13.length then 5 + 2 * f.vers13.length else 0
def pc15 (f : CH) : Nat := if 0 < f.cookie.length then 6 + f.cookie.length else 0
def pc16 (f : CH) : Nat := if 0 < f.shares.length then 6 + (wshr f.shares).length else 0
def pc17 (f : CH) : Nat := if 0 < f.modes.length then 5 + f.modes.length else 0
def pc18 (f : CH) : Nat := if 0 < f.psks.length then 8 + (widn f.psks).length + (vecs 1 f.binders).length else 0
/-- What the extensions cost when they are made. -/
def chCost (f : CH) : Nat := pc0 f + pc1 f + pc2 f + pc3 f + pc4 f + pc5 f + pc6 f + pc7 f + pc8 f + pc9 f + pc10 f + pc11 f + pc12 f + pc13 f + pc14 f + pc15 f + pc16 f + pc17 f + pc18 f

theorem pcl0 (f : CH) : (encE (onE (0 < f.name.length) 0 (en 2 (en 1 0 ++ en 2 f.name.length ++ f.name).length ++ (en 1 0 ++ en 2 f.name.length ++ f.name)))).length = pc0 f := by
  unfold onE pc0
  by_cases h : 0 < f.name.length
  · rw [if_pos h, if_pos h]; simp only [encE, List.flatMap_cons, List.flatMap_nil, List.length_append, en_length, List.length_nil, wnums_len]; try omega
  · rw [if_neg h, if_neg h]; rfl

theorem pcl1 (f : CH) : (encE (onE (0 < f.points.length) 11 (en 1 f.points.length ++ f.points))).length = pc1 f := by
  unfold onE pc1
  by_cases h : 0 < f.points.length
  · rw [if_pos h, if_pos h]; simp only [encE, List.flatMap_cons, List.flatMap_nil, List.length_append, en_length, List.length_nil, wnums_len]; try omega
  · rw [if_neg h, if_neg h]; rfl

theorem pcl2 (f : CH) : (encE (onE (f.ticket = true) 35 (f.tickets))).length = pc2 f := by
  unfold onE pc2
  by_cases h : f.ticket = true
  · rw [if_pos h, if_pos h]; simp only [encE, List.flatMap_cons, List.flatMap_nil, List.length_append, en_length, List.length_nil, wnums_len]; try omega
  · rw [if_neg h, if_neg h]; rfl

theorem pcl3 (f : CH) : (encE (onE (f.srs = true) 65281 (en 1 f.sr.length ++ f.sr))).length = pc3 f := by
  unfold onE pc3
  by_cases h : f.srs = true
  · rw [if_pos h, if_pos h]; simp only [encE, List.flatMap_cons, List.flatMap_nil, List.length_append, en_length, List.length_nil, wnums_len]; try omega
  · rw [if_neg h, if_neg h]; rfl

theorem pcl4 (f : CH) : (encE (onE (f.ems = true) 23 (([] : List UInt8)))).length = pc4 f := by
  unfold onE pc4
  by_cases h : f.ems = true
  · rw [if_pos h, if_pos h]; simp only [encE, List.flatMap_cons, List.flatMap_nil, List.length_append, en_length, List.length_nil, wnums_len]; try omega
  · rw [if_neg h, if_neg h]; rfl

theorem pcl5 (f : CH) : (encE (onE (f.scts = true) 18 (([] : List UInt8)))).length = pc5 f := by
  unfold onE pc5
  by_cases h : f.scts = true
  · rw [if_pos h, if_pos h]; simp only [encE, List.flatMap_cons, List.flatMap_nil, List.length_append, en_length, List.length_nil, wnums_len]; try omega
  · rw [if_neg h, if_neg h]; rfl

theorem pcl6 (f : CH) : (encE (onE (f.early = true) 42 (([] : List UInt8)))).length = pc6 f := by
  unfold onE pc6
  by_cases h : f.early = true
  · rw [if_pos h, if_pos h]; simp only [encE, List.flatMap_cons, List.flatMap_nil, List.length_append, en_length, List.length_nil, wnums_len]; try omega
  · rw [if_neg h, if_neg h]; rfl

theorem pcl7 (f : CH) : (encE (onE (f.quic.isSome = true) 57 (f.quic.getD []))).length = pc7 f := by
  unfold onE pc7
  by_cases h : f.quic.isSome = true
  · rw [if_pos h, if_pos h]; simp only [encE, List.flatMap_cons, List.flatMap_nil, List.length_append, en_length, List.length_nil, wnums_len]; try omega
  · rw [if_neg h, if_neg h]; rfl

theorem pcl8 (f : CH) : (encE (onE (0 < f.ech.length) 65037 (f.ech))).length = pc8 f := by
  unfold onE pc8
  by_cases h : 0 < f.ech.length
  · rw [if_pos h, if_pos h]; simp only [encE, List.flatMap_cons, List.flatMap_nil, List.length_append, en_length, List.length_nil, wnums_len]; try omega
  · rw [if_neg h, if_neg h]; rfl

theorem pcl9 (f : CH) : (encE (onE (f.ocsp = true) 5 (en 1 1 ++ en 2 0 ++ en 2 0))).length = pc9 f := by
  unfold onE pc9
  by_cases h : f.ocsp = true
  · rw [if_pos h, if_pos h]; simp only [encE, List.flatMap_cons, List.flatMap_nil, List.length_append, en_length, List.length_nil, wnums_len]; try omega
  · rw [if_neg h, if_neg h]; rfl

theorem pcl10 (f : CH) : (encE (onE (0 < f.curves.length) 10 (en 2 (wnums 2 f.curves).length ++ (wnums 2 f.curves)))).length = pc10 f := by
  unfold onE pc10
  by_cases h : 0 < f.curves.length
  · rw [if_pos h, if_pos h]; simp only [encE, List.flatMap_cons, List.flatMap_nil, List.length_append, en_length, List.length_nil, wnums_len]; try omega
  · rw [if_neg h, if_neg h]; rfl

theorem pcl11 (f : CH) : (encE (onE (0 < f.sigs.length) 13 (en 2 (wnums 2 f.sigs).length ++ (wnums 2 f.sigs)))).length = pc11 f := by
  unfold onE pc11
  by_cases h : 0 < f.sigs.length
  · rw [if_pos h, if_pos h]; simp only [encE, List.flatMap_cons, List.flatMap_nil, List.length_append, en_length, List.length_nil, wnums_len]; try omega
  · rw [if_neg h, if_neg h]; rfl

theorem pcl12 (f : CH) : (encE (onE (0 < f.sigsC.length) 50 (en 2 (wnums 2 f.sigsC).length ++ (wnums 2 f.sigsC)))).length = pc12 f := by
  unfold onE pc12
  by_cases h : 0 < f.sigsC.length
  · rw [if_pos h, if_pos h]; simp only [encE, List.flatMap_cons, List.flatMap_nil, List.length_append, en_length, List.length_nil, wnums_len]; try omega
  · rw [if_neg h, if_neg h]; rfl

theorem pcl13 (f : CH) : (encE (onE (0 < f.alpn.length) 16 (en 2 (vecs 1 f.alpn).length ++ (vecs 1 f.alpn)))).length = pc13 f := by
  unfold onE pc13
  by_cases h : 0 < f.alpn.length
  · rw [if_pos h, if_pos h]; simp only [encE, List.flatMap_cons, List.flatMap_nil, List.length_append, en_length, List.length_nil, wnums_len]; try omega
  · rw [if_neg h, if_neg h]; rfl

theorem pcl14 (f : CH) : (encE (onE (0 < f.vers13.length) 43 (en 1 (wnums 2 f.vers13).length ++ (wnums 2 f.vers13)))).length = pc14 f := by
  unfold onE pc14
  by_cases h : 0 < f.vers13.length
  · rw [if_pos h, if_pos h]; simp only [encE, List.flatMap_cons, List.flatMap_nil, List.length_append, en_length, List.length_nil, wnums_len]; try omega
  · rw [if_neg h, if_neg h]; rfl

theorem pcl15 (f : CH) : (encE (onE (0 < f.cookie.length) 44 (en 2 f.cookie.length ++ f.cookie))).length = pc15 f := by
  unfold onE pc15
  by_cases h : 0 < f.cookie.length
  · rw [if_pos h, if_pos h]; simp only [encE, List.flatMap_cons, List.flatMap_nil, List.length_append, en_length, List.length_nil, wnums_len]; try omega
  · rw [if_neg h, if_neg h]; rfl

theorem pcl16 (f : CH) : (encE (onE (0 < f.shares.length) 51 (en 2 (wshr f.shares).length ++ (wshr f.shares)))).length = pc16 f := by
  unfold onE pc16
  by_cases h : 0 < f.shares.length
  · rw [if_pos h, if_pos h]; simp only [encE, List.flatMap_cons, List.flatMap_nil, List.length_append, en_length, List.length_nil, wnums_len]; try omega
  · rw [if_neg h, if_neg h]; rfl

theorem pcl17 (f : CH) : (encE (onE (0 < f.modes.length) 45 (en 1 f.modes.length ++ f.modes))).length = pc17 f := by
  unfold onE pc17
  by_cases h : 0 < f.modes.length
  · rw [if_pos h, if_pos h]; simp only [encE, List.flatMap_cons, List.flatMap_nil, List.length_append, en_length, List.length_nil, wnums_len]; try omega
  · rw [if_neg h, if_neg h]; rfl

theorem pcl18 (f : CH) : (encE (onE (0 < f.psks.length) 41 (en 2 (widn f.psks).length ++ (widn f.psks) ++ (en 2 (vecs 1 f.binders).length ++ (vecs 1 f.binders))))).length = pc18 f := by
  unfold onE pc18
  by_cases h : 0 < f.psks.length
  · rw [if_pos h, if_pos h]; simp only [encE, List.flatMap_cons, List.flatMap_nil, List.length_append, en_length, List.length_nil, wnums_len]; try omega
  · rw [if_neg h, if_neg h]; rfl

theorem len19 (a0 a1 a2 a3 a4 a5 a6 a7 a8 a9 a10 a11 a12 a13 a14 a15 a16 a17 a18 : List UInt8) : (a0 ++ a1 ++ a2 ++ a3 ++ a4 ++ a5 ++ a6 ++ a7 ++ a8 ++ a9 ++ a10 ++ a11 ++ a12 ++ a13 ++ a14 ++ a15 ++ a16 ++ a17 ++ a18).length = a0.length + a1.length + a2.length + a3.length + a4.length + a5.length + a6.length + a7.length + a8.length + a9.length + a10.length + a11.length + a12.length + a13.length + a14.length + a15.length + a16.length + a17.length + a18.length := by
  simp only [List.length_append]

theorem chCost_len (f : CH) : (encE (chX f)).length = chCost f := by
  unfold chX chCost
  simp only [encE_append]
  rw [len19, pcl0, pcl1, pcl2, pcl3, pcl4, pcl5, pcl6, pcl7, pcl8, pcl9, pcl10, pcl11, pcl12, pcl13, pcl14, pcl15, pcl16, pcl17, pcl18]

/-- What is right of fields that were read. -/
structure ChR (f : CH) : Prop where
  vers : f.vers < 65536
  random : f.random.length = 32
  session : f.session.length < 256
  suites : ∀ x ∈ f.suites, x < 65536
  suitesn : 2 * f.suites.length < 65536
  scsv : 255 ∈ f.suites → f.srs = true
  comps : f.comps.length < 256
  name : f.name ≠ [] → f.name.getLast? ≠ some 46
  points : f.points.length < 256
  tick : f.ticket = false → f.tickets = []
  sr : f.sr.length < 256
  nosr : f.srs = false → f.sr = []
  curves : ∀ x ∈ f.curves, x < 65536
  sigs : ∀ x ∈ f.sigs, x < 65536
  sigsC : ∀ x ∈ f.sigsC, x < 65536
  alpn : ∀ x ∈ f.alpn, x ≠ [] ∧ x.length < 256 ^ 1
  vers13 : ∀ x ∈ f.vers13, x < 65536
  vers13n : 2 * f.vers13.length < 256
  shares : ∀ x ∈ f.shares, x.1 < 65536 ∧ x.2 ≠ [] ∧ x.2.length < 65536
  modes : f.modes.length < 256
  psks : ∀ x ∈ f.psks, x.1 ≠ [] ∧ x.1.length < 65536 ∧ x.2 < 4294967296
  binders : ∀ x ∈ f.binders, x ≠ [] ∧ x.length < 256 ^ 1
  pskb : f.psks = [] ↔ f.binders = []

theorem rdvC_len {k : Nat} {s x r : List UInt8} (h : rdv k s = some (x, r)) : s.length = k + x.length + r.length := by
  rw [(rdv_some h).1]; simp [en_length]; omega
theorem rdC_len {k : Nat} {s x r : List UInt8} (h : rd k s = some (x, r)) : s.length = k + r.length := by
  obtain ⟨e, e2⟩ := rd_some h
  rw [e]; simp [e2]

theorem twords_two : ∀ {n : Nat} {s : List UInt8} {L : List Nat}, twords n s = some L → s.length = 2 * L.length
  | n, [], L, h => by rw [twords_nil] at h; cases h; simp
  | 0, c :: s, L, h => by simp [twords] at h
  | n + 1, c :: s, L, h => by
    rw [twords_succ (by simp)] at h
    obtain ⟨⟨x, r⟩, h1, h2⟩ := Option.bind_eq_some_iff.1 h
    obtain ⟨L', h3, rfl⟩ := Option.map_eq_some_iff.1 h2
    have h4 := twords_two h3
    have h5 := rdC_len h1
    simp only at h4
    simp only [List.length_cons] at h5 ⊢
    omega

theorem tshares_len : ∀ {n : Nat} {s : List UInt8} {L : List (Nat × List UInt8)}, tshares n s = some L → s.length = (wshr L).length ∧ ∀ x ∈ L, x.1 < 65536 ∧ x.2 ≠ [] ∧ x.2.length < 65536
  | n, [], L, h => by rw [tshares_nil] at h; cases h; simp [wshr]
  | 0, c :: s, L, h => by simp [tshares] at h
  | n + 1, c :: s, L, h => by
    rw [tshares_succ (by simp)] at h
    obtain ⟨⟨x, r⟩, h1, h2⟩ := Option.bind_eq_some_iff.1 h
    obtain ⟨⟨y, r2⟩, h3, h4⟩ := Option.bind_eq_some_iff.1 h2
    by_cases hy : y = []
    · rw [if_pos hy] at h4; cases h4
    · rw [if_neg hy] at h4
      obtain ⟨L', h5, rfl⟩ := Option.map_eq_some_iff.1 h4
      obtain ⟨h6, h7⟩ := tshares_len h5
      have e1 := rdC_len h1
      have e2 := rdvC_len h3
      have e3 : wshr ((be x, y) :: L') = en 2 (be x) ++ en 2 y.length ++ y ++ wshr L' := by simp [wshr]
      have hl : y.length < 65536 := (rdv_some h3).2
      refine ⟨?_, fun z hz => ?_⟩
      · rw [e3]
        simp only [List.length_append, en_length]
        simp only at h6 e2
        omega
      · rcases List.mem_cons.1 hz with rfl | hz
        · exact ⟨be_lt2 h1, hy, hl⟩
        · exact h7 z hz

theorem tpsks_len : ∀ {n : Nat} {s : List UInt8} {L : List (List UInt8 × Nat)}, tpsks n s = some L → s.length = (widn L).length ∧ ∀ x ∈ L, x.1 ≠ [] ∧ x.1.length < 65536 ∧ x.2 < 4294967296
  | n, [], L, h => by rw [tpsks_nil] at h; cases h; simp [widn]
  | 0, c :: s, L, h => by simp [tpsks] at h
  | n + 1, c :: s, L, h => by
    rw [tpsks_succ (by simp)] at h
    obtain ⟨⟨y, r⟩, h1, h2⟩ := Option.bind_eq_some_iff.1 h
    obtain ⟨⟨x, r2⟩, h3, h4⟩ := Option.bind_eq_some_iff.1 h2
    by_cases hy : y = []
    · rw [if_pos hy] at h4; cases h4
    · rw [if_neg hy] at h4
      obtain ⟨L', h5, rfl⟩ := Option.map_eq_some_iff.1 h4
      obtain ⟨h6, h7⟩ := tpsks_len h5
      have e1 := rdvC_len h1
      have e2 := rdC_len h3
      have e3 : widn ((y, be x) :: L') = en 2 y.length ++ y ++ en 4 (be x) ++ widn L' := by simp [widn]
      have hl : y.length < 65536 := (rdv_some h1).2
      refine ⟨?_, fun z hz => ?_⟩
      · rw [e3]
        simp only [List.length_append, en_length]
        simp only at h6 e2
        omega
      · rcases List.mem_cons.1 hz with rfl | hz
        · exact ⟨hy, hl, be_lt4 h3⟩
        · exact h7 z hz

theorem tnames_ok : ∀ {n : Nat} {a s x : List UInt8}, tnames n a s = some x → x = a ∨ (x.length + 3 ≤ s.length ∧ x.getLast? ≠ some 46)
  | n, a, [], x, h => by rw [tnames_nil] at h; cases h; exact .inl rfl
  | 0, a, c :: s, x, h => by simp [tnames] at h
  | n + 1, a, c :: s, x, h => by
    rw [tnames_succ (by simp)] at h
    obtain ⟨⟨t, r⟩, h1, h2⟩ := Option.bind_eq_some_iff.1 h
    obtain ⟨⟨y, r2⟩, h3, h4⟩ := Option.bind_eq_some_iff.1 h2
    have e1 := rdC_len h1
    have e2 := rdvC_len h3
    simp only at e2
    by_cases hy : y = []
    · rw [if_pos hy] at h4; cases h4
    · rw [if_neg hy] at h4
      by_cases ht : be t ≠ 0
      · rw [if_pos ht] at h4
        rcases tnames_ok h4 with h5 | ⟨h5, h6⟩
        · exact .inl h5
        · exact .inr ⟨by simp only at h5; omega, h6⟩
      · rw [if_neg ht] at h4
        by_cases ha : a ≠ []
        · rw [if_pos ha] at h4; cases h4
        · rw [if_neg ha] at h4
          by_cases hd : y.getLast? = some 46
          · rw [if_pos hd] at h4; cases h4
          · rw [if_neg hd] at h4
            rcases tnames_ok h4 with h5 | ⟨h5, h6⟩
            · subst h5; exact .inr ⟨by omega, hd⟩
            · exact .inr ⟨by simp only at h5; omega, h6⟩

theorem tvecs_ne {k n : Nat} {s : List UInt8} {L : List (List UInt8)} (h : tvecs k n s = some L) (hs : s ≠ []) : L ≠ [] := by
  rintro rfl
  have := (tvecs_len h).1
  exact hs (by rw [this]; rfl)
theorem tpsks_ne {n : Nat} {s : List UInt8} {L : List (List UInt8 × Nat)} (h : tpsks n s = some L) (hs : s ≠ []) : L ≠ [] := by
  rintro rfl
  have := (tpsks_len h).1
  exact hs (List.length_eq_zero_iff.1 (by rw [this]; rfl))

/-- One extension keeps what is right, and costs no more than it was long. -/
theorem chExt_ok {f f' : CH} {ty : Nat} {d rest r : List UInt8} (h : chExt f ty d rest = some (f', r)) (hS : ChR f) (h43 : ty = 43 → f.vers13 = []) : ChR f' ∧ chCost f' + r.length ≤ chCost f + 4 + d.length ∧ (ty ≠ 43 → f'.vers13 = f.vers13) := by
  have app : ∀ {α : Type} {A B : List α} {p : α → Prop}, (∀ x ∈ A, p x) → (∀ x ∈ B, p x) → ∀ x ∈ A ++ B, p x := fun hA hB x hx => (List.mem_append.1 hx).elim (hA x) (hB x)
  unfold chExt at h
  by_cases h0 : ty = 0
  · rw [if_pos h0] at h
    obtain ⟨⟨l, rr⟩, h1, h2⟩ := Option.bind_eq_some_iff.1 h
    by_cases hl : l = []
    · rw [if_pos hl] at h2; cases h2
    rw [if_neg hl] at h2
    obtain ⟨x, h3, h4⟩ := Option.map_eq_some_iff.1 h2
    cases h4
    have hd := rdvC_len h1
    have hn := tnames_ok h3
    simp only at hn
    refine ⟨⟨hS.vers, hS.random, hS.session, hS.suites, hS.suitesn, hS.scsv, hS.comps, (fun hx => hn.elim (fun e => by subst e; exact hS.name hx) (fun e => e.2)), hS.points, hS.tick, hS.sr, hS.nosr, hS.curves, hS.sigs, hS.sigsC, hS.alpn, hS.vers13, hS.vers13n, hS.shares, hS.modes, hS.psks, hS.binders, hS.pskb⟩, ?_, fun hne => rfl⟩
    have hp : pc0 ({ f with name := x }) ≤ pc0 f + 6 + l.length := by rcases hn with e | ⟨e, _⟩; (· subst e; exact (by omega : pc0 f ≤ pc0 f + 6 + l.length)); (· unfold pc0; (split <;> (try simp only) <;> omega))
    change pc0 ({ f with name := x }) + pc1 f + pc2 f + pc3 f + pc4 f + pc5 f + pc6 f + pc7 f + pc8 f + pc9 f + pc10 f + pc11 f + pc12 f + pc13 f + pc14 f + pc15 f + pc16 f + pc17 f + pc18 f + rr.length ≤ chCost f + 4 + d.length
    unfold chCost
    omega
  rw [if_neg h0] at h
  by_cases h5 : ty = 5
  · rw [if_pos h5] at h
    obtain ⟨⟨t, r1⟩, h1, h2⟩ := Option.bind_eq_some_iff.1 h
    obtain ⟨⟨a, r2⟩, h3, h4⟩ := Option.bind_eq_some_iff.1 h2
    obtain ⟨⟨b, rr⟩, h5, h6⟩ := Option.map_eq_some_iff.1 h4
    cases h6
    have hd := rdC_len h1
    have hd2 := rdvC_len h3
    have hd3 := rdvC_len h5
    simp only at hd2 hd3
    refine ⟨⟨hS.vers, hS.random, hS.session, hS.suites, hS.suitesn, hS.scsv, hS.comps, hS.name, hS.points, hS.tick, hS.sr, hS.nosr, hS.curves, hS.sigs, hS.sigsC, hS.alpn, hS.vers13, hS.vers13n, hS.shares, hS.modes, hS.psks, hS.binders, hS.pskb⟩, ?_, fun hne => rfl⟩
    have hp : pc9 ({ f with ocsp := decide (be t = 1) }) ≤ 9 := by unfold pc9; split <;> simp
    change pc0 f + pc1 f + pc2 f + pc3 f + pc4 f + pc5 f + pc6 f + pc7 f + pc8 f + pc9 ({ f with ocsp := decide (be t = 1) }) + pc10 f + pc11 f + pc12 f + pc13 f + pc14 f + pc15 f + pc16 f + pc17 f + pc18 f + rr.length ≤ chCost f + 4 + d.length
    unfold chCost
    omega
  rw [if_neg h5] at h
  by_cases h10 : ty = 10
  · rw [if_pos h10] at h
    obtain ⟨⟨l, rr⟩, h1, h2⟩ := Option.bind_eq_some_iff.1 h
    by_cases hl : l = []
    · rw [if_pos hl] at h2; cases h2
    rw [if_neg hl] at h2
    obtain ⟨x, h3, h4⟩ := Option.map_eq_some_iff.1 h2
    cases h4
    have hd := rdvC_len h1
    have ht := twords_two h3
    simp only at ht
    refine ⟨⟨hS.vers, hS.random, hS.session, hS.suites, hS.suitesn, hS.scsv, hS.comps, hS.name, hS.points, hS.tick, hS.sr, hS.nosr, (app hS.curves (twords_fine h3)), hS.sigs, hS.sigsC, hS.alpn, hS.vers13, hS.vers13n, hS.shares, hS.modes, hS.psks, hS.binders, hS.pskb⟩, ?_, fun hne => rfl⟩
    have hp : pc10 ({ f with curves := f.curves ++ x }) ≤ pc10 f + 6 + l.length := by unfold pc10; simp only [List.length_append]; split <;> split <;> omega
    change pc0 f + pc1 f + pc2 f + pc3 f + pc4 f + pc5 f + pc6 f + pc7 f + pc8 f + pc9 f + pc10 ({ f with curves := f.curves ++ x }) + pc11 f + pc12 f + pc13 f + pc14 f + pc15 f + pc16 f + pc17 f + pc18 f + rr.length ≤ chCost f + 4 + d.length
    unfold chCost
    omega
  rw [if_neg h10] at h
  by_cases h11 : ty = 11
  · rw [if_pos h11] at h
    obtain ⟨⟨x, rr⟩, h1, h2⟩ := Option.bind_eq_some_iff.1 h
    by_cases hx : x = []
    · rw [if_pos hx] at h2; cases h2
    rw [if_neg hx] at h2
    cases h2
    have hd := rdvC_len h1
    have hx2 := (rdv_some h1).2
    refine ⟨⟨hS.vers, hS.random, hS.session, hS.suites, hS.suitesn, hS.scsv, hS.comps, hS.name, (by simpa using hx2), hS.tick, hS.sr, hS.nosr, hS.curves, hS.sigs, hS.sigsC, hS.alpn, hS.vers13, hS.vers13n, hS.shares, hS.modes, hS.psks, hS.binders, hS.pskb⟩, ?_, fun hne => rfl⟩
    have hp : pc1 ({ f with points := x }) ≤ 5 + x.length := by unfold pc1; split <;> simp
    change pc0 f + pc1 ({ f with points := x }) + pc2 f + pc3 f + pc4 f + pc5 f + pc6 f + pc7 f + pc8 f + pc9 f + pc10 f + pc11 f + pc12 f + pc13 f + pc14 f + pc15 f + pc16 f + pc17 f + pc18 f + rr.length ≤ chCost f + 4 + d.length
    unfold chCost
    omega
  rw [if_neg h11] at h
  by_cases h35 : ty = 35
  · rw [if_pos h35] at h
    cases h
    refine ⟨⟨hS.vers, hS.random, hS.session, hS.suites, hS.suitesn, hS.scsv, hS.comps, hS.name, hS.points, (fun e => by cases e), hS.sr, hS.nosr, hS.curves, hS.sigs, hS.sigsC, hS.alpn, hS.vers13, hS.vers13n, hS.shares, hS.modes, hS.psks, hS.binders, hS.pskb⟩, ?_, fun hne => rfl⟩
    have hp : pc2 ({ f with ticket := true, tickets := d }) ≤ 4 + d.length := by unfold pc2; split <;> simp
    change pc0 f + pc1 f + pc2 ({ f with ticket := true, tickets := d }) + pc3 f + pc4 f + pc5 f + pc6 f + pc7 f + pc8 f + pc9 f + pc10 f + pc11 f + pc12 f + pc13 f + pc14 f + pc15 f + pc16 f + pc17 f + pc18 f + ([] : List UInt8).length ≤ chCost f + 4 + d.length
    unfold chCost
    simp only [List.length_nil]
    omega
  rw [if_neg h35] at h
  by_cases h13 : ty = 13
  · rw [if_pos h13] at h
    obtain ⟨⟨l, rr⟩, h1, h2⟩ := Option.bind_eq_some_iff.1 h
    by_cases hl : l = []
    · rw [if_pos hl] at h2; cases h2
    rw [if_neg hl] at h2
    obtain ⟨x, h3, h4⟩ := Option.map_eq_some_iff.1 h2
    cases h4
    have hd := rdvC_len h1
    have ht := twords_two h3
    simp only at ht
    refine ⟨⟨hS.vers, hS.random, hS.session, hS.suites, hS.suitesn, hS.scsv, hS.comps, hS.name, hS.points, hS.tick, hS.sr, hS.nosr, hS.curves, (app hS.sigs (twords_fine h3)), hS.sigsC, hS.alpn, hS.vers13, hS.vers13n, hS.shares, hS.modes, hS.psks, hS.binders, hS.pskb⟩, ?_, fun hne => rfl⟩
    have hp : pc11 ({ f with sigs := f.sigs ++ x }) ≤ pc11 f + 6 + l.length := by unfold pc11; simp only [List.length_append]; split <;> split <;> omega
    change pc0 f + pc1 f + pc2 f + pc3 f + pc4 f + pc5 f + pc6 f + pc7 f + pc8 f + pc9 f + pc10 f + pc11 ({ f with sigs := f.sigs ++ x }) + pc12 f + pc13 f + pc14 f + pc15 f + pc16 f + pc17 f + pc18 f + rr.length ≤ chCost f + 4 + d.length
    unfold chCost
    omega
  rw [if_neg h13] at h
  by_cases h50 : ty = 50
  · rw [if_pos h50] at h
    obtain ⟨⟨l, rr⟩, h1, h2⟩ := Option.bind_eq_some_iff.1 h
    by_cases hl : l = []
    · rw [if_pos hl] at h2; cases h2
    rw [if_neg hl] at h2
    obtain ⟨x, h3, h4⟩ := Option.map_eq_some_iff.1 h2
    cases h4
    have hd := rdvC_len h1
    have ht := twords_two h3
    simp only at ht
    refine ⟨⟨hS.vers, hS.random, hS.session, hS.suites, hS.suitesn, hS.scsv, hS.comps, hS.name, hS.points, hS.tick, hS.sr, hS.nosr, hS.curves, hS.sigs, (app hS.sigsC (twords_fine h3)), hS.alpn, hS.vers13, hS.vers13n, hS.shares, hS.modes, hS.psks, hS.binders, hS.pskb⟩, ?_, fun hne => rfl⟩
    have hp : pc12 ({ f with sigsC := f.sigsC ++ x }) ≤ pc12 f + 6 + l.length := by unfold pc12; simp only [List.length_append]; split <;> split <;> omega
    change pc0 f + pc1 f + pc2 f + pc3 f + pc4 f + pc5 f + pc6 f + pc7 f + pc8 f + pc9 f + pc10 f + pc11 f + pc12 ({ f with sigsC := f.sigsC ++ x }) + pc13 f + pc14 f + pc15 f + pc16 f + pc17 f + pc18 f + rr.length ≤ chCost f + 4 + d.length
    unfold chCost
    omega
  rw [if_neg h50] at h
  by_cases h65281 : ty = 65281
  · rw [if_pos h65281] at h
    obtain ⟨⟨x, rr⟩, h1, h2⟩ := Option.map_eq_some_iff.1 h
    cases h2
    have hd := rdvC_len h1
    have hx2 := (rdv_some h1).2
    refine ⟨⟨hS.vers, hS.random, hS.session, hS.suites, hS.suitesn, (fun _ => rfl), hS.comps, hS.name, hS.points, hS.tick, (by simpa using hx2), (fun e => by cases e), hS.curves, hS.sigs, hS.sigsC, hS.alpn, hS.vers13, hS.vers13n, hS.shares, hS.modes, hS.psks, hS.binders, hS.pskb⟩, ?_, fun hne => rfl⟩
    have hp : pc3 ({ f with sr := x, srs := true }) ≤ 5 + x.length := by unfold pc3; split <;> simp
    change pc0 f + pc1 f + pc2 f + pc3 ({ f with sr := x, srs := true }) + pc4 f + pc5 f + pc6 f + pc7 f + pc8 f + pc9 f + pc10 f + pc11 f + pc12 f + pc13 f + pc14 f + pc15 f + pc16 f + pc17 f + pc18 f + rr.length ≤ chCost f + 4 + d.length
    unfold chCost
    omega
  rw [if_neg h65281] at h
  by_cases h23 : ty = 23
  · rw [if_pos h23] at h
    cases h
    refine ⟨⟨hS.vers, hS.random, hS.session, hS.suites, hS.suitesn, hS.scsv, hS.comps, hS.name, hS.points, hS.tick, hS.sr, hS.nosr, hS.curves, hS.sigs, hS.sigsC, hS.alpn, hS.vers13, hS.vers13n, hS.shares, hS.modes, hS.psks, hS.binders, hS.pskb⟩, ?_, fun hne => rfl⟩
    have hp : pc4 ({ f with ems := true }) ≤ 4 := by unfold pc4; split <;> simp
    change pc0 f + pc1 f + pc2 f + pc3 f + pc4 ({ f with ems := true }) + pc5 f + pc6 f + pc7 f + pc8 f + pc9 f + pc10 f + pc11 f + pc12 f + pc13 f + pc14 f + pc15 f + pc16 f + pc17 f + pc18 f + d.length ≤ chCost f + 4 + d.length
    unfold chCost
    omega
  rw [if_neg h23] at h
  by_cases h16 : ty = 16
  · rw [if_pos h16] at h
    obtain ⟨⟨l, rr⟩, h1, h2⟩ := Option.bind_eq_some_iff.1 h
    by_cases hl : l = []
    · rw [if_pos hl] at h2; cases h2
    rw [if_neg hl] at h2
    obtain ⟨x, h3, h4⟩ := Option.map_eq_some_iff.1 h2
    cases h4
    have hd := rdvC_len h1
    obtain ⟨e1, e2⟩ := tvecs_len h3
    simp only at e1
    have hv : (vecs 1 (f.alpn ++ x)).length = (vecs 1 f.alpn).length + l.length := by rw [vecs_append, List.length_append, ← e1]
    refine ⟨⟨hS.vers, hS.random, hS.session, hS.suites, hS.suitesn, hS.scsv, hS.comps, hS.name, hS.points, hS.tick, hS.sr, hS.nosr, hS.curves, hS.sigs, hS.sigsC, (app hS.alpn e2), hS.vers13, hS.vers13n, hS.shares, hS.modes, hS.psks, hS.binders, hS.pskb⟩, ?_, fun hne => rfl⟩
    have hp : pc13 ({ f with alpn := f.alpn ++ x }) ≤ pc13 f + 6 + l.length := by 
      unfold pc13
      by_cases hz : 0 < f.alpn.length
      · rw [if_pos hz, if_pos (by simp; omega)]; simp only; omega
      · rw [if_neg hz]
        have hz2 : f.alpn = [] := List.length_eq_zero_iff.1 (by omega)
        have hz3 : (vecs 1 f.alpn).length = 0 := by rw [hz2]; rfl
        split
        · simp only; omega
        · omega
    change pc0 f + pc1 f + pc2 f + pc3 f + pc4 f + pc5 f + pc6 f + pc7 f + pc8 f + pc9 f + pc10 f + pc11 f + pc12 f + pc13 ({ f with alpn := f.alpn ++ x }) + pc14 f + pc15 f + pc16 f + pc17 f + pc18 f + rr.length ≤ chCost f + 4 + d.length
    unfold chCost
    omega
  rw [if_neg h16] at h
  by_cases h18 : ty = 18
  · rw [if_pos h18] at h
    cases h
    refine ⟨⟨hS.vers, hS.random, hS.session, hS.suites, hS.suitesn, hS.scsv, hS.comps, hS.name, hS.points, hS.tick, hS.sr, hS.nosr, hS.curves, hS.sigs, hS.sigsC, hS.alpn, hS.vers13, hS.vers13n, hS.shares, hS.modes, hS.psks, hS.binders, hS.pskb⟩, ?_, fun hne => rfl⟩
    have hp : pc5 ({ f with scts := true }) ≤ 4 := by unfold pc5; split <;> simp
    change pc0 f + pc1 f + pc2 f + pc3 f + pc4 f + pc5 ({ f with scts := true }) + pc6 f + pc7 f + pc8 f + pc9 f + pc10 f + pc11 f + pc12 f + pc13 f + pc14 f + pc15 f + pc16 f + pc17 f + pc18 f + d.length ≤ chCost f + 4 + d.length
    unfold chCost
    omega
  rw [if_neg h18] at h
  by_cases h43' : ty = 43
  · rw [if_pos h43'] at h
    obtain ⟨⟨l, rr⟩, h1, h2⟩ := Option.bind_eq_some_iff.1 h
    by_cases hl : l = []
    · rw [if_pos hl] at h2; cases h2
    rw [if_neg hl] at h2
    obtain ⟨x, h3, h4⟩ := Option.map_eq_some_iff.1 h2
    cases h4
    have hd := rdvC_len h1
    have ht := twords_two h3
    simp only at ht
    refine ⟨⟨hS.vers, hS.random, hS.session, hS.suites, hS.suitesn, hS.scsv, hS.comps, hS.name, hS.points, hS.tick, hS.sr, hS.nosr, hS.curves, hS.sigs, hS.sigsC, hS.alpn, (app hS.vers13 (twords_fine h3)), (by rw [h43 h43', List.nil_append]; have := (rdv_some h1).2; simp only at this ⊢; omega), hS.shares, hS.modes, hS.psks, hS.binders, hS.pskb⟩, ?_, fun hne => absurd h43' hne⟩
    have hp : pc14 ({ f with vers13 := f.vers13 ++ x }) ≤ pc14 f + 5 + l.length := by unfold pc14; simp only [List.length_append]; split <;> split <;> omega
    change pc0 f + pc1 f + pc2 f + pc3 f + pc4 f + pc5 f + pc6 f + pc7 f + pc8 f + pc9 f + pc10 f + pc11 f + pc12 f + pc13 f + pc14 ({ f with vers13 := f.vers13 ++ x }) + pc15 f + pc16 f + pc17 f + pc18 f + rr.length ≤ chCost f + 4 + d.length
    unfold chCost
    omega
  rw [if_neg h43'] at h
  by_cases h44 : ty = 44
  · rw [if_pos h44] at h
    obtain ⟨⟨x, rr⟩, h1, h2⟩ := Option.bind_eq_some_iff.1 h
    by_cases hx : x = []
    · rw [if_pos hx] at h2; cases h2
    rw [if_neg hx] at h2
    cases h2
    have hd := rdvC_len h1
    have hx2 := (rdv_some h1).2
    refine ⟨⟨hS.vers, hS.random, hS.session, hS.suites, hS.suitesn, hS.scsv, hS.comps, hS.name, hS.points, hS.tick, hS.sr, hS.nosr, hS.curves, hS.sigs, hS.sigsC, hS.alpn, hS.vers13, hS.vers13n, hS.shares, hS.modes, hS.psks, hS.binders, hS.pskb⟩, ?_, fun hne => rfl⟩
    have hp : pc15 ({ f with cookie := x }) ≤ 6 + x.length := by unfold pc15; split <;> simp
    change pc0 f + pc1 f + pc2 f + pc3 f + pc4 f + pc5 f + pc6 f + pc7 f + pc8 f + pc9 f + pc10 f + pc11 f + pc12 f + pc13 f + pc14 f + pc15 ({ f with cookie := x }) + pc16 f + pc17 f + pc18 f + rr.length ≤ chCost f + 4 + d.length
    unfold chCost
    omega
  rw [if_neg h44] at h
  by_cases h51 : ty = 51
  · rw [if_pos h51] at h
    obtain ⟨⟨l, rr⟩, h1, h2⟩ := Option.bind_eq_some_iff.1 h
    obtain ⟨x, h3, h4⟩ := Option.map_eq_some_iff.1 h2
    cases h4
    have hd := rdvC_len h1
    obtain ⟨e1, e2⟩ := tshares_len h3
    simp only at e1
    have hv : (wshr (f.shares ++ x)).length = (wshr f.shares).length + l.length := by rw [wshr_append, List.length_append, ← e1]
    refine ⟨⟨hS.vers, hS.random, hS.session, hS.suites, hS.suitesn, hS.scsv, hS.comps, hS.name, hS.points, hS.tick, hS.sr, hS.nosr, hS.curves, hS.sigs, hS.sigsC, hS.alpn, hS.vers13, hS.vers13n, (app hS.shares e2), hS.modes, hS.psks, hS.binders, hS.pskb⟩, ?_, fun hne => rfl⟩
    have hp : pc16 ({ f with shares := f.shares ++ x }) ≤ pc16 f + 6 + l.length := by 
      unfold pc16
      by_cases hz : 0 < f.shares.length
      · rw [if_pos hz, if_pos (by simp; omega)]; simp only; omega
      · rw [if_neg hz]
        have hz2 : f.shares = [] := List.length_eq_zero_iff.1 (by omega)
        have hz3 : (wshr f.shares).length = 0 := by rw [hz2]; rfl
        split
        · simp only; omega
        · omega
    change pc0 f + pc1 f + pc2 f + pc3 f + pc4 f + pc5 f + pc6 f + pc7 f + pc8 f + pc9 f + pc10 f + pc11 f + pc12 f + pc13 f + pc14 f + pc15 f + pc16 ({ f with shares := f.shares ++ x }) + pc17 f + pc18 f + rr.length ≤ chCost f + 4 + d.length
    unfold chCost
    omega
  rw [if_neg h51] at h
  by_cases h42 : ty = 42
  · rw [if_pos h42] at h
    cases h
    refine ⟨⟨hS.vers, hS.random, hS.session, hS.suites, hS.suitesn, hS.scsv, hS.comps, hS.name, hS.points, hS.tick, hS.sr, hS.nosr, hS.curves, hS.sigs, hS.sigsC, hS.alpn, hS.vers13, hS.vers13n, hS.shares, hS.modes, hS.psks, hS.binders, hS.pskb⟩, ?_, fun hne => rfl⟩
    have hp : pc6 ({ f with early := true }) ≤ 4 := by unfold pc6; split <;> simp
    change pc0 f + pc1 f + pc2 f + pc3 f + pc4 f + pc5 f + pc6 ({ f with early := true }) + pc7 f + pc8 f + pc9 f + pc10 f + pc11 f + pc12 f + pc13 f + pc14 f + pc15 f + pc16 f + pc17 f + pc18 f + d.length ≤ chCost f + 4 + d.length
    unfold chCost
    omega
  rw [if_neg h42] at h
  by_cases h45 : ty = 45
  · rw [if_pos h45] at h
    obtain ⟨⟨x, rr⟩, h1, h2⟩ := Option.map_eq_some_iff.1 h
    cases h2
    have hd := rdvC_len h1
    have hx2 := (rdv_some h1).2
    refine ⟨⟨hS.vers, hS.random, hS.session, hS.suites, hS.suitesn, hS.scsv, hS.comps, hS.name, hS.points, hS.tick, hS.sr, hS.nosr, hS.curves, hS.sigs, hS.sigsC, hS.alpn, hS.vers13, hS.vers13n, hS.shares, (by simpa using hx2), hS.psks, hS.binders, hS.pskb⟩, ?_, fun hne => rfl⟩
    have hp : pc17 ({ f with modes := x }) ≤ 5 + x.length := by unfold pc17; split <;> simp
    change pc0 f + pc1 f + pc2 f + pc3 f + pc4 f + pc5 f + pc6 f + pc7 f + pc8 f + pc9 f + pc10 f + pc11 f + pc12 f + pc13 f + pc14 f + pc15 f + pc16 f + pc17 ({ f with modes := x }) + pc18 f + rr.length ≤ chCost f + 4 + d.length
    unfold chCost
    omega
  rw [if_neg h45] at h
  by_cases h57 : ty = 57
  · rw [if_pos h57] at h
    cases h
    refine ⟨⟨hS.vers, hS.random, hS.session, hS.suites, hS.suitesn, hS.scsv, hS.comps, hS.name, hS.points, hS.tick, hS.sr, hS.nosr, hS.curves, hS.sigs, hS.sigsC, hS.alpn, hS.vers13, hS.vers13n, hS.shares, hS.modes, hS.psks, hS.binders, hS.pskb⟩, ?_, fun hne => rfl⟩
    have hp : pc7 ({ f with quic := some d }) ≤ 4 + d.length := by unfold pc7; split <;> simp
    change pc0 f + pc1 f + pc2 f + pc3 f + pc4 f + pc5 f + pc6 f + pc7 ({ f with quic := some d }) + pc8 f + pc9 f + pc10 f + pc11 f + pc12 f + pc13 f + pc14 f + pc15 f + pc16 f + pc17 f + pc18 f + ([] : List UInt8).length ≤ chCost f + 4 + d.length
    unfold chCost
    simp only [List.length_nil]
    omega
  rw [if_neg h57] at h
  by_cases h41 : ty = 41
  · rw [if_pos h41] at h
    by_cases hrest : rest ≠ []
    · rw [if_pos hrest] at h; cases h
    rw [if_neg hrest] at h
    obtain ⟨⟨l, l2⟩, h1, h2⟩ := Option.bind_eq_some_iff.1 h
    by_cases hl : l = []
    · rw [if_pos hl] at h2; cases h2
    rw [if_neg hl] at h2
    obtain ⟨x, h3, h4⟩ := Option.bind_eq_some_iff.1 h2
    obtain ⟨⟨b, rr⟩, h5, h6⟩ := Option.bind_eq_some_iff.1 h4
    by_cases hb : b = []
    · rw [if_pos hb] at h6; cases h6
    rw [if_neg hb] at h6
    obtain ⟨y, h7, h8⟩ := Option.map_eq_some_iff.1 h6
    cases h8
    have hd := rdvC_len h1
    have hd2 := rdvC_len h5
    obtain ⟨e1, e2⟩ := tpsks_len h3
    obtain ⟨e3, e4⟩ := tvecs_len h7
    simp only at e1 e3 hd2
    have hv : (widn (f.psks ++ x)).length = (widn f.psks).length + l.length := by rw [widn_append, List.length_append, ← e1]
    have hv2 : (vecs 1 (f.binders ++ y)).length = (vecs 1 f.binders).length + b.length := by rw [vecs_append, List.length_append, ← e3]
    have hx0 := tpsks_ne h3 hl
    have hy0 := tvecs_ne h7 hb
    refine ⟨⟨hS.vers, hS.random, hS.session, hS.suites, hS.suitesn, hS.scsv, hS.comps, hS.name, hS.points, hS.tick, hS.sr, hS.nosr, hS.curves, hS.sigs, hS.sigsC, hS.alpn, hS.vers13, hS.vers13n, hS.shares, hS.modes, (app hS.psks e2), (app hS.binders e4), (by constructor <;> (intro h; simp only [List.append_eq_nil_iff] at h; first | exact absurd h.2 hx0 | exact absurd h.2 hy0))⟩, ?_, fun hne => rfl⟩
    have hp : pc18 ({ f with psks := f.psks ++ x, binders := f.binders ++ y }) ≤ pc18 f + 8 + l.length + b.length := by 
      unfold pc18
      by_cases hz : 0 < f.psks.length
      · rw [if_pos hz, if_pos (by simp; omega)]; simp only; omega
      · rw [if_neg hz]
        have hz2 : f.psks = [] := List.length_eq_zero_iff.1 (by omega)
        have hz3 : (widn f.psks).length = 0 := by rw [hz2]; rfl
        have hz4 : (vecs 1 f.binders).length = 0 := by rw [hS.pskb.1 hz2]; rfl
        split
        · simp only; omega
        · omega
    change pc0 f + pc1 f + pc2 f + pc3 f + pc4 f + pc5 f + pc6 f + pc7 f + pc8 f + pc9 f + pc10 f + pc11 f + pc12 f + pc13 f + pc14 f + pc15 f + pc16 f + pc17 f + pc18 ({ f with psks := f.psks ++ x, binders := f.binders ++ y }) + rr.length ≤ chCost f + 4 + d.length
    unfold chCost
    omega
  rw [if_neg h41] at h
  by_cases h65037 : ty = 65037
  · rw [if_pos h65037] at h
    cases h
    refine ⟨⟨hS.vers, hS.random, hS.session, hS.suites, hS.suitesn, hS.scsv, hS.comps, hS.name, hS.points, hS.tick, hS.sr, hS.nosr, hS.curves, hS.sigs, hS.sigsC, hS.alpn, hS.vers13, hS.vers13n, hS.shares, hS.modes, hS.psks, hS.binders, hS.pskb⟩, ?_, fun hne => rfl⟩
    have hp : pc8 ({ f with ech := d }) ≤ 4 + d.length := by unfold pc8; split <;> simp
    change pc0 f + pc1 f + pc2 f + pc3 f + pc4 f + pc5 f + pc6 f + pc7 f + pc8 ({ f with ech := d }) + pc9 f + pc10 f + pc11 f + pc12 f + pc13 f + pc14 f + pc15 f + pc16 f + pc17 f + pc18 f + ([] : List UInt8).length ≤ chCost f + 4 + d.length
    unfold chCost
    simp only [List.length_nil]
    omega
  rw [if_neg h65037] at h
  cases h
  exact ⟨hS, by simp only [List.length_nil]; omega, fun hne => rfl⟩

theorem ChR.ext {f : CH} (h : ChR f) (E : List Nat) : ChR { f with exts := E } := ⟨h.vers, h.random, h.session, h.suites, h.suitesn, h.scsv, h.comps, h.name, h.points, h.tick, h.sr, h.nosr, h.curves, h.sigs, h.sigsC, h.alpn, h.vers13, h.vers13n, h.shares, h.modes, h.psks, h.binders, h.pskb⟩
theorem chExts_ok : ∀ {n : Nat} {seen : List Nat} {f f' : CH} {s : List UInt8}, chExts n seen f s = some f' → ChR f → (43 ∉ seen → f.vers13 = []) → ChR f' ∧ chCost f' ≤ chCost f + s.length
  | n, seen, f, f', [], h, hS, _ => by rw [chExts_nil] at h; cases h; exact ⟨hS, by omega⟩
  | 0, seen, f, f', c :: s, h, hS, _ => by simp [chExts] at h
  | n + 1, seen, f, f', c :: s, h, hS, h43 => by
    rw [chExts_succ (by simp)] at h
    obtain ⟨⟨t, r1⟩, h1, h2⟩ := Option.bind_eq_some_iff.1 h
    obtain ⟨⟨d, r2⟩, h3, h4⟩ := Option.bind_eq_some_iff.1 h2
    simp only at h3 h4
    by_cases hin : be t ∈ seen
    · rw [if_pos hin] at h4; cases h4
    · rw [if_neg hin] at h4
      obtain ⟨⟨f1, r3⟩, h5, h6⟩ := Option.bind_eq_some_iff.1 h4
      by_cases hr : r3 = []
      · rw [if_pos hr] at h6
        obtain ⟨j1, j2, j3⟩ := chExt_ok h5 (hS.ext _) (fun e => h43 (e ▸ hin))
        have j2 : chCost f1 + r3.length ≤ chCost f + 4 + d.length := j2
        have hl1 := rdC_len h1
        have hl2 := rdvC_len h3
        simp only at h6
        obtain ⟨k1, k2⟩ := chExts_ok h6 j1 (fun hn => by
          have hne : be t ≠ 43 := fun e => hn (by simp [e])
          rw [j3 hne]
          exact h43 (fun hm => hn (by simp [hm])))
        exact ⟨k1, by omega⟩
      · rw [if_neg hr] at h6; cases h6

theorem chExt_head {f f' : CH} {ty : Nat} {d rest r : List UInt8} (h : chExt f ty d rest = some (f', r)) : f'.session = f.session ∧ f'.suites = f.suites ∧ f'.comps = f.comps := by
  unfold chExt at h
  by_cases h0 : ty = 0
  · rw [if_pos h0] at h
    obtain ⟨l, h1, h⟩ := Option.bind_eq_some_iff.1 h
    by_cases hl : l.1 = []
    · rw [if_pos hl] at h; cases h
    rw [if_neg hl] at h
    obtain ⟨x, h3, h⟩ := Option.map_eq_some_iff.1 h
    cases h
    exact ⟨rfl, rfl, rfl⟩
  rw [if_neg h0] at h
  by_cases h5 : ty = 5
  · rw [if_pos h5] at h
    obtain ⟨l, h1, h⟩ := Option.bind_eq_some_iff.1 h
    obtain ⟨l, h1, h⟩ := Option.bind_eq_some_iff.1 h
    obtain ⟨x, h3, h⟩ := Option.map_eq_some_iff.1 h
    cases h
    exact ⟨rfl, rfl, rfl⟩
  rw [if_neg h5] at h
  by_cases h10 : ty = 10
  · rw [if_pos h10] at h
    obtain ⟨l, h1, h⟩ := Option.bind_eq_some_iff.1 h
    by_cases hl : l.1 = []
    · rw [if_pos hl] at h; cases h
    rw [if_neg hl] at h
    obtain ⟨x, h3, h⟩ := Option.map_eq_some_iff.1 h
    cases h
    exact ⟨rfl, rfl, rfl⟩
  rw [if_neg h10] at h
  by_cases h11 : ty = 11
  · rw [if_pos h11] at h
    obtain ⟨l, h1, h⟩ := Option.bind_eq_some_iff.1 h
    by_cases hl : l.1 = []
    · rw [if_pos hl] at h; cases h
    rw [if_neg hl] at h
    cases h
    exact ⟨rfl, rfl, rfl⟩
  rw [if_neg h11] at h
  by_cases h35 : ty = 35
  · rw [if_pos h35] at h
    cases h
    exact ⟨rfl, rfl, rfl⟩
  rw [if_neg h35] at h
  by_cases h13 : ty = 13
  · rw [if_pos h13] at h
    obtain ⟨l, h1, h⟩ := Option.bind_eq_some_iff.1 h
    by_cases hl : l.1 = []
    · rw [if_pos hl] at h; cases h
    rw [if_neg hl] at h
    obtain ⟨x, h3, h⟩ := Option.map_eq_some_iff.1 h
    cases h
    exact ⟨rfl, rfl, rfl⟩
  rw [if_neg h13] at h
  by_cases h50 : ty = 50
  · rw [if_pos h50] at h
    obtain ⟨l, h1, h⟩ := Option.bind_eq_some_iff.1 h
    by_cases hl : l.1 = []
    · rw [if_pos hl] at h; cases h
    rw [if_neg hl] at h
    obtain ⟨x, h3, h⟩ := Option.map_eq_some_iff.1 h
    cases h
    exact ⟨rfl, rfl, rfl⟩
  rw [if_neg h50] at h
  by_cases h65281 : ty = 65281
  · rw [if_pos h65281] at h
    obtain ⟨x, h3, h⟩ := Option.map_eq_some_iff.1 h
    cases h
    exact ⟨rfl, rfl, rfl⟩
  rw [if_neg h65281] at h
  by_cases h23 : ty = 23
  · rw [if_pos h23] at h
    cases h
    exact ⟨rfl, rfl, rfl⟩
  rw [if_neg h23] at h
  by_cases h16 : ty = 16
  · rw [if_pos h16] at h
    obtain ⟨l, h1, h⟩ := Option.bind_eq_some_iff.1 h
    by_cases hl : l.1 = []
    · rw [if_pos hl] at h; cases h
    rw [if_neg hl] at h
    obtain ⟨x, h3, h⟩ := Option.map_eq_some_iff.1 h
    cases h
    exact ⟨rfl, rfl, rfl⟩
  rw [if_neg h16] at h
  by_cases h18 : ty = 18
  · rw [if_pos h18] at h
    cases h
    exact ⟨rfl, rfl, rfl⟩
  rw [if_neg h18] at h
  by_cases h43 : ty = 43
  · rw [if_pos h43] at h
    obtain ⟨l, h1, h⟩ := Option.bind_eq_some_iff.1 h
    by_cases hl : l.1 = []
    · rw [if_pos hl] at h; cases h
    rw [if_neg hl] at h
    obtain ⟨x, h3, h⟩ := Option.map_eq_some_iff.1 h
    cases h
    exact ⟨rfl, rfl, rfl⟩
  rw [if_neg h43] at h
  by_cases h44 : ty = 44
  · rw [if_pos h44] at h
    obtain ⟨l, h1, h⟩ := Option.bind_eq_some_iff.1 h
    by_cases hl : l.1 = []
    · rw [if_pos hl] at h; cases h
    rw [if_neg hl] at h
    cases h
    exact ⟨rfl, rfl, rfl⟩
  rw [if_neg h44] at h
  by_cases h51 : ty = 51
  · rw [if_pos h51] at h
    obtain ⟨l, h1, h⟩ := Option.bind_eq_some_iff.1 h
    obtain ⟨x, h3, h⟩ := Option.map_eq_some_iff.1 h
    cases h
    exact ⟨rfl, rfl, rfl⟩
  rw [if_neg h51] at h
  by_cases h42 : ty = 42
  · rw [if_pos h42] at h
    cases h
    exact ⟨rfl, rfl, rfl⟩
  rw [if_neg h42] at h
  by_cases h45 : ty = 45
  · rw [if_pos h45] at h
    obtain ⟨x, h3, h⟩ := Option.map_eq_some_iff.1 h
    cases h
    exact ⟨rfl, rfl, rfl⟩
  rw [if_neg h45] at h
  by_cases h57 : ty = 57
  · rw [if_pos h57] at h
    cases h
    exact ⟨rfl, rfl, rfl⟩
  rw [if_neg h57] at h
  by_cases h41 : ty = 41
  · rw [if_pos h41] at h
    by_cases hr : rest ≠ []
    · rw [if_pos hr] at h; cases h
    rw [if_neg hr] at h
    obtain ⟨l, h1, h⟩ := Option.bind_eq_some_iff.1 h
    by_cases hl : l.1 = []
    · rw [if_pos hl] at h; cases h
    rw [if_neg hl] at h
    obtain ⟨y, h2, h⟩ := Option.bind_eq_some_iff.1 h
    obtain ⟨m, h4, h⟩ := Option.bind_eq_some_iff.1 h
    by_cases hm : m.1 = []
    · rw [if_pos hm] at h; cases h
    rw [if_neg hm] at h
    obtain ⟨x, h3, h⟩ := Option.map_eq_some_iff.1 h
    cases h
    exact ⟨rfl, rfl, rfl⟩
  rw [if_neg h41] at h
  by_cases h65037 : ty = 65037
  · rw [if_pos h65037] at h
    cases h
    exact ⟨rfl, rfl, rfl⟩
  rw [if_neg h65037] at h
  cases h
  exact ⟨rfl, rfl, rfl⟩

theorem chExts_head : ∀ {n : Nat} {seen : List Nat} {f f' : CH} {s : List UInt8}, chExts n seen f s = some f' → f'.session = f.session ∧ f'.suites = f.suites ∧ f'.comps = f.comps
  | n, seen, f, f', [], h => by rw [chExts_nil] at h; cases h; exact ⟨rfl, rfl, rfl⟩
  | 0, seen, f, f', c :: s, h => by simp [chExts] at h
  | n + 1, seen, f, f', c :: s, h => by
    rw [chExts_succ (by simp)] at h
    obtain ⟨⟨t, r1⟩, h1, h2⟩ := Option.bind_eq_some_iff.1 h
    obtain ⟨⟨d, r2⟩, h3, h4⟩ := Option.bind_eq_some_iff.1 h2
    simp only at h3 h4
    by_cases hin : be t ∈ seen
    · rw [if_pos hin] at h4; cases h4
    · rw [if_neg hin] at h4
      obtain ⟨⟨f1, r3⟩, h5, h6⟩ := Option.bind_eq_some_iff.1 h4
      by_cases hr : r3 = []
      · rw [if_pos hr] at h6
        have j := chExt_head h5
        have k := chExts_head h6
        exact ⟨k.1.trans j.1, k.2.1.trans j.2.1, k.2.2.trans j.2.2⟩
      · rw [if_neg hr] at h6; cases h6

/-- What was read is right, and little longer than it was. -/
theorem chRead_ok {bs : List UInt8} {f : CH} (h : chRead bs = some f) : ChR f ∧ chCost f + f.session.length + 2 * f.suites.length + f.comps.length + 42 ≤ bs.length + 5 := by
  unfold chRead at h
  obtain ⟨⟨f0, r⟩, h0, h1⟩ := Option.bind_eq_some_iff.1 h
  unfold chHead at h0
  obtain ⟨⟨a1, r1⟩, g1, h0⟩ := Option.bind_eq_some_iff.1 h0
  obtain ⟨⟨a2, r2⟩, g2, h0⟩ := Option.bind_eq_some_iff.1 h0
  obtain ⟨⟨a3, r3⟩, g3, h0⟩ := Option.bind_eq_some_iff.1 h0
  obtain ⟨⟨a4, r4⟩, g4, h0⟩ := Option.bind_eq_some_iff.1 h0
  obtain ⟨⟨a5, r5⟩, g5, h0⟩ := Option.bind_eq_some_iff.1 h0
  obtain ⟨L, gL, h0⟩ := Option.bind_eq_some_iff.1 h0
  obtain ⟨⟨a6, r6⟩, g6, h0⟩ := Option.map_eq_some_iff.1 h0
  cases h0
  simp only at g1 g2 g3 g4 g5 g6 gL h1
  have l1 := rdC_len g1
  have l2 := rdC_len g2
  have l3 := rdC_len g3
  have l4 := rdvC_len g4
  have l5 := rdvC_len g5
  have l6 := rdvC_len g6
  have lL := twords_two gL
  have hs4 := (rdv_some g4).2
  have hs5 := (rdv_some g5).2
  have hs6 := (rdv_some g6).2
  have hS0 : ChR { vers := be a2, random := a3, session := a4, suites := L, srs := decide (255 ∈ L), comps := a6 } := ⟨be_lt2 g2, (rd_some g3).2, by simpa using hs4, twords_fine gL, (by simp only at hs5 ⊢; omega), fun hm => by simpa using hm, by simpa using hs6, (fun hx => absurd rfl hx), by simp, fun _ => rfl, by simp, fun _ => rfl, by simp, by simp, by simp, by simp, by simp, by simp, by simp, by simp, by simp, by simp, by simp⟩
  have hc0 : chCost { vers := be a2, random := a3, session := a4, suites := L, srs := decide (255 ∈ L), comps := a6 } ≤ 5 := by
    have e : chCost { vers := be a2, random := a3, session := a4, suites := L, srs := decide (255 ∈ L), comps := a6 } = 0 + 0 + 0 + (if decide (255 ∈ L) = true then 5 + 0 else 0) + 0 + 0 + 0 + 0 + 0 + 0 + 0 + 0 + 0 + 0 + 0 + 0 + 0 + 0 + 0 := rfl
    rw [e]
    split <;> omega
  by_cases hr : r6 = []
  · rw [if_pos hr] at h1
    cases h1
    exact ⟨hS0, by simp only; omega⟩
  · rw [if_neg hr] at h1
    obtain ⟨⟨x, r7⟩, h2, h3⟩ := Option.bind_eq_some_iff.1 h1
    by_cases hr7 : r7 = []
    · rw [if_pos hr7] at h3
      simp only at h3
      have l7 := rdvC_len h2
      obtain ⟨k1, k2⟩ := chExts_ok h3 hS0 (fun _ => rfl)
      obtain ⟨e1, e2, e3⟩ := chExts_head h3
      refine ⟨k1, ?_⟩
      rw [e1, e2, e3]
      simp only
      omega
    · rw [if_neg hr7] at h3; cases h3

end Go.Proofs.YtopcljikkdlffaaGreat
