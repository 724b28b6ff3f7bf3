/- What package tls makes of the bytes of a Certificate of TLS 1.3, what it writes of it, and that this is read again as it was. No program and no memory stand here. What package tls makes of the bytes of a ClientHello, in plain words on lists. No program and no memory stand here. No statement of the seat is proved here. -/
import Derived.Test.YtopcljikkdlffaaX11
import Derived.Test.YtopcljikkdlffaaX06
namespace Go.Proofs.Ytopcljikkdlffaa

/-- The fields of a Certificate of TLS 1.3. -/
structure C13 where
  certs : List (List UInt8) := []
  staple : List UInt8 := []
  stamps : List (List UInt8) := []

/-- One extension of the first certificate: what becomes of the fields, and what is left of its bytes. -/
def c13Ext (f : C13) (ty : Nat) (d : List UInt8) : Option (C13 × List UInt8) :=
  if ty = 5 then (rd 1 d).bind fun t => if be t.1 = 1 then (rdv 3 t.2).bind fun x => if x.1 = [] then none else some ({ f with staple := x.1 }, x.2) else none
  else if ty = 18 then (rdv 2 d).bind fun l => if l.1 = [] then none else (tvecs 2 l.1.length l.1).map fun x => ({ f with stamps := f.stamps ++ x }, l.2)
  else some (f, [])

/-- Extensions until nothing is left; those behind the first certificate say nothing. -/
def c13Exts : Nat → C13 → List UInt8 → Option C13
  | 0, f, s => if s = [] then some f else none
  | n + 1, f, s => if s = [] then some f else
    (rd 2 s).bind fun t => (rdv 2 t.2).bind fun d => if 1 < f.certs.length then c13Exts n f d.2 else
      (c13Ext f (be t.1) d.1).bind fun y => if y.2 = [] then c13Exts n y.1 d.2 else none

/-- Certificates until nothing is left. -/
def c13Certs : Nat → C13 → List UInt8 → Option C13
  | 0, f, s => if s = [] then some f else none
  | n + 1, f, s => if s = [] then some f else
    (rdv 3 s).bind fun c => (rdv 2 c.2).bind fun e => (c13Exts e.1.length { f with certs := f.certs ++ [c.1] } e.1).bind fun f' => c13Certs n f' e.2

/-- A Certificate. -/
def c13Read (bs : List UInt8) : Option C13 :=
  (rd 4 bs).bind fun h => (rdv 1 h.2).bind fun c => if c.1 = [] then (rdv 3 c.2).bind fun l => (c13Certs l.1.length {} l.1).bind fun f => if l.2 = [] then some f else none else none

theorem c13Exts_nil (n : Nat) (f : C13) : c13Exts n f [] = some f := by cases n <;> rfl
theorem c13Certs_nil (n : Nat) (f : C13) : c13Certs n f [] = some f := by cases n <;> rfl
theorem c13Exts_succ {n : Nat} {f : C13} {s : List UInt8} (h : s ≠ []) : c13Exts (n + 1) f s = (rd 2 s).bind fun t => (rdv 2 t.2).bind fun d => if 1 < f.certs.length then c13Exts n f d.2 else
      (c13Ext f (be t.1) d.1).bind fun y => if y.2 = [] then c13Exts n y.1 d.2 else none := by
  show (if s = [] then _ else _) = _
  rw [if_neg h]
theorem c13Certs_succ {n : Nat} {f : C13} {s : List UInt8} (h : s ≠ []) : c13Certs (n + 1) f s = (rdv 3 s).bind fun c => (rdv 2 c.2).bind fun e => (c13Exts e.1.length { f with certs := f.certs ++ [c.1] } e.1).bind fun f' => c13Certs n f' e.2 := by
  show (if s = [] then _ else _) = _
  rw [if_neg h]

/-- What is written of an OCSP response. -/
def w5 (staple : List UInt8) : List UInt8 := if staple = [] then [] else en 2 5 ++ en 2 (1 + (3 + staple.length)) ++ (en 1 1 ++ en 3 staple.length ++ staple)
/-- What is written of timestamps. -/
def w18 (stamps : List (List UInt8)) : List UInt8 := if stamps = [] then [] else en 2 18 ++ en 2 (2 + (vecs 2 stamps).length) ++ (en 2 (vecs 2 stamps).length ++ vecs 2 stamps)
/-- What is written of certificates behind the first. -/
def wrest (L : List (List UInt8)) : List UInt8 := L.flatMap fun c => en 3 c.length ++ c ++ en 2 0
/-- What is written of all certificates. -/
def wcerts (f : C13) : List UInt8 := match f.certs with
  | [] => []
  | c :: L => en 3 c.length ++ c ++ en 2 (w5 f.staple ++ w18 f.stamps).length ++ (w5 f.staple ++ w18 f.stamps) ++ wrest L
/-- What is written of a Certificate. -/
def w13 (f : C13) : List UInt8 := en 1 11 ++ en 3 (1 + (3 + (wcerts f).length)) ++ (en 1 0 ++ en 3 (wcerts f).length ++ wcerts f)

theorem rd_en {k n : Nat} {r : List UInt8} : rd k (en k n ++ r) = some (en k n, r) := by
  have h := rd_append (en k n) r
  rwa [en_length] at h

theorem tvecs_len {k : Nat} : ∀ {n : Nat} {s : List UInt8} {L : List (List UInt8)}, tvecs k n s = some L → s = vecs k L ∧ ∀ x ∈ L, x ≠ [] ∧ x.length < 256 ^ k
  | 0, s, L, h => by
    unfold tvecs at h
    by_cases hs : s = []
    · rw [if_pos hs] at h; cases h; exact ⟨hs, fun x hx => by cases hx⟩
    · rw [if_neg hs] at h; cases h
  | n + 1, s, L, h => by
    by_cases hs : s = []
    · unfold tvecs at h; rw [if_pos hs] at h; cases h; exact ⟨hs, fun x hx => by cases hx⟩
    · rw [tvecs_succ hs] at h
      obtain ⟨⟨x, r⟩, h1, h2⟩ := Option.bind_eq_some_iff.1 h
      by_cases hx : x = []
      · rw [if_pos hx] at h2; cases h2
      · rw [if_neg hx] at h2
        obtain ⟨L', h3, rfl⟩ := Option.map_eq_some_iff.1 h2
        obtain ⟨e1, e2⟩ := rdv_some h1
        obtain ⟨e3, e4⟩ := tvecs_len h3
        simp only at e3
        refine ⟨?_, fun y hy => ?_⟩
        · rw [e1, e3]; simp [vecs]
        · rcases List.mem_cons.1 hy with rfl | hy
          · exact ⟨hx, e2⟩
          · exact e4 y hy

theorem tvecs_vecs {k : Nat} : ∀ (L : List (List UInt8)) (n : Nat), (∀ x ∈ L, x ≠ [] ∧ x.length < 256 ^ k) → L.length ≤ n → tvecs k n (vecs k L) = some L
  | [], n, _, _ => by cases n <;> rfl
  | x :: L, n, h, hn => by
    obtain ⟨n, rfl⟩ : ∃ n', n = n' + 1 := ⟨n - 1, by simp at hn; omega⟩
    have hx := h x (by simp)
    have hne : vecs k (x :: L) ≠ [] := by
      intro e
      have h0 : (vecs k (x :: L)).length = 0 := by rw [e]; rfl
      have : 0 < x.length := List.length_pos_iff.2 hx.1
      simp [vecs] at h0
      exact hx.1 h0.2.1
    have e : vecs k (x :: L) = en k x.length ++ x ++ vecs k L := by simp [vecs]
    rw [tvecs_succ hne, e, rdv_append hx.2, Option.bind_some]
    simp only
    rw [if_neg hx.1, tvecs_vecs L n (fun y hy => h y (by simp [hy])) (by simp at hn; omega)]
    rfl

theorem vecs_many {k : Nat} (hk : 0 < k) : ∀ L : List (List UInt8), L.length ≤ (vecs k L).length
  | [] => by simp
  | x :: L => by
    have := vecs_many hk L
    have e : vecs k (x :: L) = en k x.length ++ x ++ vecs k L := by simp [vecs]
    rw [e]
    simp [en_length]; omega

/-- What the fields cost when they are written; a further measure of what was read. -/
def cost (f : C13) : Nat := (w5 f.staple).length + (w18 f.stamps).length

theorem w5_len (s : List UInt8) : (w5 s).length ≤ 8 + s.length ∧ (s ≠ [] → (w5 s).length = 8 + s.length) := by
  unfold w5
  split
  · rename_i h; exact ⟨by simp, fun h2 => absurd h h2⟩
  · have : (en 2 5 ++ en 2 (1 + (3 + s.length)) ++ (en 1 1 ++ en 3 s.length ++ s)).length = 8 + s.length := by simp [en_length]; omega
    exact ⟨by omega, fun _ => this⟩
theorem w18_len (L : List (List UInt8)) : (w18 L).length ≤ 6 + (vecs 2 L).length ∧ (L ≠ [] → (w18 L).length = 6 + (vecs 2 L).length) := by
  unfold w18
  split
  · rename_i h; exact ⟨by simp, fun h2 => absurd h h2⟩
  · have : (en 2 18 ++ en 2 (2 + (vecs 2 L).length) ++ (en 2 (vecs 2 L).length ++ vecs 2 L)).length = 6 + (vecs 2 L).length := by simp [en_length]; omega
    exact ⟨by omega, fun _ => this⟩

/-- What is right of fields that were read. -/
def Sound (f : C13) : Prop := (∀ x ∈ f.stamps, x ≠ [] ∧ x.length < 256 ^ 2) ∧ f.staple.length < 256 ^ 3 ∧ ∀ c ∈ f.certs, c.length < 256 ^ 3

theorem vecs_append (k : Nat) (L M : List (List UInt8)) : vecs k (L ++ M) = vecs k L ++ vecs k M := by simp [vecs]

theorem c13Ext_ok {f f' : C13} {ty : Nat} {d r : List UInt8} (h : c13Ext f ty d = some (f', r)) (hf : Sound f) : Sound f' ∧ f'.certs = f.certs ∧ cost f' ≤ cost f + 4 + d.length := by
  unfold c13Ext at h
  by_cases h5 : ty = 5
  · rw [if_pos h5] at h
    obtain ⟨t, h1, h2⟩ := Option.bind_eq_some_iff.1 h
    by_cases hb : be t.1 = 1
    · rw [if_pos hb] at h2
      obtain ⟨⟨x, rr⟩, h3, h4⟩ := Option.bind_eq_some_iff.1 h2
      by_cases hx : x = []
      · rw [if_pos hx] at h4; cases h4
      · rw [if_neg hx] at h4
        cases h4
        obtain ⟨e1, e2⟩ := rdv_some h3
        obtain ⟨e3, e4⟩ := rd_some h1
        refine ⟨⟨hf.1, e2, hf.2.2⟩, rfl, ?_⟩
        have hl : d.length = 1 + (3 + x.length + rr.length) := by rw [e3, e1]; simp [e4, en_length]; try omega
        have := (w5_len x).1
        unfold cost
        simp only
        omega
    · rw [if_neg hb] at h2; cases h2
  · rw [if_neg h5] at h
    by_cases h18 : ty = 18
    · rw [if_pos h18] at h
      obtain ⟨⟨l, rr⟩, h1, h2⟩ := Option.bind_eq_some_iff.1 h
      by_cases hl : l = []
      · rw [if_pos hl] at h2; cases h2
      · rw [if_neg hl] at h2
        obtain ⟨L, h3, h4⟩ := Option.map_eq_some_iff.1 h2
        cases h4
        obtain ⟨e1, e2⟩ := tvecs_len h3
        obtain ⟨e3, _⟩ := rdv_some h1
        refine ⟨⟨fun x hx => ?_, hf.2.1, hf.2.2⟩, rfl, ?_⟩
        · rcases List.mem_append.1 hx with hx | hx
          · exact hf.1 x hx
          · exact e2 x hx
        · have hd : d.length = 2 + l.length + rr.length := by rw [e3]; simp [en_length]; omega
          have h6 : (vecs 2 (f.stamps ++ L)).length = (vecs 2 f.stamps).length + l.length := by rw [vecs_append, List.length_append, ← e1]
          have h7 := (w18_len (f.stamps ++ L)).1
          have h8 := w18_len f.stamps
          unfold cost
          simp only
          by_cases hs : f.stamps = []
          · have h9 : (vecs 2 f.stamps).length = 0 := by rw [hs]; rfl
            omega
          · have h9 := h8.2 hs
            omega
    · rw [if_neg h18] at h
      cases h
      exact ⟨hf, rfl, by unfold cost; omega⟩

theorem c13Exts_ok : ∀ {n : Nat} {f f' : C13} {s : List UInt8}, c13Exts n f s = some f' → Sound f → Sound f' ∧ f'.certs = f.certs ∧ cost f' ≤ cost f + s.length ∧ (1 < f.certs.length → f' = f)
  | 0, f, f', s, h, hf => by
    unfold c13Exts at h
    by_cases hs : s = []
    · rw [if_pos hs] at h; cases h; exact ⟨hf, rfl, by omega, fun _ => rfl⟩
    · rw [if_neg hs] at h; cases h
  | n + 1, f, f', s, h, hf => by
    by_cases hs : s = []
    · rw [hs, c13Exts_nil] at h; cases h; exact ⟨hf, rfl, by omega, fun _ => rfl⟩
    · rw [c13Exts_succ hs] at h
      obtain ⟨t, h1, h2⟩ := Option.bind_eq_some_iff.1 h
      obtain ⟨⟨d, r⟩, h3, h4⟩ := Option.bind_eq_some_iff.1 h2
      obtain ⟨e1, e2⟩ := rd_some h1
      obtain ⟨e3, e4⟩ := rdv_some h3
      simp only at e3 h4
      have hl : s.length = 2 + (2 + d.length + r.length) := by rw [e1, e3]; simp [e2, en_length]; omega
      by_cases hc : 1 < f.certs.length
      · rw [if_pos hc] at h4
        obtain ⟨k1, k2, k3, k4⟩ := c13Exts_ok h4 hf
        exact ⟨k1, k2, by omega, k4⟩
      · rw [if_neg hc] at h4
        obtain ⟨⟨f1, r1⟩, h5, h6⟩ := Option.bind_eq_some_iff.1 h4
        by_cases hr : r1 = []
        · rw [if_pos hr] at h6
          obtain ⟨j1, j2, j3⟩ := c13Ext_ok h5 hf
          obtain ⟨k1, k2, k3, _⟩ := c13Exts_ok h6 j1
          exact ⟨k1, k2.trans j2, by simp only at k3 j3; omega, fun hc' => absurd hc' hc⟩
        · rw [if_neg hr] at h6; cases h6

theorem wrest_append (L M : List (List UInt8)) : wrest (L ++ M) = wrest L ++ wrest M := by simp [wrest]

theorem c13Certs_ok : ∀ {n : Nat} {f f' : C13} {s : List UInt8}, c13Certs n f s = some f' → Sound f → (f.certs = [] → f.staple = [] ∧ f.stamps = []) →
    Sound f' ∧ (f'.certs = [] → f'.staple = [] ∧ f'.stamps = []) ∧ (wcerts f').length ≤ (wcerts f).length + s.length
  | 0, f, f', s, h, hf, h0 => by
    unfold c13Certs at h
    by_cases hs : s = []
    · rw [if_pos hs] at h; cases h; exact ⟨hf, h0, by omega⟩
    · rw [if_neg hs] at h; cases h
  | n + 1, f, f', s, h, hf, h0 => by
    by_cases hs : s = []
    · rw [hs, c13Certs_nil] at h; cases h; exact ⟨hf, h0, by omega⟩
    · rw [c13Certs_succ hs] at h
      obtain ⟨⟨c, r⟩, h1, h2⟩ := Option.bind_eq_some_iff.1 h
      obtain ⟨⟨e, r2⟩, h3, h4⟩ := Option.bind_eq_some_iff.1 h2
      obtain ⟨f1, h5, h6⟩ := Option.bind_eq_some_iff.1 h4
      obtain ⟨e1, e2⟩ := rdv_some h1
      obtain ⟨e3, e4⟩ := rdv_some h3
      simp only at e3
      have hl : s.length = 3 + c.length + (2 + e.length + r2.length) := by rw [e1, e3]; simp [en_length]; omega
      have hs1 : Sound { f with certs := f.certs ++ [c] } := ⟨hf.1, hf.2.1, fun x hx => by
        rcases List.mem_append.1 hx with hx | hx
        · exact hf.2.2 x hx
        · simp only [List.mem_singleton] at hx; subst hx; exact e2⟩
      obtain ⟨k1, k2, k3, k4⟩ := c13Exts_ok h5 hs1
      simp only at k2 k3 k4
      have hne : f1.certs ≠ [] := by rw [k2]; simp
      obtain ⟨j1, j2, j3⟩ := c13Certs_ok h6 k1 (fun e => absurd e hne)
      refine ⟨j1, j2, ?_⟩
      have hw : (wcerts f1).length ≤ (wcerts f).length + (3 + c.length + 2 + e.length) := by
        cases hfc : f.certs with
        | nil =>
          obtain ⟨z1, z2⟩ := h0 hfc
          have hz : cost f = 0 := by unfold cost; rw [z1, z2]; rfl
          have hz2 : cost { f with certs := f.certs ++ [c] } = 0 := hz
          have : f1.certs = [c] := by rw [k2, hfc]; rfl
          unfold wcerts
          rw [this, hfc]
          have hcost : (w5 f1.staple).length + (w18 f1.stamps).length ≤ e.length := by
            have : cost f1 ≤ e.length := by omega
            exact this
          simp [en_length, wrest]
          omega
        | cons c0 L =>
          have hlen : 1 < (f.certs ++ [c]).length := by rw [hfc]; simp
          have hfe := k4 hlen
          rw [hfe]
          unfold wcerts
          rw [hfc]
          simp only [List.cons_append]
          rw [wrest_append]
          have : (wrest [c]).length = 3 + c.length + 2 := by simp [wrest, en_length]; omega
          simp only [List.length_append]
          omega
      simp only at j3
      omega

/-- Reading what was written of extensions. -/
theorem exts_w (certs : List (List UInt8)) (hc : ¬ 1 < certs.length) (staple : List UInt8) (stamps : List (List UInt8)) (hs : staple.length < 60000) (ht : (vecs 2 stamps).length < 60000) (hst : ∀ x ∈ stamps, x ≠ [] ∧ x.length < 256 ^ 2) (n : Nat) (hn : 2 ≤ n) :
    c13Exts n ⟨certs, [], []⟩ (w5 staple ++ w18 stamps) = some ⟨certs, staple, stamps⟩ := by
  have e18 : ∀ (n : Nat) (st : List UInt8), 1 ≤ n → c13Exts n ⟨certs, st, []⟩ (w18 stamps) = some ⟨certs, st, stamps⟩ := by
    intro n st hn
    by_cases h : stamps = []
    · subst h; unfold w18; rw [if_pos rfl, c13Exts_nil]
    · obtain ⟨n, rfl⟩ : ∃ n', n = n' + 1 := ⟨n - 1, by omega⟩
      obtain ⟨V, hV⟩ : ∃ V, V = vecs 2 stamps := ⟨_, rfl⟩
      have e : w18 stamps = en 2 18 ++ (en 2 (en 2 V.length ++ V).length ++ (en 2 V.length ++ V) ++ []) := by
        unfold w18; rw [if_neg h, ← hV]; simp [en_length]
      have hne : w18 stamps ≠ [] := by rw [e]; simp [en]
      have hll : (en 2 V.length ++ V).length < 256 ^ 2 := by simp [en_length, hV]; omega
      have h1 : rdv 2 (en 2 V.length ++ V) = some (V, []) := by
        have := rdv_append (k := 2) (x := V) (r := []) (by rw [hV]; omega)
        simpa using this
      have hVne : V ≠ [] := by
        rw [hV]; intro e
        have h0 := vecs_many (k := 2) (by omega) stamps
        rw [e] at h0
        exact h (List.length_eq_zero_iff.1 (by simpa using h0))
      rw [c13Exts_succ hne, e, rd_en, Option.bind_some, rdv_append hll, Option.bind_some]
      simp only
      rw [if_neg hc]
      have hb : be (en 2 18) = 18 := by rw [be_en]
      rw [hb]
      unfold c13Ext
      rw [if_neg (by decide), if_pos rfl, h1, Option.bind_some]
      simp only
      rw [if_neg hVne, hV, tvecs_vecs stamps _ hst (vecs_many (by omega) stamps)]
      simp [c13Exts_nil]
  by_cases h : staple = []
  · subst h
    have : w5 [] = [] := rfl
    rw [this, List.nil_append]
    exact e18 n [] (by omega)
  · obtain ⟨n, rfl⟩ : ∃ n', n = n' + 1 := ⟨n - 1, by omega⟩
    obtain ⟨V, hV⟩ : ∃ V, V = en 1 1 ++ (en 3 staple.length ++ staple) := ⟨_, rfl⟩
    have e : w5 staple ++ w18 stamps = en 2 5 ++ (en 2 V.length ++ V ++ w18 stamps) := by
      unfold w5; rw [if_neg h, hV]; simp [en_length]
    have hne : w5 staple ++ w18 stamps ≠ [] := by rw [e]; simp [en]
    have hll : V.length < 256 ^ 2 := by rw [hV]; simp [en_length]; omega
    have h1 : rdv 3 (en 3 staple.length ++ staple) = some (staple, []) := by
      have := rdv_append (k := 3) (x := staple) (r := []) (by omega)
      simpa using this
    rw [c13Exts_succ hne, e, rd_en, Option.bind_some, rdv_append hll, Option.bind_some]
    simp only
    rw [if_neg hc]
    have hb : be (en 2 5) = 5 := by rw [be_en]
    have hb1 : be (en 1 1) = 1 := by rw [be_en]
    rw [hb]
    unfold c13Ext
    rw [if_pos rfl, hV, rd_en, Option.bind_some]
    simp only
    rw [hb1, if_pos rfl, h1, Option.bind_some]
    simp only
    rw [if_neg h, Option.bind_some]
    simp only
    rw [if_pos trivial]
    exact e18 n staple (by omega)

theorem certs_rest : ∀ (L : List (List UInt8)) (f : C13) (n : Nat), f.certs ≠ [] → (∀ c ∈ L, c.length < 256 ^ 3) → L.length ≤ n → c13Certs n f (wrest L) = some { f with certs := f.certs ++ L }
  | [], f, n, _, _, _ => by
    rw [show wrest [] = [] from rfl, c13Certs_nil]; simp
  | c :: L, f, n, hf, hL, hn => by
    obtain ⟨n, rfl⟩ : ∃ n', n = n' + 1 := ⟨n - 1, by simp at hn; omega⟩
    have e : wrest (c :: L) = en 3 c.length ++ c ++ (en 2 ([] : List UInt8).length ++ [] ++ wrest L) := by simp [wrest]
    have hne : wrest (c :: L) ≠ [] := by rw [e]; simp [en]
    rw [c13Certs_succ hne, e, rdv_append (hL c (by simp)), Option.bind_some]
    simp only
    rw [rdv_append (k := 2) (x := []) (r := wrest L) (by decide), Option.bind_some]
    simp only
    rw [c13Exts_nil, Option.bind_some]
    have := certs_rest L { f with certs := f.certs ++ [c] } n (by simp) (fun x hx => hL x (by simp [hx])) (by simp at hn; omega)
    rw [this]
    simp

theorem wrest_many : ∀ L : List (List UInt8), L.length ≤ (wrest L).length
  | [] => by simp
  | c :: L => by
    have := wrest_many L
    have e : wrest (c :: L) = en 3 c.length ++ c ++ en 2 0 ++ wrest L := by simp [wrest]
    rw [e]
    simp [en_length]; omega

theorem certs_w (f : C13) (hs : Sound f) (h0 : f.certs = [] → f.staple = [] ∧ f.stamps = []) (hl : (wcerts f).length < 60000) : c13Certs (wcerts f).length {} (wcerts f) = some f := by
  obtain ⟨certs, staple, stamps⟩ := f
  cases certs with
  | nil =>
    obtain ⟨h1, h2⟩ := h0 rfl
    simp only at h1 h2
    subst h1; subst h2
    rfl
  | cons c L =>
    obtain ⟨x, hx⟩ : ∃ x, x = w5 staple ++ w18 stamps := ⟨_, rfl⟩
    have e : wcerts ⟨c :: L, staple, stamps⟩ = en 3 c.length ++ c ++ (en 2 x.length ++ x ++ wrest L) := by
      unfold wcerts; simp only [← hx]; simp
    have hlen : (wcerts ⟨c :: L, staple, stamps⟩).length = 3 + c.length + (2 + x.length + (wrest L).length) := by rw [e]; simp [en_length]; omega
    have hxl : x.length = (w5 staple).length + (w18 stamps).length := by rw [hx]; simp
    have hst : staple.length < 60000 := by
      by_cases hz : staple = []
      · rw [hz]; decide
      · have := (w5_len staple).2 hz; omega
    have hsm : (vecs 2 stamps).length < 60000 := by
      by_cases hz : stamps = []
      · rw [hz]; decide
      · have := (w18_len stamps).2 hz; omega
    have hc3 := hs.2.2 c (by simp)
    have hne : wcerts ⟨c :: L, staple, stamps⟩ ≠ [] := by rw [e]; simp [en]
    obtain ⟨n, hn⟩ : ∃ n, (wcerts ⟨c :: L, staple, stamps⟩).length = n + 1 := ⟨_, (Nat.succ_pred_eq_of_pos (by omega)).symm⟩
    rw [hn, c13Certs_succ hne, e, rdv_append hc3, Option.bind_some]
    simp only
    rw [rdv_append (k := 2) (x := x) (by omega), Option.bind_some]
    simp only [List.nil_append]
    have hwr := wrest_many L
    have hce : c13Exts x.length ⟨[c], [], []⟩ x = some ⟨[c], staple, stamps⟩ := by
      by_cases hx0 : x = []
      · have h5 : staple = [] := by
          by_cases hz : staple = []
          · exact hz
          · have := (w5_len staple).2 hz
            have hxz : x.length = 0 := by rw [hx0]; rfl
            omega
        have h6 : stamps = [] := by
          by_cases hz : stamps = []
          · exact hz
          · have := (w18_len stamps).2 hz
            have hxz : x.length = 0 := by rw [hx0]; rfl
            omega
        rw [hx0, c13Exts_nil, h5, h6]
      · have h2 : 2 ≤ x.length := by
          by_cases hz : staple = []
          · by_cases hz2 : stamps = []
            · exfalso; apply hx0; rw [hx, hz, hz2]; rfl
            · have := (w18_len stamps).2 hz2; omega
          · have := (w5_len staple).2 hz; omega
        have h3 := exts_w [c] (by simp) staple stamps hst hsm hs.1 x.length h2
        rw [← hx] at h3
        exact h3
    rw [hce, Option.bind_some, certs_rest L ⟨[c], staple, stamps⟩ n (by simp) (fun y hy => hs.2.2 y (by simp [hy])) (by omega)]
    rfl

/-- What was read is written, and read again as it was. -/
theorem c13_again {bs : List UInt8} {f : C13} (h : c13Read bs = some f) (hl : bs.length ≤ 60000) : c13Read (w13 f) = some f ∧ (wcerts f).length ≤ 59992 ∧ Sound f ∧ (f.certs = [] → f.staple = [] ∧ f.stamps = []) := by
  unfold c13Read at h
  obtain ⟨⟨a, r⟩, h1, h2⟩ := Option.bind_eq_some_iff.1 h
  obtain ⟨⟨c, r2⟩, h3, h4⟩ := Option.bind_eq_some_iff.1 h2
  by_cases hc : c = []
  · rw [if_pos hc] at h4
    obtain ⟨⟨l, r3⟩, h5, h6⟩ := Option.bind_eq_some_iff.1 h4
    obtain ⟨f1, h7, h8⟩ := Option.bind_eq_some_iff.1 h6
    by_cases hr : r3 = []
    · rw [if_pos hr] at h8
      cases h8
      obtain ⟨e1, e2⟩ := rd_some h1
      obtain ⟨e3, _⟩ := rdv_some h3
      obtain ⟨e5, _⟩ := rdv_some h5
      simp only at e3 e5 h7
      have hbl : bs.length = 4 + (1 + c.length + (3 + l.length + r3.length)) := by rw [e1, e3, e5]; simp [e2, en_length]; omega
      obtain ⟨k1, k2, k3⟩ := c13Certs_ok h7 ⟨(fun x hx => by cases hx), by decide, (fun x hx => by cases hx)⟩ (fun _ => ⟨rfl, rfl⟩)
      have hwl : (wcerts f).length ≤ 59992 := by
        have : (wcerts ({} : C13)).length = 0 := rfl
        omega
      refine ⟨?_, hwl, k1, k2⟩
      obtain ⟨V, hV⟩ : ∃ V, V = wcerts f := ⟨_, rfl⟩
      have e : w13 f = (en 1 11 ++ en 3 (1 + (3 + V.length))) ++ (en 1 ([] : List UInt8).length ++ [] ++ (en 3 V.length ++ V ++ [])) := by
        unfold w13; rw [← hV]; simp
      have h4' : rd 4 (w13 f) = some (en 1 11 ++ en 3 (1 + (3 + V.length)), en 1 ([] : List UInt8).length ++ [] ++ (en 3 V.length ++ V ++ [])) := by
        have h := rd_append (en 1 11 ++ en 3 (1 + (3 + V.length))) (en 1 ([] : List UInt8).length ++ [] ++ (en 3 V.length ++ V ++ []))
        rw [← e] at h
        have hl4 : (en 1 11 ++ en 3 (1 + (3 + V.length))).length = 4 := by simp [en_length]
        rwa [hl4] at h
      unfold c13Read
      rw [h4', Option.bind_some]
      simp only
      rw [rdv_append (k := 1) (x := []) (by decide), Option.bind_some]
      simp only
      rw [if_pos trivial, rdv_append (k := 3) (x := V) (by rw [hV]; omega), Option.bind_some]
      simp only
      rw [hV, certs_w f k1 k2 (by omega)]
      rfl
    · rw [if_neg hr] at h8; cases h8
  · rw [if_neg hc] at h4; cases h4

end Go.Proofs.Ytopcljikkdlffaa
namespace Go.Proofs.Ytopcljikkdlffaa

/-- The fields of a ClientHello. -/
structure CH where
  vers : Nat := 0
  random : List UInt8 := []
  session : List UInt8 := []
  suites : List Nat := []
  comps : List UInt8 := []
  name : List UInt8 := []
  ocsp : Bool := false
  curves : List Nat := []
  points : List UInt8 := []
  ticket : Bool := false
  tickets : List UInt8 := []
  sigs : List Nat := []
  sigsC : List Nat := []
  srs : Bool := false
  sr : List UInt8 := []
  ems : Bool := false
  alpn : List (List UInt8) := []
  scts : Bool := false
  vers13 : List Nat := []
  cookie : List UInt8 := []
  shares : List (Nat × List UInt8) := []
  early : Bool := false
  modes : List UInt8 := []
  psks : List (List UInt8 × Nat) := []
  binders : List (List UInt8) := []
  quic : Option (List UInt8) := none
  ech : List UInt8 := []
  exts : List Nat := []

/-- Numbers of 16 bits until nothing is left. -/
def twords : Nat → List UInt8 → Option (List Nat)
  | 0, s => if s = [] then some [] else none
  | n + 1, s => if s = [] then some [] else (rd 2 s).bind fun y => (twords n y.2).map (be y.1 :: ·)

theorem twords_nil (n : Nat) : twords n [] = some [] := by cases n <;> rfl
theorem twords_succ {n : Nat} {s : List UInt8} (h : s ≠ []) : twords (n + 1) s = (rd 2 s).bind fun y => (twords n y.2).map (be y.1 :: ·) := by
  show (if s = [] then _ else _) = _
  rw [if_neg h]
theorem twords_many : ∀ {n : Nat} {s : List UInt8} {L : List Nat}, twords n s = some L → L.length ≤ s.length
  | n, [], L, h => by rw [twords_nil] at h; cases h; simp
  | 0, c :: s, L, h => by simp [twords] at h
  | n + 1, c :: s, L, h => by
    rw [twords_succ (by simp)] at h
    obtain ⟨⟨x, r⟩, h1, h2⟩ := Option.bind_eq_some_iff.1 h
    obtain ⟨L', h3, rfl⟩ := Option.map_eq_some_iff.1 h2
    have h4 := twords_many h3
    obtain ⟨e1, e2⟩ := rd_some h1
    have e3 : (c :: s).length = x.length + r.length := by rw [e1]; simp
    simp only [List.length_cons] at e3 ⊢
    simp only at h4
    omega

theorem tvecs_nil (k n : Nat) : tvecs k n [] = some [] := by cases n <;> rfl
theorem tvecs_many {k : Nat} (hk : 0 < k) {n : Nat} {s : List UInt8} {L : List (List UInt8)} (h : tvecs k n s = some L) : L.length ≤ s.length := by
  have h1 := vecs_many hk L
  rw [← (tvecs_len h).1] at h1
  exact h1

/-- Key shares until nothing is left. -/
def tshares : Nat → List UInt8 → Option (List (Nat × List UInt8))
  | 0, s => if s = [] then some [] else none
  | n + 1, s => if s = [] then some [] else (rd 2 s).bind fun y => (rdv 2 y.2).bind fun z => if z.1 = [] then none else (tshares n z.2).map ((be y.1, z.1) :: ·)

theorem tshares_nil (n : Nat) : tshares n [] = some [] := by cases n <;> rfl
theorem tshares_succ {n : Nat} {s : List UInt8} (h : s ≠ []) : tshares (n + 1) s = (rd 2 s).bind fun y => (rdv 2 y.2).bind fun z => if z.1 = [] then none else (tshares n z.2).map ((be y.1, z.1) :: ·) := by
  show (if s = [] then _ else _) = _
  rw [if_neg h]
theorem tshares_many : ∀ {n : Nat} {s : List UInt8} {L : List (Nat × List UInt8)}, tshares n s = some L → L.length ≤ s.length
  | n, [], L, h => by rw [tshares_nil] at h; cases h; simp
  | 0, c :: s, L, h => by simp [tshares] at h
  | n + 1, c :: s, L, h => by
    rw [tshares_succ (by simp)] at h
    obtain ⟨⟨x, r⟩, h1, h2⟩ := Option.bind_eq_some_iff.1 h
    obtain ⟨⟨y, r2⟩, h3, h4⟩ := Option.bind_eq_some_iff.1 h2
    by_cases hy : y = []
    · rw [if_pos hy] at h4; cases h4
    · rw [if_neg hy] at h4
      obtain ⟨L', h5, rfl⟩ := Option.map_eq_some_iff.1 h4
      have h6 := tshares_many h5
      obtain ⟨e1, e2⟩ := rd_some h1
      obtain ⟨e4, _⟩ := rdv_some h3
      have e3 : (c :: s).length = x.length + r.length := by rw [e1]; simp
      have e5 : r.length = 2 + y.length + r2.length := by simp only at e4; rw [e4]; simp [en_length]; omega
      simp only [List.length_cons] at e3 ⊢
      simp only at h6
      omega

/-- Pre-shared keys until nothing is left. -/
def tpsks : Nat → List UInt8 → Option (List (List UInt8 × Nat))
  | 0, s => if s = [] then some [] else none
  | n + 1, s => if s = [] then some [] else (rdv 2 s).bind fun y => (rd 4 y.2).bind fun z => if y.1 = [] then none else (tpsks n z.2).map ((y.1, be z.1) :: ·)

theorem tpsks_nil (n : Nat) : tpsks n [] = some [] := by cases n <;> rfl
theorem tpsks_succ {n : Nat} {s : List UInt8} (h : s ≠ []) : tpsks (n + 1) s = (rdv 2 s).bind fun y => (rd 4 y.2).bind fun z => if y.1 = [] then none else (tpsks n z.2).map ((y.1, be z.1) :: ·) := by
  show (if s = [] then _ else _) = _
  rw [if_neg h]
theorem tpsks_many : ∀ {n : Nat} {s : List UInt8} {L : List (List UInt8 × Nat)}, tpsks n s = some L → L.length ≤ s.length
  | n, [], L, h => by rw [tpsks_nil] at h; cases h; simp
  | 0, c :: s, L, h => by simp [tpsks] at h
  | n + 1, c :: s, L, h => by
    rw [tpsks_succ (by simp)] at h
    obtain ⟨⟨y, r⟩, h1, h2⟩ := Option.bind_eq_some_iff.1 h
    obtain ⟨⟨x, r2⟩, h3, h4⟩ := Option.bind_eq_some_iff.1 h2
    by_cases hy : y = []
    · rw [if_pos hy] at h4; cases h4
    · rw [if_neg hy] at h4
      obtain ⟨L', h5, rfl⟩ := Option.map_eq_some_iff.1 h4
      have h6 := tpsks_many h5
      obtain ⟨e4, _⟩ := rdv_some h1
      obtain ⟨e1, e2⟩ := rd_some h3
      have e5 : (c :: s).length = 2 + y.length + r.length := by rw [e4]; simp [en_length]; omega
      have e3 : r.length = x.length + r2.length := by simp only at e1; rw [e1]; simp
      simp only [List.length_cons] at e5 ⊢
      simp only at h6
      omega

/-- Names of servers until nothing is left: one of type 0 at most. -/
def tnames : Nat → List UInt8 → List UInt8 → Option (List UInt8)
  | 0, a, s => if s = [] then some a else none
  | n + 1, a, s => if s = [] then some a else (rd 1 s).bind fun y => (rdv 2 y.2).bind fun z => if z.1 = [] then none else if be y.1 ≠ 0 then tnames n a z.2 else
    if a ≠ [] then none else if z.1.getLast? = some 46 then none else tnames n z.1 z.2

theorem tnames_nil (n : Nat) (a : List UInt8) : tnames n a [] = some a := by cases n <;> rfl
theorem tnames_succ {n : Nat} {a s : List UInt8} (h : s ≠ []) : tnames (n + 1) a s = (rd 1 s).bind fun y => (rdv 2 y.2).bind fun z => if z.1 = [] then none else if be y.1 ≠ 0 then tnames n a z.2 else
    if a ≠ [] then none else if z.1.getLast? = some 46 then none else tnames n z.1 z.2 := by
  show (if s = [] then _ else _) = _
  rw [if_neg h]

/-- One extension: what becomes of the fields, and what is left of its bytes (nothing where its type is unknown); rest: the extensions behind it. -/
def chExt (f : CH) (ty : Nat) (d rest : List UInt8) : Option (CH × List UInt8) :=
  if ty = 0 then (rdv 2 d).bind fun l => if l.1 = [] then none else (tnames l.1.length f.name l.1).map fun x => ({ f with name := x }, l.2)
  else if ty = 5 then (rd 1 d).bind fun t => (rdv 2 t.2).bind fun a => (rdv 2 a.2).map fun b => ({ f with ocsp := decide (be t.1 = 1) }, b.2)
  else if ty = 10 then (rdv 2 d).bind fun l => if l.1 = [] then none else (twords l.1.length l.1).map fun x => ({ f with curves := f.curves ++ x }, l.2)
  else if ty = 11 then (rdv 1 d).bind fun x => if x.1 = [] then none else some ({ f with points := x.1 }, x.2)
  else if ty = 35 then some ({ f with ticket := true, tickets := d }, [])
  else if ty = 13 then (rdv 2 d).bind fun l => if l.1 = [] then none else (twords l.1.length l.1).map fun x => ({ f with sigs := f.sigs ++ x }, l.2)
  else if ty = 50 then (rdv 2 d).bind fun l => if l.1 = [] then none else (twords l.1.length l.1).map fun x => ({ f with sigsC := f.sigsC ++ x }, l.2)
  else if ty = 65281 then (rdv 1 d).map fun x => ({ f with sr := x.1, srs := true }, x.2)
  else if ty = 23 then some ({ f with ems := true }, d)
  else if ty = 16 then (rdv 2 d).bind fun l => if l.1 = [] then none else (tvecs 1 l.1.length l.1).map fun x => ({ f with alpn := f.alpn ++ x }, l.2)
  else if ty = 18 then some ({ f with scts := true }, d)
  else if ty = 43 then (rdv 1 d).bind fun l => if l.1 = [] then none else (twords l.1.length l.1).map fun x => ({ f with vers13 := f.vers13 ++ x }, l.2)
  else if ty = 44 then (rdv 2 d).bind fun x => if x.1 = [] then none else some ({ f with cookie := x.1 }, x.2)
  else if ty = 51 then (rdv 2 d).bind fun l => (tshares l.1.length l.1).map fun x => ({ f with shares := f.shares ++ x }, l.2)
  else if ty = 42 then some ({ f with early := true }, d)
  else if ty = 45 then (rdv 1 d).map fun x => ({ f with modes := x.1 }, x.2)
  else if ty = 57 then some ({ f with quic := some d }, [])
  else if ty = 41 then if rest ≠ [] then none else (rdv 2 d).bind fun l => if l.1 = [] then none else (tpsks l.1.length l.1).bind fun x =>
    (rdv 2 l.2).bind fun m => if m.1 = [] then none else (tvecs 1 m.1.length m.1).map fun y => ({ f with psks := f.psks ++ x, binders := f.binders ++ y }, m.2)
  else if ty = 65037 then some ({ f with ech := d }, [])
  else some (f, [])

/-- Extensions until nothing is left. -/
def chExts : Nat → List Nat → CH → List UInt8 → Option CH
  | 0, _, f, s => if s = [] then some f else none
  | n + 1, seen, f, s => if s = [] then some f else
    (rd 2 s).bind fun t => (rdv 2 t.2).bind fun d => if be t.1 ∈ seen then none else
      (chExt { f with exts := f.exts ++ [be t.1] } (be t.1) d.1 d.2).bind fun y => if y.2 = [] then chExts n (be t.1 :: seen) y.1 d.2 else none

theorem chExts_nil (n : Nat) (seen : List Nat) (f : CH) : chExts n seen f [] = some f := by cases n <;> rfl
theorem chExts_succ {n : Nat} {seen : List Nat} {f : CH} {s : List UInt8} (h : s ≠ []) : chExts (n + 1) seen f s = (rd 2 s).bind fun t => (rdv 2 t.2).bind fun d => if be t.1 ∈ seen then none else
      (chExt { f with exts := f.exts ++ [be t.1] } (be t.1) d.1 d.2).bind fun y => if y.2 = [] then chExts n (be t.1 :: seen) y.1 d.2 else none := by
  show (if s = [] then _ else _) = _
  rw [if_neg h]

/-- The head of a ClientHello, and what is left behind it. -/
def chHead (bs : List UInt8) : Option (CH × List UInt8) :=
  (rd 4 bs).bind fun h => (rd 2 h.2).bind fun v => (rd 32 v.2).bind fun r => (rdv 1 r.2).bind fun s => (rdv 2 s.2).bind fun c => (twords c.1.length c.1).bind fun l => (rdv 1 c.2).map fun k =>
    ({ vers := be v.1, random := r.1, session := s.1, suites := l, srs := decide (255 ∈ l), comps := k.1 }, k.2)

/-- A ClientHello. -/
def chRead (bs : List UInt8) : Option CH :=
  (chHead bs).bind fun h => if h.2 = [] then some h.1 else
    (rdv 2 h.2).bind fun e => if e.2 = [] then chExts e.1.length [] h.1 e.1 else none

/-- No list of it is too long, even with n more. -/
structure CH.most (f : CH) (n : Nat) : Prop where
  suites : f.suites.length + n ≤ 4294967296
  curves : f.curves.length + n ≤ 4294967296
  sigs : f.sigs.length + n ≤ 4294967296
  sigsC : f.sigsC.length + n ≤ 4294967296
  alpn : f.alpn.length + n ≤ 4294967296
  vers13 : f.vers13.length + n ≤ 4294967296
  shares : f.shares.length + n ≤ 4294967296
  psks : f.psks.length + n ≤ 4294967296
  binders : f.binders.length + n ≤ 4294967296
  exts : f.exts.length + n ≤ 4294967296

theorem CH.most.le {f : CH} {n k : Nat} (h : f.most n) (hk : k ≤ n) : f.most k := by
  obtain ⟨h1, h2, h3, h4, h5, h6, h7, h8, h9, h10⟩ := h
  constructor <;> omega

theorem chExt_most {f f' : CH} {ty n : Nat} {d rest r : List UInt8} (h : chExt f ty d rest = some (f', r)) (hm : f.most (d.length + n)) : f'.most n := by
  have dl2 : ∀ {x r : List UInt8} {d : List UInt8}, rdv 2 d = some (x, r) → x.length ≤ d.length ∧ r.length ≤ d.length := by
    intro x r d h; rw [(rdv_some h).1]; simp; omega
  have dl1 : ∀ {x r : List UInt8} {d : List UInt8}, rdv 1 d = some (x, r) → x.length ≤ d.length := by
    intro x r d h; rw [(rdv_some h).1]; simp; omega
  obtain ⟨m1, m2, m3, m4, m5, m6, m7, m8, m9, m10⟩ := hm
  unfold chExt at h
  by_cases k1 : ty = 0
  · rw [if_pos k1] at h
    obtain ⟨l, h1, h2⟩ := Option.bind_eq_some_iff.1 h
    by_cases hl : l.1 = []
    · rw [if_pos hl] at h2; cases h2
    · rw [if_neg hl] at h2
      obtain ⟨x, h3, h4⟩ := Option.map_eq_some_iff.1 h2
      cases h4
      constructor <;> dsimp only <;> omega
  rw [if_neg k1] at h
  by_cases k2 : ty = 5
  · rw [if_pos k2] at h
    obtain ⟨l, h1, h2⟩ := Option.bind_eq_some_iff.1 h
    obtain ⟨l2, h3, h4⟩ := Option.bind_eq_some_iff.1 h2
    obtain ⟨x, h5, h6⟩ := Option.map_eq_some_iff.1 h4
    cases h6
    constructor <;> dsimp only <;> omega
  rw [if_neg k2] at h
  by_cases k3 : ty = 10
  · rw [if_pos k3] at h
    obtain ⟨⟨l, l2⟩, h1, h2⟩ := Option.bind_eq_some_iff.1 h
    by_cases hl : l = []
    · rw [if_pos hl] at h2; cases h2
    · rw [if_neg hl] at h2
      obtain ⟨x, h3, h4⟩ := Option.map_eq_some_iff.1 h2
      cases h4
      have := twords_many h3
      have := dl2 h1
      constructor <;> (try simp only [List.length_append]) <;> dsimp only at * <;> omega
  rw [if_neg k3] at h
  by_cases k4 : ty = 11
  · rw [if_pos k4] at h
    obtain ⟨l, h1, h2⟩ := Option.bind_eq_some_iff.1 h
    by_cases hl : l.1 = []
    · rw [if_pos hl] at h2; cases h2
    · rw [if_neg hl] at h2
      cases h2
      constructor <;> dsimp only <;> omega
  rw [if_neg k4] at h
  by_cases k5 : ty = 35
  · rw [if_pos k5] at h
    cases h
    constructor <;> dsimp only <;> omega
  rw [if_neg k5] at h
  by_cases k6 : ty = 13
  · rw [if_pos k6] at h
    obtain ⟨⟨l, l2⟩, h1, h2⟩ := Option.bind_eq_some_iff.1 h
    by_cases hl : l = []
    · rw [if_pos hl] at h2; cases h2
    · rw [if_neg hl] at h2
      obtain ⟨x, h3, h4⟩ := Option.map_eq_some_iff.1 h2
      cases h4
      have := twords_many h3
      have := dl2 h1
      constructor <;> (try simp only [List.length_append]) <;> dsimp only at * <;> omega
  rw [if_neg k6] at h
  by_cases k7 : ty = 50
  · rw [if_pos k7] at h
    obtain ⟨⟨l, l2⟩, h1, h2⟩ := Option.bind_eq_some_iff.1 h
    by_cases hl : l = []
    · rw [if_pos hl] at h2; cases h2
    · rw [if_neg hl] at h2
      obtain ⟨x, h3, h4⟩ := Option.map_eq_some_iff.1 h2
      cases h4
      have := twords_many h3
      have := dl2 h1
      constructor <;> (try simp only [List.length_append]) <;> dsimp only at * <;> omega
  rw [if_neg k7] at h
  by_cases k8 : ty = 65281
  · rw [if_pos k8] at h
    obtain ⟨x, h3, h4⟩ := Option.map_eq_some_iff.1 h
    cases h4
    constructor <;> dsimp only <;> omega
  rw [if_neg k8] at h
  by_cases k9 : ty = 23
  · rw [if_pos k9] at h
    cases h
    constructor <;> dsimp only <;> omega
  rw [if_neg k9] at h
  by_cases k10 : ty = 16
  · rw [if_pos k10] at h
    obtain ⟨⟨l, l2⟩, h1, h2⟩ := Option.bind_eq_some_iff.1 h
    by_cases hl : l = []
    · rw [if_pos hl] at h2; cases h2
    · rw [if_neg hl] at h2
      obtain ⟨x, h3, h4⟩ := Option.map_eq_some_iff.1 h2
      cases h4
      have := tvecs_many (by decide) h3
      have := dl2 h1
      constructor <;> (try simp only [List.length_append]) <;> dsimp only at * <;> omega
  rw [if_neg k10] at h
  by_cases k11 : ty = 18
  · rw [if_pos k11] at h
    cases h
    constructor <;> dsimp only <;> omega
  rw [if_neg k11] at h
  by_cases k12 : ty = 43
  · rw [if_pos k12] at h
    obtain ⟨⟨l, l2⟩, h1, h2⟩ := Option.bind_eq_some_iff.1 h
    by_cases hl : l = []
    · rw [if_pos hl] at h2; cases h2
    · rw [if_neg hl] at h2
      obtain ⟨x, h3, h4⟩ := Option.map_eq_some_iff.1 h2
      cases h4
      have := twords_many h3
      have := dl1 h1
      constructor <;> (try simp only [List.length_append]) <;> dsimp only at * <;> omega
  rw [if_neg k12] at h
  by_cases k13 : ty = 44
  · rw [if_pos k13] at h
    obtain ⟨l, h1, h2⟩ := Option.bind_eq_some_iff.1 h
    by_cases hl : l.1 = []
    · rw [if_pos hl] at h2; cases h2
    · rw [if_neg hl] at h2
      cases h2
      constructor <;> dsimp only <;> omega
  rw [if_neg k13] at h
  by_cases k14 : ty = 51
  · rw [if_pos k14] at h
    obtain ⟨⟨l, l2⟩, h1, h2⟩ := Option.bind_eq_some_iff.1 h
    obtain ⟨x, h3, h4⟩ := Option.map_eq_some_iff.1 h2
    cases h4
    have := tshares_many h3
    have := dl2 h1
    constructor <;> (try simp only [List.length_append]) <;> dsimp only at * <;> omega
  rw [if_neg k14] at h
  by_cases k15 : ty = 42
  · rw [if_pos k15] at h
    cases h
    constructor <;> dsimp only <;> omega
  rw [if_neg k15] at h
  by_cases k16 : ty = 45
  · rw [if_pos k16] at h
    obtain ⟨x, h3, h4⟩ := Option.map_eq_some_iff.1 h
    cases h4
    constructor <;> dsimp only <;> omega
  rw [if_neg k16] at h
  by_cases k17 : ty = 57
  · rw [if_pos k17] at h
    cases h
    constructor <;> dsimp only <;> omega
  rw [if_neg k17] at h
  by_cases k18 : ty = 41
  · rw [if_pos k18] at h
    by_cases hr : rest ≠ []
    · rw [if_pos hr] at h; cases h
    rw [if_neg hr] at h
    obtain ⟨⟨l, l2⟩, h1, h2⟩ := Option.bind_eq_some_iff.1 h
    by_cases hl : l = []
    · rw [if_pos hl] at h2; cases h2
    · rw [if_neg hl] at h2
      obtain ⟨x, h3, h4⟩ := Option.bind_eq_some_iff.1 h2
      obtain ⟨⟨q, q2⟩, h5, h6⟩ := Option.bind_eq_some_iff.1 h4
      by_cases hq : q = []
      · rw [if_pos hq] at h6; cases h6
      · rw [if_neg hq] at h6
        obtain ⟨y, h7, h8⟩ := Option.map_eq_some_iff.1 h6
        cases h8
        have := tpsks_many h3
        have := tvecs_many (by decide) h7
        have := dl2 h1
        have := dl2 h5
        constructor <;> (try simp only [List.length_append]) <;> dsimp only at * <;> omega
  rw [if_neg k18] at h
  by_cases k19 : ty = 65037
  · rw [if_pos k19] at h
    cases h
    constructor <;> dsimp only <;> omega
  rw [if_neg k19] at h
  cases h
  constructor <;> omega

end Go.Proofs.Ytopcljikkdlffaa
