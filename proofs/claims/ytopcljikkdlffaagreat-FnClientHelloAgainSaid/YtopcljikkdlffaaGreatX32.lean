/- A ClientHello that is made is read again as it was. No program and no memory stand here. No statement of the seat is proved here. -/
import Derived.Test.YtopcljikkdlffaaGreatX11
namespace Go.Proofs.YtopcljikkdlffaaGreat

/-- The extensions of a list, one behind the other; R: what stands behind them. -/
def foldC (R : List UInt8) : List (Nat × List UInt8) → CH → Option CH
  | [], f => some f
  | e :: L, f => (chExt { f with exts := f.exts ++ [e.1] } e.1 e.2 (encE L ++ R)).bind fun y => if y.2 = [] then foldC R L y.1 else none

theorem foldC_append (R : List UInt8) (A B : List (Nat × List UInt8)) (f : CH) : foldC R (A ++ B) f = (foldC (encE B ++ R) A f).bind (foldC R B) := by
  induction A generalizing f with
  | nil => rfl
  | cons e A ih =>
    show ((chExt { f with exts := f.exts ++ [e.1] } e.1 e.2 (encE (A ++ B) ++ R)).bind fun y => if y.2 = [] then foldC R (A ++ B) y.1 else none) = ((chExt { f with exts := f.exts ++ [e.1] } e.1 e.2 (encE A ++ (encE B ++ R))).bind fun y => if y.2 = [] then foldC (encE B ++ R) A y.1 else none).bind (foldC R B)
    rw [encE_append, List.append_assoc]
    cases chExt { f with exts := f.exts ++ [e.1] } e.1 e.2 (encE A ++ (encE B ++ R)) with
    | none => rfl
    | some y =>
      simp only [Option.bind_some]
      by_cases h : y.2 = []
      · rw [if_pos h, if_pos h]; exact ih _
      · rw [if_neg h, if_neg h]; rfl

theorem chExts_enc : ∀ (L : List (Nat × List UInt8)) (n : Nat) (seen : List Nat) (f : CH), (∀ e ∈ L, e.1 < 65536 ∧ e.2.length < 65536) → (L.map (·.1)).Nodup → (∀ e ∈ L, e.1 ∉ seen) → L.length ≤ n → chExts n seen f (encE L) = foldC [] L f
  | [], n, seen, f, _, _, _, _ => by cases n <;> rfl
  | e :: L, n, seen, f, hb, hnd, hs, hn => by
    obtain ⟨n, rfl⟩ : ∃ n', n = n' + 1 := ⟨n - 1, by simp at hn; omega⟩
    obtain ⟨b1, b2⟩ := hb e (by simp)
    have e0 : encE (e :: L) = en 2 e.1 ++ (en 2 e.2.length ++ e.2 ++ encE L) := by simp [encE]
    have hne : encE (e :: L) ≠ [] := by rw [e0]; simp [en]
    have hbe : be (en 2 e.1) = e.1 := by rw [be_en]; exact Nat.mod_eq_of_lt b1
    rw [chExts_succ hne, e0, rd_en, Option.bind_some]
    simp only
    rw [rdv_append (k := 2) (by omega), Option.bind_some]
    simp only
    rw [hbe, if_neg (hs e (by simp))]
    show _ = (chExt { f with exts := f.exts ++ [e.1] } e.1 e.2 (encE L ++ [])).bind fun y => if y.2 = [] then foldC [] L y.1 else none
    rw [List.append_nil]
    simp only [List.map_cons, List.nodup_cons] at hnd
    congr 1
    funext y
    by_cases hy : y.2 = []
    · rw [if_pos hy, if_pos hy]
      refine chExts_enc L n (e.1 :: seen) y.1 (fun x hx => hb x (by simp [hx])) hnd.2 (fun x hx hm => ?_) (by simp at hn; omega)
      rcases List.mem_cons.1 hm with hm | hm
      · exact hnd.1 (by rw [← hm]; exact List.mem_map_of_mem hx)
      · exact hs x (by simp [hx]) hm
    · rw [if_neg hy, if_neg hy]

theorem twords_wnums : ∀ (L : List Nat) (n : Nat), (∀ x ∈ L, x < 65536) → L.length ≤ n → twords n (wnums 2 L) = some L
  | [], n, _, _ => by cases n <;> rfl
  | x :: L, n, h, hn => by
    obtain ⟨n, rfl⟩ : ∃ n', n = n' + 1 := ⟨n - 1, by simp at hn; omega⟩
    have e0 : wnums 2 (x :: L) = en 2 x ++ wnums 2 L := by simp [wnums]
    have hb : be (en 2 x) = x := by rw [be_en]; exact Nat.mod_eq_of_lt (h x (by simp))
    rw [twords_succ (by rw [e0]; simp [en]), e0, rd_en, Option.bind_some]
    simp only
    rw [twords_wnums L n (fun y hy => h y (by simp [hy])) (by simp at hn; omega), Option.map_some, hb]

theorem tshares_wshr : ∀ (L : List (Nat × List UInt8)) (n : Nat), (∀ x ∈ L, x.1 < 65536 ∧ x.2 ≠ [] ∧ x.2.length < 65536) → L.length ≤ n → tshares n (wshr L) = some L
  | [], n, _, _ => by cases n <;> rfl
  | (g, d) :: L, n, h, hn => by
    obtain ⟨n, rfl⟩ : ∃ n', n = n' + 1 := ⟨n - 1, by simp at hn; omega⟩
    obtain ⟨h1, h2, h3⟩ := h (g, d) (by simp)
    simp only at h1 h2 h3
    have e0 : wshr ((g, d) :: L) = en 2 g ++ (en 2 d.length ++ d ++ wshr L) := by simp [wshr]
    have hb : be (en 2 g) = g := by rw [be_en]; exact Nat.mod_eq_of_lt h1
    rw [tshares_succ (by rw [e0]; simp [en]), e0, rd_en, Option.bind_some]
    simp only
    rw [rdv_append (k := 2) (by omega), Option.bind_some]
    simp only
    rw [if_neg h2, tshares_wshr L n (fun y hy => h y (by simp [hy])) (by simp at hn; omega), Option.map_some, hb]

theorem tpsks_widn : ∀ (L : List (List UInt8 × Nat)) (n : Nat), (∀ x ∈ L, x.1 ≠ [] ∧ x.1.length < 65536 ∧ x.2 < 4294967296) → L.length ≤ n → tpsks n (widn L) = some L
  | [], n, _, _ => by cases n <;> rfl
  | (l, a) :: L, n, h, hn => by
    obtain ⟨n, rfl⟩ : ∃ n', n = n' + 1 := ⟨n - 1, by simp at hn; omega⟩
    obtain ⟨h1, h2, h3⟩ := h (l, a) (by simp)
    simp only at h1 h2 h3
    have e0 : widn ((l, a) :: L) = en 2 l.length ++ l ++ (en 4 a ++ widn L) := by simp [widn]
    have hb : be (en 4 a) = a := by rw [be_en]; exact Nat.mod_eq_of_lt h3
    rw [tpsks_succ (by rw [e0]; simp [en]), e0, rdv_append (k := 2) (by omega), Option.bind_some]
    simp only
    rw [rd_en, Option.bind_some]
    simp only
    rw [if_neg h1, tpsks_widn L n (fun y hy => h y (by simp [hy])) (by simp at hn; omega), Option.map_some, hb]

theorem tnames_one {x : List UInt8} {n : Nat} (hn : 0 < n) (h0 : x ≠ []) (h1 : x.length < 65536) (h2 : x.getLast? ≠ some 46) : tnames n [] (en 1 0 ++ en 2 x.length ++ x) = some x := by
  obtain ⟨n, rfl⟩ : ∃ n', n = n' + 1 := ⟨n - 1, by omega⟩
  have hb : be (en 1 0) = 0 := by rw [be_en]
  have hv := rdv_append (k := 2) (x := x) (r := []) (by omega)
  rw [List.append_nil] at hv
  rw [tnames_succ (by simp [en]), List.append_assoc, rd_en, Option.bind_some]
  simp only
  rw [hv, Option.bind_some]
  simp only
  rw [if_neg h0, hb, if_neg (by simp), if_neg (by simp), if_neg h2, tnames_nil]

theorem fc0 (f : CH) (hS : ChR f) (hc : chCost f < 65000) (R : List UInt8) (E : List Nat) : ∃ E', foldC R (onE (0 < f.name.length) 0 (en 2 (en 1 0 ++ en 2 f.name.length ++ f.name).length ++ (en 1 0 ++ en 2 f.name.length ++ f.name))) { vers := f.vers, random := f.random, session := f.session, suites := f.suites, comps := f.comps, srs := decide (255 ∈ f.suites), exts := E } = some { vers := f.vers, random := f.random, session := f.session, suites := f.suites, comps := f.comps, name := f.name, srs := decide (255 ∈ f.suites), exts := E' } := by
  unfold onE
  by_cases h : 0 < f.name.length
  · rw [if_pos h]
    have h1 : rdv 2 (en 2 (en 1 0 ++ en 2 f.name.length ++ f.name).length ++ (en 1 0 ++ en 2 f.name.length ++ f.name)) = some ((en 1 0 ++ en 2 f.name.length ++ f.name), []) := by
      have := rdv_append (k := 2) (x := (en 1 0 ++ en 2 f.name.length ++ f.name)) (r := []) (by have hc5 := hc; unfold chCost pc0 at hc5; rw [if_pos h] at hc5; simp only [List.length_append, en_length]; omega)
      simpa using this
    have h3 : (en 1 0 ++ en 2 f.name.length ++ f.name) ≠ [] := by simp [en]
    have hne : f.name ≠ [] := fun e => by rw [e] at h; simp at h
    have h4 := tnames_one (x := f.name) (n := (en 1 0 ++ en 2 f.name.length ++ f.name).length) (by simp only [List.length_append, en_length]; omega) hne (by have hc5 := hc; unfold chCost pc0 at hc5; rw [if_pos h] at hc5; omega) (hS.name hne)
    refine ⟨E ++ [0], ?_⟩
    show ((chExt _ 0 (en 2 (en 1 0 ++ en 2 f.name.length ++ f.name).length ++ (en 1 0 ++ en 2 f.name.length ++ f.name)) (encE [] ++ R)).bind fun y => if y.2 = [] then some y.1 else none) = _
    unfold chExt
    simp only [Nat.reduceEqDiff, if_false, if_true, Option.bind_some, h1, Option.bind_some, h3, if_false, h4, Option.map_some]
  · rw [if_neg h]
    have z : f.name = [] := List.length_eq_zero_iff.1 (by omega)
    refine ⟨E, ?_⟩
    show some _ = some _
    rw [z]

theorem fc1 (f : CH) (hS : ChR f) (hc : chCost f < 65000) (R : List UInt8) (E : List Nat) : ∃ E', foldC R (onE (0 < f.points.length) 11 (en 1 f.points.length ++ f.points)) { vers := f.vers, random := f.random, session := f.session, suites := f.suites, comps := f.comps, name := f.name, srs := decide (255 ∈ f.suites), exts := E } = some { vers := f.vers, random := f.random, session := f.session, suites := f.suites, comps := f.comps, name := f.name, points := f.points, srs := decide (255 ∈ f.suites), exts := E' } := by
  unfold onE
  by_cases h : 0 < f.points.length
  · rw [if_pos h]
    have h1 : rdv 1 (en 1 f.points.length ++ f.points) = some (f.points, []) := by
      have := rdv_append (k := 1) (x := f.points) (r := []) (by have := hS.points; omega)
      simpa using this
    have h3 : f.points ≠ [] := fun e => by rw [e] at h; simp at h
    refine ⟨E ++ [11], ?_⟩
    show ((chExt _ 11 (en 1 f.points.length ++ f.points) (encE [] ++ R)).bind fun y => if y.2 = [] then some y.1 else none) = _
    unfold chExt
    simp only [Nat.reduceEqDiff, if_false, if_true, Option.bind_some, h1, Option.bind_some, h3, if_false]
  · rw [if_neg h]
    have z : f.points = [] := List.length_eq_zero_iff.1 (by omega)
    refine ⟨E, ?_⟩
    show some _ = some _
    rw [z]

theorem fc2 (f : CH) (hS : ChR f) (hc : chCost f < 65000) (R : List UInt8) (E : List Nat) : ∃ E', foldC R (onE (f.ticket = true) 35 (f.tickets)) { vers := f.vers, random := f.random, session := f.session, suites := f.suites, comps := f.comps, name := f.name, points := f.points, srs := decide (255 ∈ f.suites), exts := E } = some { vers := f.vers, random := f.random, session := f.session, suites := f.suites, comps := f.comps, name := f.name, points := f.points, ticket := f.ticket, tickets := f.tickets, srs := decide (255 ∈ f.suites), exts := E' } := by
  unfold onE
  by_cases h : f.ticket = true
  · rw [if_pos h]
    refine ⟨E ++ [35], ?_⟩
    show ((chExt _ 35 (f.tickets) (encE [] ++ R)).bind fun y => if y.2 = [] then some y.1 else none) = _
    unfold chExt
    simp only [Nat.reduceEqDiff, if_false, if_true, Option.bind_some, h]
  · rw [if_neg h]
    have z : f.ticket = false := by simpa using h
    have z2 : f.tickets = [] := hS.tick (by simpa using h)
    refine ⟨E, ?_⟩
    show some _ = some _
    rw [z, z2]

theorem fc3 (f : CH) (hS : ChR f) (hc : chCost f < 65000) (R : List UInt8) (E : List Nat) : ∃ E', foldC R (onE (f.srs = true) 65281 (en 1 f.sr.length ++ f.sr)) { vers := f.vers, random := f.random, session := f.session, suites := f.suites, comps := f.comps, name := f.name, points := f.points, ticket := f.ticket, tickets := f.tickets, srs := decide (255 ∈ f.suites), exts := E } = some { vers := f.vers, random := f.random, session := f.session, suites := f.suites, comps := f.comps, name := f.name, points := f.points, ticket := f.ticket, tickets := f.tickets, srs := f.srs, sr := f.sr, exts := E' } := by
  unfold onE
  by_cases h : f.srs = true
  · rw [if_pos h]
    have h1 : rdv 1 (en 1 f.sr.length ++ f.sr) = some (f.sr, []) := by
      have := rdv_append (k := 1) (x := f.sr) (r := []) (by have := hS.sr; omega)
      simpa using this
    refine ⟨E ++ [65281], ?_⟩
    show ((chExt _ 65281 (en 1 f.sr.length ++ f.sr) (encE [] ++ R)).bind fun y => if y.2 = [] then some y.1 else none) = _
    unfold chExt
    simp only [Nat.reduceEqDiff, if_false, if_true, Option.bind_some, h1, Option.map_some, h]
  · rw [if_neg h]
    have z : f.sr = [] := hS.nosr (by simpa using h)
    have z2 : f.srs = false := by simpa using h
    have z3 : decide (255 ∈ f.suites) = false := by simp only [decide_eq_false_iff_not]; intro hm; rw [hS.scsv hm] at z2; cases z2
    refine ⟨E, ?_⟩
    show some _ = some _
    rw [z, z2, z3]

theorem fc4 (f : CH) (hS : ChR f) (hc : chCost f < 65000) (R : List UInt8) (E : List Nat) : ∃ E', foldC R (onE (f.ems = true) 23 (([] : List UInt8))) { vers := f.vers, random := f.random, session := f.session, suites := f.suites, comps := f.comps, name := f.name, points := f.points, ticket := f.ticket, tickets := f.tickets, srs := f.srs, sr := f.sr, exts := E } = some { vers := f.vers, random := f.random, session := f.session, suites := f.suites, comps := f.comps, name := f.name, points := f.points, ticket := f.ticket, tickets := f.tickets, srs := f.srs, sr := f.sr, ems := f.ems, exts := E' } := by
  unfold onE
  by_cases h : f.ems = true
  · rw [if_pos h]
    refine ⟨E ++ [23], ?_⟩
    show ((chExt _ 23 (([] : List UInt8)) (encE [] ++ R)).bind fun y => if y.2 = [] then some y.1 else none) = _
    unfold chExt
    simp only [Nat.reduceEqDiff, if_false, if_true, Option.bind_some, h]
  · rw [if_neg h]
    have z : f.ems = false := by simpa using h
    refine ⟨E, ?_⟩
    show some _ = some _
    rw [z]

theorem fc5 (f : CH) (hS : ChR f) (hc : chCost f < 65000) (R : List UInt8) (E : List Nat) : ∃ E', foldC R (onE (f.scts = true) 18 (([] : List UInt8))) { vers := f.vers, random := f.random, session := f.session, suites := f.suites, comps := f.comps, name := f.name, points := f.points, ticket := f.ticket, tickets := f.tickets, srs := f.srs, sr := f.sr, ems := f.ems, exts := E } = some { vers := f.vers, random := f.random, session := f.session, suites := f.suites, comps := f.comps, name := f.name, points := f.points, ticket := f.ticket, tickets := f.tickets, srs := f.srs, sr := f.sr, ems := f.ems, scts := f.scts, exts := E' } := by
  unfold onE
  by_cases h : f.scts = true
  · rw [if_pos h]
    refine ⟨E ++ [18], ?_⟩
    show ((chExt _ 18 (([] : List UInt8)) (encE [] ++ R)).bind fun y => if y.2 = [] then some y.1 else none) = _
    unfold chExt
    simp only [Nat.reduceEqDiff, if_false, if_true, Option.bind_some, h]
  · rw [if_neg h]
    have z : f.scts = false := by simpa using h
    refine ⟨E, ?_⟩
    show some _ = some _
    rw [z]

theorem fc6 (f : CH) (hS : ChR f) (hc : chCost f < 65000) (R : List UInt8) (E : List Nat) : ∃ E', foldC R (onE (f.early = true) 42 (([] : List UInt8))) { vers := f.vers, random := f.random, session := f.session, suites := f.suites, comps := f.comps, name := f.name, points := f.points, ticket := f.ticket, tickets := f.tickets, srs := f.srs, sr := f.sr, ems := f.ems, scts := f.scts, exts := E } = some { vers := f.vers, random := f.random, session := f.session, suites := f.suites, comps := f.comps, name := f.name, points := f.points, ticket := f.ticket, tickets := f.tickets, srs := f.srs, sr := f.sr, ems := f.ems, scts := f.scts, early := f.early, exts := E' } := by
  unfold onE
  by_cases h : f.early = true
  · rw [if_pos h]
    refine ⟨E ++ [42], ?_⟩
    show ((chExt _ 42 (([] : List UInt8)) (encE [] ++ R)).bind fun y => if y.2 = [] then some y.1 else none) = _
    unfold chExt
    simp only [Nat.reduceEqDiff, if_false, if_true, Option.bind_some, h]
  · rw [if_neg h]
    have z : f.early = false := by simpa using h
    refine ⟨E, ?_⟩
    show some _ = some _
    rw [z]

theorem fc7 (f : CH) (hS : ChR f) (hc : chCost f < 65000) (R : List UInt8) (E : List Nat) : ∃ E', foldC R (onE (f.quic.isSome = true) 57 (f.quic.getD [])) { vers := f.vers, random := f.random, session := f.session, suites := f.suites, comps := f.comps, name := f.name, points := f.points, ticket := f.ticket, tickets := f.tickets, srs := f.srs, sr := f.sr, ems := f.ems, scts := f.scts, early := f.early, exts := E } = some { vers := f.vers, random := f.random, session := f.session, suites := f.suites, comps := f.comps, name := f.name, points := f.points, ticket := f.ticket, tickets := f.tickets, srs := f.srs, sr := f.sr, ems := f.ems, scts := f.scts, early := f.early, quic := f.quic, exts := E' } := by
  unfold onE
  by_cases h : f.quic.isSome = true
  · rw [if_pos h]
    have hq : some (f.quic.getD []) = f.quic := by
      cases hq : f.quic with
      | none => rw [hq] at h; simp at h
      | some q => rfl
    refine ⟨E ++ [57], ?_⟩
    show ((chExt _ 57 (f.quic.getD []) (encE [] ++ R)).bind fun y => if y.2 = [] then some y.1 else none) = _
    unfold chExt
    simp only [Nat.reduceEqDiff, if_false, if_true, Option.bind_some, hq]
  · rw [if_neg h]
    have z : f.quic = none := by cases hq : f.quic with | none => rfl | some q => rw [hq] at h; simp at h
    refine ⟨E, ?_⟩
    show some _ = some _
    rw [z]

theorem fc8 (f : CH) (hS : ChR f) (hc : chCost f < 65000) (R : List UInt8) (E : List Nat) : ∃ E', foldC R (onE (0 < f.ech.length) 65037 (f.ech)) { vers := f.vers, random := f.random, session := f.session, suites := f.suites, comps := f.comps, name := f.name, points := f.points, ticket := f.ticket, tickets := f.tickets, srs := f.srs, sr := f.sr, ems := f.ems, scts := f.scts, early := f.early, quic := f.quic, exts := E } = some { vers := f.vers, random := f.random, session := f.session, suites := f.suites, comps := f.comps, name := f.name, points := f.points, ticket := f.ticket, tickets := f.tickets, srs := f.srs, sr := f.sr, ems := f.ems, scts := f.scts, early := f.early, quic := f.quic, ech := f.ech, exts := E' } := by
  unfold onE
  by_cases h : 0 < f.ech.length
  · rw [if_pos h]
    refine ⟨E ++ [65037], ?_⟩
    show ((chExt _ 65037 (f.ech) (encE [] ++ R)).bind fun y => if y.2 = [] then some y.1 else none) = _
    unfold chExt
    simp only [Nat.reduceEqDiff, if_false, if_true, Option.bind_some]
  · rw [if_neg h]
    have z : f.ech = [] := List.length_eq_zero_iff.1 (by omega)
    refine ⟨E, ?_⟩
    show some _ = some _
    rw [z]

theorem fc9 (f : CH) (hS : ChR f) (hc : chCost f < 65000) (R : List UInt8) (E : List Nat) : ∃ E', foldC R (onE (f.ocsp = true) 5 (en 1 1 ++ en 2 0 ++ en 2 0)) { vers := f.vers, random := f.random, session := f.session, suites := f.suites, comps := f.comps, name := f.name, points := f.points, ticket := f.ticket, tickets := f.tickets, srs := f.srs, sr := f.sr, ems := f.ems, scts := f.scts, early := f.early, quic := f.quic, ech := f.ech, exts := E } = some { vers := f.vers, random := f.random, session := f.session, suites := f.suites, comps := f.comps, name := f.name, ocsp := f.ocsp, points := f.points, ticket := f.ticket, tickets := f.tickets, srs := f.srs, sr := f.sr, ems := f.ems, scts := f.scts, early := f.early, quic := f.quic, ech := f.ech, exts := E' } := by
  unfold onE
  by_cases h : f.ocsp = true
  · rw [if_pos h]
    have h1 : rd 1 (en 1 1 ++ en 2 0 ++ en 2 0) = some (en 1 1, en 2 0 ++ en 2 0) := by rw [List.append_assoc]; exact rd_en
    have h2 : rdv 2 (en 2 0 ++ en 2 0) = some ([], en 2 0) := by
      have := rdv_append (k := 2) (x := []) (r := en 2 0) (by simp)
      simpa using this
    have h3 : rdv 2 (en 2 0) = some ([], []) := by
      have := rdv_append (k := 2) (x := []) (r := []) (by simp)
      simpa using this
    have h4 : be (en 1 1) = 1 := by rw [be_en]
    refine ⟨E ++ [5], ?_⟩
    show ((chExt _ 5 (en 1 1 ++ en 2 0 ++ en 2 0) (encE [] ++ R)).bind fun y => if y.2 = [] then some y.1 else none) = _
    unfold chExt
    simp only [Nat.reduceEqDiff, if_false, if_true, Option.bind_some, h1, h2, h3, Option.map_some, h4, decide_true, h]
  · rw [if_neg h]
    have z : f.ocsp = false := by simpa using h
    refine ⟨E, ?_⟩
    show some _ = some _
    rw [z]

theorem fc10 (f : CH) (hS : ChR f) (hc : chCost f < 65000) (R : List UInt8) (E : List Nat) : ∃ E', foldC R (onE (0 < f.curves.length) 10 (en 2 (wnums 2 f.curves).length ++ (wnums 2 f.curves))) { vers := f.vers, random := f.random, session := f.session, suites := f.suites, comps := f.comps, name := f.name, ocsp := f.ocsp, points := f.points, ticket := f.ticket, tickets := f.tickets, srs := f.srs, sr := f.sr, ems := f.ems, scts := f.scts, early := f.early, quic := f.quic, ech := f.ech, exts := E } = some { vers := f.vers, random := f.random, session := f.session, suites := f.suites, comps := f.comps, name := f.name, ocsp := f.ocsp, curves := f.curves, points := f.points, ticket := f.ticket, tickets := f.tickets, srs := f.srs, sr := f.sr, ems := f.ems, scts := f.scts, early := f.early, quic := f.quic, ech := f.ech, exts := E' } := by
  unfold onE
  by_cases h : 0 < f.curves.length
  · rw [if_pos h]
    have h1 : rdv 2 (en 2 (wnums 2 f.curves).length ++ (wnums 2 f.curves)) = some ((wnums 2 f.curves), []) := by
      have := rdv_append (k := 2) (x := (wnums 2 f.curves)) (r := []) (by have hc5 := hc; unfold chCost pc10 at hc5; rw [if_pos h] at hc5; rw [wnums_len]; omega)
      simpa using this
    have h3 : (wnums 2 f.curves) ≠ [] := fun e => by have := congrArg List.length e; rw [wnums_len] at this; simp only [List.length_nil] at this; omega
    have h4 := twords_wnums f.curves (wnums 2 f.curves).length hS.curves (by rw [wnums_len]; omega)
    refine ⟨E ++ [10], ?_⟩
    show ((chExt _ 10 (en 2 (wnums 2 f.curves).length ++ (wnums 2 f.curves)) (encE [] ++ R)).bind fun y => if y.2 = [] then some y.1 else none) = _
    unfold chExt
    simp only [Nat.reduceEqDiff, if_false, if_true, Option.bind_some, h1, Option.bind_some, h3, if_false, h4, Option.map_some, List.nil_append]
  · rw [if_neg h]
    have z : f.curves = [] := List.length_eq_zero_iff.1 (by omega)
    refine ⟨E, ?_⟩
    show some _ = some _
    rw [z]

theorem fc11 (f : CH) (hS : ChR f) (hc : chCost f < 65000) (R : List UInt8) (E : List Nat) : ∃ E', foldC R (onE (0 < f.sigs.length) 13 (en 2 (wnums 2 f.sigs).length ++ (wnums 2 f.sigs))) { vers := f.vers, random := f.random, session := f.session, suites := f.suites, comps := f.comps, name := f.name, ocsp := f.ocsp, curves := f.curves, points := f.points, ticket := f.ticket, tickets := f.tickets, srs := f.srs, sr := f.sr, ems := f.ems, scts := f.scts, early := f.early, quic := f.quic, ech := f.ech, exts := E } = some { vers := f.vers, random := f.random, session := f.session, suites := f.suites, comps := f.comps, name := f.name, ocsp := f.ocsp, curves := f.curves, points := f.points, ticket := f.ticket, tickets := f.tickets, sigs := f.sigs, srs := f.srs, sr := f.sr, ems := f.ems, scts := f.scts, early := f.early, quic := f.quic, ech := f.ech, exts := E' } := by
  unfold onE
  by_cases h : 0 < f.sigs.length
  · rw [if_pos h]
    have h1 : rdv 2 (en 2 (wnums 2 f.sigs).length ++ (wnums 2 f.sigs)) = some ((wnums 2 f.sigs), []) := by
      have := rdv_append (k := 2) (x := (wnums 2 f.sigs)) (r := []) (by have hc5 := hc; unfold chCost pc11 at hc5; rw [if_pos h] at hc5; rw [wnums_len]; omega)
      simpa using this
    have h3 : (wnums 2 f.sigs) ≠ [] := fun e => by have := congrArg List.length e; rw [wnums_len] at this; simp only [List.length_nil] at this; omega
    have h4 := twords_wnums f.sigs (wnums 2 f.sigs).length hS.sigs (by rw [wnums_len]; omega)
    refine ⟨E ++ [13], ?_⟩
    show ((chExt _ 13 (en 2 (wnums 2 f.sigs).length ++ (wnums 2 f.sigs)) (encE [] ++ R)).bind fun y => if y.2 = [] then some y.1 else none) = _
    unfold chExt
    simp only [Nat.reduceEqDiff, if_false, if_true, Option.bind_some, h1, Option.bind_some, h3, if_false, h4, Option.map_some, List.nil_append]
  · rw [if_neg h]
    have z : f.sigs = [] := List.length_eq_zero_iff.1 (by omega)
    refine ⟨E, ?_⟩
    show some _ = some _
    rw [z]

theorem fc12 (f : CH) (hS : ChR f) (hc : chCost f < 65000) (R : List UInt8) (E : List Nat) : ∃ E', foldC R (onE (0 < f.sigsC.length) 50 (en 2 (wnums 2 f.sigsC).length ++ (wnums 2 f.sigsC))) { vers := f.vers, random := f.random, session := f.session, suites := f.suites, comps := f.comps, name := f.name, ocsp := f.ocsp, curves := f.curves, points := f.points, ticket := f.ticket, tickets := f.tickets, sigs := f.sigs, srs := f.srs, sr := f.sr, ems := f.ems, scts := f.scts, early := f.early, quic := f.quic, ech := f.ech, exts := E } = some { vers := f.vers, random := f.random, session := f.session, suites := f.suites, comps := f.comps, name := f.name, ocsp := f.ocsp, curves := f.curves, points := f.points, ticket := f.ticket, tickets := f.tickets, sigs := f.sigs, sigsC := f.sigsC, srs := f.srs, sr := f.sr, ems := f.ems, scts := f.scts, early := f.early, quic := f.quic, ech := f.ech, exts := E' } := by
  unfold onE
  by_cases h : 0 < f.sigsC.length
  · rw [if_pos h]
    have h1 : rdv 2 (en 2 (wnums 2 f.sigsC).length ++ (wnums 2 f.sigsC)) = some ((wnums 2 f.sigsC), []) := by
      have := rdv_append (k := 2) (x := (wnums 2 f.sigsC)) (r := []) (by have hc5 := hc; unfold chCost pc12 at hc5; rw [if_pos h] at hc5; rw [wnums_len]; omega)
      simpa using this
    have h3 : (wnums 2 f.sigsC) ≠ [] := fun e => by have := congrArg List.length e; rw [wnums_len] at this; simp only [List.length_nil] at this; omega
    have h4 := twords_wnums f.sigsC (wnums 2 f.sigsC).length hS.sigsC (by rw [wnums_len]; omega)
    refine ⟨E ++ [50], ?_⟩
    show ((chExt _ 50 (en 2 (wnums 2 f.sigsC).length ++ (wnums 2 f.sigsC)) (encE [] ++ R)).bind fun y => if y.2 = [] then some y.1 else none) = _
    unfold chExt
    simp only [Nat.reduceEqDiff, if_false, if_true, Option.bind_some, h1, Option.bind_some, h3, if_false, h4, Option.map_some, List.nil_append]
  · rw [if_neg h]
    have z : f.sigsC = [] := List.length_eq_zero_iff.1 (by omega)
    refine ⟨E, ?_⟩
    show some _ = some _
    rw [z]

theorem fc13 (f : CH) (hS : ChR f) (hc : chCost f < 65000) (R : List UInt8) (E : List Nat) : ∃ E', foldC R (onE (0 < f.alpn.length) 16 (en 2 (vecs 1 f.alpn).length ++ (vecs 1 f.alpn))) { vers := f.vers, random := f.random, session := f.session, suites := f.suites, comps := f.comps, name := f.name, ocsp := f.ocsp, curves := f.curves, points := f.points, ticket := f.ticket, tickets := f.tickets, sigs := f.sigs, sigsC := f.sigsC, srs := f.srs, sr := f.sr, ems := f.ems, scts := f.scts, early := f.early, quic := f.quic, ech := f.ech, exts := E } = some { vers := f.vers, random := f.random, session := f.session, suites := f.suites, comps := f.comps, name := f.name, ocsp := f.ocsp, curves := f.curves, points := f.points, ticket := f.ticket, tickets := f.tickets, sigs := f.sigs, sigsC := f.sigsC, srs := f.srs, sr := f.sr, ems := f.ems, alpn := f.alpn, scts := f.scts, early := f.early, quic := f.quic, ech := f.ech, exts := E' } := by
  unfold onE
  by_cases h : 0 < f.alpn.length
  · rw [if_pos h]
    have h1 : rdv 2 (en 2 (vecs 1 f.alpn).length ++ (vecs 1 f.alpn)) = some ((vecs 1 f.alpn), []) := by
      have := rdv_append (k := 2) (x := (vecs 1 f.alpn)) (r := []) (by have hc5 := hc; unfold chCost pc13 at hc5; rw [if_pos h] at hc5; omega)
      simpa using this
    have hm := vecs_many (k := 1) (by omega) f.alpn
    have h3 : vecs 1 f.alpn ≠ [] := fun e => by rw [e] at hm; simp at hm; rw [hm] at h; simp at h
    have h4 := tvecs_vecs (k := 1) f.alpn (vecs 1 f.alpn).length hS.alpn hm
    refine ⟨E ++ [16], ?_⟩
    show ((chExt _ 16 (en 2 (vecs 1 f.alpn).length ++ (vecs 1 f.alpn)) (encE [] ++ R)).bind fun y => if y.2 = [] then some y.1 else none) = _
    unfold chExt
    simp only [Nat.reduceEqDiff, if_false, if_true, Option.bind_some, h1, Option.bind_some, h3, if_false, h4, Option.map_some, List.nil_append]
  · rw [if_neg h]
    have z : f.alpn = [] := List.length_eq_zero_iff.1 (by omega)
    refine ⟨E, ?_⟩
    show some _ = some _
    rw [z]

theorem fc14 (f : CH) (hS : ChR f) (hc : chCost f < 65000) (R : List UInt8) (E : List Nat) : ∃ E', foldC R (onE (0 < f.vers13.length) 43 (en 1 (wnums 2 f.vers13).length ++ (wnums 2 f.vers13))) { vers := f.vers, random := f.random, session := f.session, suites := f.suites, comps := f.comps, name := f.name, ocsp := f.ocsp, curves := f.curves, points := f.points, ticket := f.ticket, tickets := f.tickets, sigs := f.sigs, sigsC := f.sigsC, srs := f.srs, sr := f.sr, ems := f.ems, alpn := f.alpn, scts := f.scts, early := f.early, quic := f.quic, ech := f.ech, exts := E } = some { vers := f.vers, random := f.random, session := f.session, suites := f.suites, comps := f.comps, name := f.name, ocsp := f.ocsp, curves := f.curves, points := f.points, ticket := f.ticket, tickets := f.tickets, sigs := f.sigs, sigsC := f.sigsC, srs := f.srs, sr := f.sr, ems := f.ems, alpn := f.alpn, scts := f.scts, vers13 := f.vers13, early := f.early, quic := f.quic, ech := f.ech, exts := E' } := by
  unfold onE
  by_cases h : 0 < f.vers13.length
  · rw [if_pos h]
    have h1 : rdv 1 (en 1 (wnums 2 f.vers13).length ++ (wnums 2 f.vers13)) = some ((wnums 2 f.vers13), []) := by
      have := rdv_append (k := 1) (x := (wnums 2 f.vers13)) (r := []) (by rw [wnums_len]; have := hS.vers13n; omega)
      simpa using this
    have h3 : (wnums 2 f.vers13) ≠ [] := fun e => by have := congrArg List.length e; rw [wnums_len] at this; simp only [List.length_nil] at this; omega
    have h4 := twords_wnums f.vers13 (wnums 2 f.vers13).length hS.vers13 (by rw [wnums_len]; omega)
    refine ⟨E ++ [43], ?_⟩
    show ((chExt _ 43 (en 1 (wnums 2 f.vers13).length ++ (wnums 2 f.vers13)) (encE [] ++ R)).bind fun y => if y.2 = [] then some y.1 else none) = _
    unfold chExt
    simp only [Nat.reduceEqDiff, if_false, if_true, Option.bind_some, h1, Option.bind_some, h3, if_false, h4, Option.map_some, List.nil_append]
  · rw [if_neg h]
    have z : f.vers13 = [] := List.length_eq_zero_iff.1 (by omega)
    refine ⟨E, ?_⟩
    show some _ = some _
    rw [z]

theorem fc15 (f : CH) (hS : ChR f) (hc : chCost f < 65000) (R : List UInt8) (E : List Nat) : ∃ E', foldC R (onE (0 < f.cookie.length) 44 (en 2 f.cookie.length ++ f.cookie)) { vers := f.vers, random := f.random, session := f.session, suites := f.suites, comps := f.comps, name := f.name, ocsp := f.ocsp, curves := f.curves, points := f.points, ticket := f.ticket, tickets := f.tickets, sigs := f.sigs, sigsC := f.sigsC, srs := f.srs, sr := f.sr, ems := f.ems, alpn := f.alpn, scts := f.scts, vers13 := f.vers13, early := f.early, quic := f.quic, ech := f.ech, exts := E } = some { vers := f.vers, random := f.random, session := f.session, suites := f.suites, comps := f.comps, name := f.name, ocsp := f.ocsp, curves := f.curves, points := f.points, ticket := f.ticket, tickets := f.tickets, sigs := f.sigs, sigsC := f.sigsC, srs := f.srs, sr := f.sr, ems := f.ems, alpn := f.alpn, scts := f.scts, vers13 := f.vers13, cookie := f.cookie, early := f.early, quic := f.quic, ech := f.ech, exts := E' } := by
  unfold onE
  by_cases h : 0 < f.cookie.length
  · rw [if_pos h]
    have h1 : rdv 2 (en 2 f.cookie.length ++ f.cookie) = some (f.cookie, []) := by
      have := rdv_append (k := 2) (x := f.cookie) (r := []) (by have hc5 := hc; unfold chCost pc15 at hc5; rw [if_pos h] at hc5; omega)
      simpa using this
    have h3 : f.cookie ≠ [] := fun e => by rw [e] at h; simp at h
    refine ⟨E ++ [44], ?_⟩
    show ((chExt _ 44 (en 2 f.cookie.length ++ f.cookie) (encE [] ++ R)).bind fun y => if y.2 = [] then some y.1 else none) = _
    unfold chExt
    simp only [Nat.reduceEqDiff, if_false, if_true, Option.bind_some, h1, Option.bind_some, h3, if_false]
  · rw [if_neg h]
    have z : f.cookie = [] := List.length_eq_zero_iff.1 (by omega)
    refine ⟨E, ?_⟩
    show some _ = some _
    rw [z]

theorem fc16 (f : CH) (hS : ChR f) (hc : chCost f < 65000) (R : List UInt8) (E : List Nat) : ∃ E', foldC R (onE (0 < f.shares.length) 51 (en 2 (wshr f.shares).length ++ (wshr f.shares))) { vers := f.vers, random := f.random, session := f.session, suites := f.suites, comps := f.comps, name := f.name, ocsp := f.ocsp, curves := f.curves, points := f.points, ticket := f.ticket, tickets := f.tickets, sigs := f.sigs, sigsC := f.sigsC, srs := f.srs, sr := f.sr, ems := f.ems, alpn := f.alpn, scts := f.scts, vers13 := f.vers13, cookie := f.cookie, early := f.early, quic := f.quic, ech := f.ech, exts := E } = some { vers := f.vers, random := f.random, session := f.session, suites := f.suites, comps := f.comps, name := f.name, ocsp := f.ocsp, curves := f.curves, points := f.points, ticket := f.ticket, tickets := f.tickets, sigs := f.sigs, sigsC := f.sigsC, srs := f.srs, sr := f.sr, ems := f.ems, alpn := f.alpn, scts := f.scts, vers13 := f.vers13, cookie := f.cookie, shares := f.shares, early := f.early, quic := f.quic, ech := f.ech, exts := E' } := by
  unfold onE
  by_cases h : 0 < f.shares.length
  · rw [if_pos h]
    have h1 : rdv 2 (en 2 (wshr f.shares).length ++ (wshr f.shares)) = some ((wshr f.shares), []) := by
      have := rdv_append (k := 2) (x := (wshr f.shares)) (r := []) (by have hc5 := hc; unfold chCost pc16 at hc5; rw [if_pos h] at hc5; omega)
      simpa using this
    have h4 := tshares_wshr f.shares (wshr f.shares).length hS.shares (wshr_many _)
    refine ⟨E ++ [51], ?_⟩
    show ((chExt _ 51 (en 2 (wshr f.shares).length ++ (wshr f.shares)) (encE [] ++ R)).bind fun y => if y.2 = [] then some y.1 else none) = _
    unfold chExt
    simp only [Nat.reduceEqDiff, if_false, if_true, Option.bind_some, h1, Option.bind_some, h4, Option.map_some, List.nil_append]
  · rw [if_neg h]
    have z : f.shares = [] := List.length_eq_zero_iff.1 (by omega)
    refine ⟨E, ?_⟩
    show some _ = some _
    rw [z]

theorem fc17 (f : CH) (hS : ChR f) (hc : chCost f < 65000) (R : List UInt8) (E : List Nat) : ∃ E', foldC R (onE (0 < f.modes.length) 45 (en 1 f.modes.length ++ f.modes)) { vers := f.vers, random := f.random, session := f.session, suites := f.suites, comps := f.comps, name := f.name, ocsp := f.ocsp, curves := f.curves, points := f.points, ticket := f.ticket, tickets := f.tickets, sigs := f.sigs, sigsC := f.sigsC, srs := f.srs, sr := f.sr, ems := f.ems, alpn := f.alpn, scts := f.scts, vers13 := f.vers13, cookie := f.cookie, shares := f.shares, early := f.early, quic := f.quic, ech := f.ech, exts := E } = some { vers := f.vers, random := f.random, session := f.session, suites := f.suites, comps := f.comps, name := f.name, ocsp := f.ocsp, curves := f.curves, points := f.points, ticket := f.ticket, tickets := f.tickets, sigs := f.sigs, sigsC := f.sigsC, srs := f.srs, sr := f.sr, ems := f.ems, alpn := f.alpn, scts := f.scts, vers13 := f.vers13, cookie := f.cookie, shares := f.shares, early := f.early, modes := f.modes, quic := f.quic, ech := f.ech, exts := E' } := by
  unfold onE
  by_cases h : 0 < f.modes.length
  · rw [if_pos h]
    have h1 : rdv 1 (en 1 f.modes.length ++ f.modes) = some (f.modes, []) := by
      have := rdv_append (k := 1) (x := f.modes) (r := []) (by have := hS.modes; omega)
      simpa using this
    refine ⟨E ++ [45], ?_⟩
    show ((chExt _ 45 (en 1 f.modes.length ++ f.modes) (encE [] ++ R)).bind fun y => if y.2 = [] then some y.1 else none) = _
    unfold chExt
    simp only [Nat.reduceEqDiff, if_false, if_true, Option.bind_some, h1, Option.map_some]
  · rw [if_neg h]
    have z : f.modes = [] := List.length_eq_zero_iff.1 (by omega)
    refine ⟨E, ?_⟩
    show some _ = some _
    rw [z]

theorem fc18 (f : CH) (hS : ChR f) (hc : chCost f < 65000) (E : List Nat) : ∃ E', foldC [] (onE (0 < f.psks.length) 41 (en 2 (widn f.psks).length ++ (widn f.psks) ++ (en 2 (vecs 1 f.binders).length ++ (vecs 1 f.binders)))) { vers := f.vers, random := f.random, session := f.session, suites := f.suites, comps := f.comps, name := f.name, ocsp := f.ocsp, curves := f.curves, points := f.points, ticket := f.ticket, tickets := f.tickets, sigs := f.sigs, sigsC := f.sigsC, srs := f.srs, sr := f.sr, ems := f.ems, alpn := f.alpn, scts := f.scts, vers13 := f.vers13, cookie := f.cookie, shares := f.shares, early := f.early, modes := f.modes, quic := f.quic, ech := f.ech, exts := E } = some { vers := f.vers, random := f.random, session := f.session, suites := f.suites, comps := f.comps, name := f.name, ocsp := f.ocsp, curves := f.curves, points := f.points, ticket := f.ticket, tickets := f.tickets, sigs := f.sigs, sigsC := f.sigsC, srs := f.srs, sr := f.sr, ems := f.ems, alpn := f.alpn, scts := f.scts, vers13 := f.vers13, cookie := f.cookie, shares := f.shares, early := f.early, modes := f.modes, psks := f.psks, binders := f.binders, quic := f.quic, ech := f.ech, exts := E' } := by
  unfold onE
  by_cases h : 0 < f.psks.length
  · rw [if_pos h]
    have h1 : rdv 2 (en 2 (widn f.psks).length ++ (widn f.psks) ++ (en 2 (vecs 1 f.binders).length ++ (vecs 1 f.binders))) = some (widn f.psks, en 2 (vecs 1 f.binders).length ++ (vecs 1 f.binders)) := rdv_append (k := 2) (by have hc5 := hc; unfold chCost pc18 at hc5; rw [if_pos h] at hc5; omega)
    have h2 : rdv 2 (en 2 (vecs 1 f.binders).length ++ (vecs 1 f.binders)) = some ((vecs 1 f.binders), []) := by
      have := rdv_append (k := 2) (x := (vecs 1 f.binders)) (r := []) (by have hc5 := hc; unfold chCost pc18 at hc5; rw [if_pos h] at hc5; omega)
      simpa using this
    have hw := widn_many (L := f.psks)
    have h3 : widn f.psks ≠ [] := fun e => by rw [e] at hw; simp at hw; rw [hw] at h; simp at h
    have hm := vecs_many (k := 1) (by omega) f.binders
    have hb0 : f.binders ≠ [] := fun e => by rw [hS.pskb.2 e] at h; simp at h
    have h4 : vecs 1 f.binders ≠ [] := fun e => by rw [e] at hm; simp at hm; exact hb0 hm
    have h5 := tpsks_widn f.psks (widn f.psks).length hS.psks hw
    have h6 := tvecs_vecs (k := 1) f.binders (vecs 1 f.binders).length hS.binders hm
    refine ⟨E ++ [41], ?_⟩
    show ((chExt _ 41 (en 2 (widn f.psks).length ++ (widn f.psks) ++ (en 2 (vecs 1 f.binders).length ++ (vecs 1 f.binders))) (encE [] ++ [])).bind fun y => if y.2 = [] then some y.1 else none) = _
    unfold chExt
    simp only [Nat.reduceEqDiff, if_false, if_true, Option.bind_some, encE, List.flatMap_nil, List.append_nil, h1, Option.bind_some, h2, h3, h4, if_false, h5, h6, Option.map_some, List.nil_append, ne_eq, not_true_eq_false]
  · rw [if_neg h]
    have z : f.psks = [] := List.length_eq_zero_iff.1 (by omega)
    have z2 : f.binders = [] := hS.pskb.1 (List.length_eq_zero_iff.1 (by omega))
    refine ⟨E, ?_⟩
    show some _ = some _
    rw [z, z2]

theorem chX_fold (f : CH) (hS : ChR f) (hc : chCost f < 65000) : ∃ E, foldC [] (chX f) { vers := f.vers, random := f.random, session := f.session, suites := f.suites, comps := f.comps, srs := decide (255 ∈ f.suites), exts := [] } = some { f with exts := E } := by
  unfold chX
  simp only [foldC_append]
  obtain ⟨E1, e0⟩ := fc0 f hS hc _ []
  obtain ⟨E2, e1⟩ := fc1 f hS hc _ E1
  obtain ⟨E3, e2⟩ := fc2 f hS hc _ E2
  obtain ⟨E4, e3⟩ := fc3 f hS hc _ E3
  obtain ⟨E5, e4⟩ := fc4 f hS hc _ E4
  obtain ⟨E6, e5⟩ := fc5 f hS hc _ E5
  obtain ⟨E7, e6⟩ := fc6 f hS hc _ E6
  obtain ⟨E8, e7⟩ := fc7 f hS hc _ E7
  obtain ⟨E9, e8⟩ := fc8 f hS hc _ E8
  obtain ⟨E10, e9⟩ := fc9 f hS hc _ E9
  obtain ⟨E11, e10⟩ := fc10 f hS hc _ E10
  obtain ⟨E12, e11⟩ := fc11 f hS hc _ E11
  obtain ⟨E13, e12⟩ := fc12 f hS hc _ E12
  obtain ⟨E14, e13⟩ := fc13 f hS hc _ E13
  obtain ⟨E15, e14⟩ := fc14 f hS hc _ E14
  obtain ⟨E16, e15⟩ := fc15 f hS hc _ E15
  obtain ⟨E17, e16⟩ := fc16 f hS hc _ E16
  obtain ⟨E18, e17⟩ := fc17 f hS hc _ E17
  obtain ⟨E19, e18⟩ := fc18 f hS hc E18
  refine ⟨E19, ?_⟩
  rw [e0, Option.bind_some]
  rw [e1, Option.bind_some]
  rw [e2, Option.bind_some]
  rw [e3, Option.bind_some]
  rw [e4, Option.bind_some]
  rw [e5, Option.bind_some]
  rw [e6, Option.bind_some]
  rw [e7, Option.bind_some]
  rw [e8, Option.bind_some]
  rw [e9, Option.bind_some]
  rw [e10, Option.bind_some]
  rw [e11, Option.bind_some]
  rw [e12, Option.bind_some]
  rw [e13, Option.bind_some]
  rw [e14, Option.bind_some]
  rw [e15, Option.bind_some]
  rw [e16, Option.bind_some]
  rw [e17, Option.bind_some]
  rw [e18]

theorem onE_sub {b : Prop} [Decidable b] {ty : Nat} {d : List UInt8} : ((onE b ty d).map (·.1)).Sublist [ty] := by
  unfold onE
  by_cases h : b
  · rw [if_pos h]; simp
  · rw [if_neg h]; simp

theorem chX_nodup (f : CH) : ((chX f).map (·.1)).Nodup := by
  unfold chX
  simp only [List.map_append]
  refine List.Sublist.nodup (l₂ := ([0] ++ [11] ++ [35] ++ [65281] ++ [23] ++ [18] ++ [42] ++ [57] ++ [65037] ++ [5] ++ [10] ++ [13] ++ [50] ++ [16] ++ [43] ++ [44] ++ [51] ++ [45] ++ [41] : List Nat)) ?_ (by decide)
  exact ((((((((((((((((((onE_sub.append onE_sub).append onE_sub).append onE_sub).append onE_sub).append onE_sub).append onE_sub).append onE_sub).append onE_sub).append onE_sub).append onE_sub).append onE_sub).append onE_sub).append onE_sub).append onE_sub).append onE_sub).append onE_sub).append onE_sub).append onE_sub)

theorem onE_mem {b : Prop} [Decidable b] {ty : Nat} {d : List UInt8} {e : Nat × List UInt8} (h : e ∈ onE b ty d) : e.1 = ty := by
  unfold onE at h
  by_cases hb : b
  · rw [if_pos hb] at h; simp at h; rw [h]
  · rw [if_neg hb] at h; cases h

theorem encE_mem : ∀ {L : List (Nat × List UInt8)} {e : Nat × List UInt8}, e ∈ L → 4 + e.2.length ≤ (encE L).length
  | x :: L, e, h => by
    have e0 : encE (x :: L) = en 2 x.1 ++ en 2 x.2.length ++ x.2 ++ encE L := by simp [encE]
    rw [e0]
    rcases List.mem_cons.1 h with rfl | h
    · simp only [List.length_append, en_length]; omega
    · have := encE_mem h
      simp only [List.length_append, en_length]; omega

theorem encE_many : ∀ (L : List (Nat × List UInt8)), L.length ≤ (encE L).length
  | [] => by simp
  | x :: L => by
    have := encE_many L
    have e0 : encE (x :: L) = en 2 x.1 ++ en 2 x.2.length ++ x.2 ++ encE L := by simp [encE]
    rw [e0]
    simp only [List.length_append, List.length_cons, en_length]; omega

theorem chX_types (f : CH) : ∀ e ∈ chX f, e.1 < 65536 := by
  intro e he
  unfold chX at he
  simp only [List.mem_append] at he
  rcases he with ((((((((((((((((((h | h) | h) | h) | h) | h) | h) | h) | h) | h) | h) | h) | h) | h) | h) | h) | h) | h) | h) <;> (rw [onE_mem h]; simp)

/-- What is made of fields that are right is read again as these fields. -/
theorem ch_again {f : CH} (hS : ChR f) (hc : chCost f < 65000) : (∃ E, chRead (wCH f) = some { f with exts := E }) ∧ 4 ≤ (wCH f).length ∧ (wCH f).length ≤ 300000 := by
  have hle := chCost_len f
  have hbl : (chBodyB f).length ≤ 290000 := by
    have h1 := hS.random
    have h2 := hS.session
    have h3 := hS.suitesn
    have h4 := hS.comps
    unfold chBodyB
    simp only [List.length_append, en_length, wnums_len]
    split <;> (try simp only [List.length_append, en_length, List.length_nil]) <;> omega
  refine ⟨?_, by unfold wCH; simp only [List.length_append, en_length]; omega, by unfold wCH; simp only [List.length_append, en_length]; omega⟩
  obtain ⟨Y, hY⟩ : ∃ Y, Y = encE (chX f) := ⟨_, rfl⟩
  obtain ⟨Z, hZ⟩ : ∃ Z, Z = (if Y = [] then [] else en 2 Y.length ++ Y) := ⟨_, rfl⟩
  have e1 : wCH f = (en 1 1 ++ en 3 (chBodyB f).length) ++ (en 2 f.vers ++ (f.random ++ (en 1 f.session.length ++ f.session ++ (en 2 (wnums 2 f.suites).length ++ wnums 2 f.suites ++ (en 1 f.comps.length ++ f.comps ++ Z))))) := by
    unfold wCH
    have : chBodyB f = en 2 f.vers ++ (f.random ++ (en 1 f.session.length ++ f.session ++ (en 2 (wnums 2 f.suites).length ++ wnums 2 f.suites ++ (en 1 f.comps.length ++ f.comps ++ Z)))) := by
      unfold chBodyB; rw [← hY, ← hZ]; simp only [List.append_assoc]
    rw [← this]
  have h4 : rd 4 (wCH f) = some (en 1 1 ++ en 3 (chBodyB f).length, en 2 f.vers ++ (f.random ++ (en 1 f.session.length ++ f.session ++ (en 2 (wnums 2 f.suites).length ++ wnums 2 f.suites ++ (en 1 f.comps.length ++ f.comps ++ Z))))) := by
    have h := rd_append (en 1 1 ++ en 3 (chBodyB f).length) (en 2 f.vers ++ (f.random ++ (en 1 f.session.length ++ f.session ++ (en 2 (wnums 2 f.suites).length ++ wnums 2 f.suites ++ (en 1 f.comps.length ++ f.comps ++ Z)))))
    rw [← e1] at h
    have hl4 : (en 1 1 ++ en 3 (chBodyB f).length).length = 4 := by simp [en_length]
    rwa [hl4] at h
  have h32 : ∀ r, rd 32 (f.random ++ r) = some (f.random, r) := fun r => by
    have h := rd_append f.random r
    rwa [hS.random] at h
  have b1 : be (en 2 f.vers) = f.vers := by rw [be_en]; exact Nat.mod_eq_of_lt (by have := hS.vers; omega)
  have hw := twords_wnums f.suites (wnums 2 f.suites).length hS.suites (by rw [wnums_len]; omega)
  have hh : chHead (wCH f) = some ({ vers := f.vers, random := f.random, session := f.session, suites := f.suites, comps := f.comps, srs := decide (255 ∈ f.suites), exts := [] }, Z) := by
    unfold chHead
    rw [h4, Option.bind_some]
    simp only
    rw [rd_en, Option.bind_some]
    simp only
    rw [h32, Option.bind_some]
    simp only
    rw [rdv_append (k := 1) (by have := hS.session; omega), Option.bind_some]
    simp only
    rw [rdv_append (k := 2) (by rw [wnums_len]; have := hS.suitesn; omega), Option.bind_some]
    simp only
    rw [hw, Option.bind_some, rdv_append (k := 1) (by have := hS.comps; omega), Option.map_some]
    simp only [b1]
  unfold chRead
  rw [hh, Option.bind_some]
  simp only
  obtain ⟨E, hfold⟩ := chX_fold f hS hc
  refine ⟨E, ?_⟩
  by_cases hy : Y = []
  · rw [if_pos hy] at hZ
    rw [if_pos hZ]
    have hz : chX f = [] := by
      have := encE_many (chX f)
      rw [← hY, hy] at this
      exact List.length_eq_zero_iff.1 (by simpa using this)
    rw [hz] at hfold
    exact hfold
  · rw [if_neg hy] at hZ
    have hr := rdv_append (k := 2) (x := Y) (r := []) (by rw [hY]; omega)
    rw [List.append_nil, ← hZ] at hr
    rw [if_neg (by rw [hZ]; simp [en]), hr, Option.bind_some]
    simp only [if_true]
    rw [← hfold, hY]
    refine chExts_enc (chX f) _ [] _ (fun e he => ⟨chX_types f e he, ?_⟩) (chX_nodup f) (by simp) (encE_many _)
    have := encE_mem he
    omega

end Go.Proofs.YtopcljikkdlffaaGreat
