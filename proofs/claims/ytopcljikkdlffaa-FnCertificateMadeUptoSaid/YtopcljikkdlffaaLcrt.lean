/- The statement FnCertificateMade (UptoSaid) is proved here: for every list of lists of bytes whose bulk is at most the statement's own bound (1048576) the law returns true. -/
import Derived.Test.YtopcljikkdlffaaCj
import Derived.ProofKit
import Derived.OpenShut
import Derived.ShutString
import Derived.ChangeOld
import Derived.Below
import Derived.JoinedCond
import Derived.Deep.Matrix
namespace Go.Proofs.Ytopcljikkdlffaa.fnCertificateMade
open Go.ChangeShapes Go.WideShapes Go.ChangeAt Go.RowKit
set_option linter.unusedVariables false

theorem own : ownKnob Try.prog.godebug = none := by kernel_rfl
theorem laidOut : laidOutB Try.prog = true := by kernel_rfl

theorem bulk_pos {H : Type} (d : DataW H) : 1 ≤ Rows.uptoBulk d := by
  cases d with
  | lit l => cases l <;> simp [Rows.uptoBulk]
  | nil => simp [Rows.uptoBulk]
  | ptr d => simp [Rows.uptoBulk]
  | slice elems spare => simp [Rows.uptoBulk]
  | agg parts => simp [Rows.uptoBulk]
  | iface t d => simp [Rows.uptoBulk]
  | map entries => simp [Rows.uptoBulk]
  | held h => simp [Rows.uptoBulk]

theorem bulk_len {H : Type} (l : List (DataW H)) : l.length ≤ Rows.uptoBulkAll l := by
  induction l with
  | nil => simp [Rows.uptoBulkAll]
  | cons x r ih => have := bulk_pos x; simp only [Rows.uptoBulkAll, List.length_cons]; omega

theorem bulk_lens {H : Type} (l : List Nat) (y : Nat → List UInt8) (f : Nat → DataW H) (h : ∀ r ∈ l, (y r).length ≤ Rows.uptoBulk (f r)) : lens (l.map y) ≤ Rows.uptoBulkAll (l.map f) := by
  induction l with
  | nil => simp [lens]
  | cons x r ih =>
    have h1 := h x (by simp)
    have h2 := ih fun r hr => h r (by simp [hr])
    have e : lens ((x :: r).map y) = (y x).length + lens (r.map y) := by simp [lens]
    rw [e]
    simp only [List.map_cons, Rows.uptoBulkAll]
    omega

theorem bulk_row {H : Type} {A : Option Addr} {L C : Nat} {zs : List Int} (hl : L ≤ C) (hz : zs.length = C) (hn : A = none → C = 0) : L ≤ Rows.uptoBulk (Deep.intRow (H := H) .u8 A L zs) := by
  cases A with
  | none => have := hn rfl; omega
  | some a =>
    simp only [Deep.intRow, Rows.uptoBulk]
    have h := bulk_len (lits (H := H) .u8 (zs.take L))
    have e : (lits (H := H) .u8 (zs.take L)).length = L := by simp [lits]; omega
    omega

set_option maxRecDepth 100000 in
/-- What came in is a list of lists, and it is small. -/
theorem lst_in {H : Type} {enc : TypeId × Value → H} {W : World} {a0 : Option Addr} {len0 cap0 : Nat} {d0 : DataW H} {p0 : List MemPlace} {spare : Nat} {held : Bool}
    (h0 : DataW.Trod enc Try.prog W 0 (fun _ => true) held 29 (.slice a0 len0 cap0) d0 p0) (hk : Rows.uptoBulk d0 ≤ 1048576) :
    ∃ L : List (List UInt8), LstB W W.heap.size (.slice a0 len0 cap0) L ∧ L.length ≤ 1048576 ∧ lens L ≤ 1048576 := by
  obtain ⟨fuel, hf⟩ := h0
  rcases Deep.open_int_rows Try.underlying29 Try.underlying22 Try.underlying5 (by kernel_rfl) (by kernel_rfl) hf with ⟨hcs, _⟩ | ⟨a, len, cap, A, Lf, Cf, Z, hcs, _, hl, hm, hx, hrow⟩
  · simp [Value.cells] at hcs
    obtain ⟨rfl, rfl, rfl⟩ := hcs
    exact ⟨[], .inl ⟨rfl, rfl⟩, by simp, by simp [lens]⟩
  · simp [Value.cells] at hcs
    obtain ⟨rfl, rfl, rfl⟩ := hcs
    simp only [Prod.mk.injEq] at hx
    obtain ⟨rfl, _⟩ := hx
    have each : ∀ r, r < len0 → ∃ s : List UInt8, s.length = Lf r ∧ SrcB W W.heap.size (.slice (A r) (Lf r) (Cf r)) s := by
      intro r hr
      obtain ⟨_, h1, h2, h3, h4, h5, h6⟩ := hrow r (by omega)
      refine row_src (zs := Z r) ?_
      cases hA : A r with
      | none =>
        have hc := h5 hA
        exact .inl ⟨rfl, by omega, hc, List.length_eq_zero_iff.1 (by omega)⟩
      | some x =>
        exact .inr ⟨x, rfl, h1, h2, h3, fun i hi => (h6 x hA).2 i (by omega), h4⟩
    obtain ⟨y, hy⟩ := Deep.choose_lt each
    simp only [Rows.uptoBulk] at hk
    have hX := Nat.le_trans (Nat.le_trans (Nat.le_add_right _ _) (Nat.le_succ _)) hk
    clear hk
    have hb1 := bulk_len ((List.range len0).map fun r => Deep.intRow (H := H) .u8 (A r) (Lf r) (Z r))
    have hb2 := bulk_lens (List.range len0) y (fun r => Deep.intRow (H := H) .u8 (A r) (Lf r) (Z r)) (fun r hr => by
      have hr' := List.mem_range.1 hr
      obtain ⟨_, h1, _, h3, _, h5, _⟩ := hrow r (by omega)
      rw [(hy r hr').1]
      exact bulk_row h1 h3 h5)
    refine ⟨(List.range len0).map y, .inr ⟨a, cap0, by simp, fun hne => ?_, fun j s hj => ?_⟩, by rw [List.length_map, List.length_range]; rw [List.length_map, List.length_range] at hb1; exact Nat.le_trans hb1 hX, Nat.le_trans hb2 hX⟩
    · have hpos : 0 < cap0 := by
        rcases Nat.eq_zero_or_pos len0 with h | h
        · subst h; simp at hne
        · omega
      have hc := (hrow 0 hpos).1
      have : (a.add 0).block < W.heap.size := by
        unfold World.cell? at hc
        rcases Nat.lt_or_ge (a.add 0).block W.heap.size with h | h
        · exact h
        · rw [Array.getElem?_eq_none h] at hc; cases hc
      rwa [add_block] at this
    · have hj' : j < len0 := by have := (List.getElem?_eq_some_iff.1 hj).1; simpa using this
      simp [hj'] at hj
      subst hj
      exact ⟨_, (hrow j (by omega)).1, (hy j hj').2⟩

set_option maxRecDepth 100000 in
theorem contract (H : Type) (enc : TypeId × Value → H) (W : World) (base : Nat) (args : Array Value) (ds gs : List (DataW H)) (before : List MemPlace)
    (hval : ∀ (j : Nat) t v, Try.f5.params[j]? = some t → args[j]? = some v → Value.okWide Try.prog W .any base t v)
    (hW : DataW.Whole enc Try.prog Try.f5.params.toList Rows.fnCertificateMadeSpec.vars false W args.toList ds gs before) (hk : Rows.uptoSmall H (ds ++ gs) = true) :
    Calls Try.prog 5 args W fun e W' => ∃ v, e = .returned v ∧ Rows.fnCertificateMadeSpec.post enc Try.prog Try.f5 false true false false W args v W' := by
  have hW' := hW
  obtain ⟨p, q, hA0, hV, rfl, hfz, hnd⟩ := hW
  have hA : DataW.TrodAll enc Try.prog W 0 (fun _ => true) true Try.f5.params.toList args.toList ds p := hA0
  rw [Try.params5] at hA hval
  obtain ⟨v0, vs0, d0, ds0, p0, q0, hargs, rfl, rfl, h0, r0⟩ := trodAll_cons hA
  obtain ⟨rfl, rfl, rfl⟩ := trodAll_nil r0
  obtain rfl : args = #[v0] := by cases args; simp_all
  obtain ⟨rfl, rfl⟩ := trodVars_none hV
  obtain ⟨a0, len0, cap0, rfl⟩ := okWide_slice Try.underlying29 (hval 0 29 v0 rfl rfl)
  have k0 := h0
  have lt0 : ∀ x ∈ p0, x.block < W.heap.size := by obtain ⟨m, hm⟩ := k0; exact DataW.trod_lt m _ _ _ hm
  have hb : Rows.uptoBulk d0 ≤ 1048576 := by
    have h := of_decide_eq_true hk
    simp only [List.cons_append, List.nil_append, Rows.uptoBulkAll] at h
    omega
  obtain ⟨L, hL, hn, hT⟩ := lst_in (spare := 0) h0 hb
  clear hA0
  refine (certMade_walk W hL hn hT).mono fun e W' ⟨he, bel⟩ => ?_
  subst he
  exact ⟨_, rfl, _, _, _, [], _, [], hW', trodAll_mk1 (shut_bool Try.underlying4 _), (trodAll_cons_mk (Below.trod laidOut (by kernel_rfl) (of_decide_eq_true (by kernel_rfl)) k0 bel lt0) trodAll_mk0), rfl, bel.frame _, fun h => by cases h⟩

set_option maxRecDepth 100000 in
theorem lifted (os : Os) (started : os.Started) (H : Type) (enc : TypeId × Value → H) (F : Stop.Interp) :
    ReturnsInHanded {} Try.checked os 5 .any ((Rows.OpenSpec.upto Rows.fnCertificateMadeSpec).pre6 enc Try.prog Try.f5 Rows.fnCertificateMadeUptoRow.domain false) (((Rows.OpenSpec.upto Rows.fnCertificateMadeSpec).at F).post enc Try.prog Try.f5 false true false false) := by
  refine returnsInHanded_of_cond (C := Try.checked) (s := Rows.OpenSpec.upto Rows.fnCertificateMadeSpec) (k := Rows.uptoSmall) rfl own started (by kernel_rfl) Try.func5
    (OpenSpec.witness (enc := enc) (C := Try.checked) (s := Rows.OpenSpec.upto Rows.fnCertificateMadeSpec) (k := Rows.uptoSmall) rfl false ⟨#[], #[.slice none 0 0], []⟩ 8 (by kernel_rfl) (by kernel_rfl) (by kernel_rfl)
      (x := ([.nil], [], [])) (by kernel_rfl) rfl (by kernel_rfl)) ?_
  intro W base args ds gs before hval hW _ hk _
  exact contract H enc W base args ds gs before hval hW hk

theorem over : Rows.fnCertificateMadeUptoRow.holds Try.pinned (Rows.OpenSpec.upto Rows.fnCertificateMadeSpec) :=
  OpenClaim.holds_of_cond 5 Try.f5 rfl rfl rfl rfl rfl rfl rfl ⟨rfl, rfl, rfl, rfl, rfl⟩ rfl rfl rfl rfl rfl (by kernel_rfl) Try.func5 (by kernel_rfl)
    (of_decide_eq_true (by kernel_rfl)) (by unfold Func.isWrapper; first | (rw [if_pos (by decide +kernel)]; kernel_rfl) | (rw [if_neg (by decide +kernel)]; exact ⟨rfl, rfl⟩))
    (fun os started H enc _ F => lifted os started H enc F)

/-- The statement. -/
theorem proved : Rows.FnCertificateMadeUptoSaid := over
#print axioms proved
end Go.Proofs.Ytopcljikkdlffaa.fnCertificateMade
