/- The reference reads a ServerHello: what is found. Rows of slices, fields by value, a struct put together: what the walks share. No statement of the seat is proved here. -/
import Derived.Test.YtopcljikkdlffaaX13
import Derived.Deep.DeepCutAuto
import Derived.Test.YtopcljikkdlffaaX11
import Derived.Test.YtopcljikkdlffaaX06
namespace Go.Proofs.Ytopcljikkdlffaa
open Go.RowKit

/-- Bytes that came in: fewer than four, at whatever address; or a view. -/
def InB (w : World) (lo : Nat) (v : Value) (bs : List UInt8) : Prop :=
  (∃ a cap, v = .slice a bs.length cap ∧ bs.length < 4) ∨ (4 ≤ bs.length ∧ ∃ (C : Array Value) (g : Nat) (T : TypeId) (fr : Nat × Nat), g < lo ∧ w.heap[g]? = some (.cells C T fr) ∧ View C g v bs)

theorem InB.slice {w : World} {lo : Nat} {v : Value} {bs : List UInt8} (h : InB w lo v bs) : ∃ a cap, v = .slice a bs.length cap := by
  rcases h with ⟨a, cap, h, _⟩ | ⟨_, C, g, T, fr, _, _, off, cap, h, _⟩
  · exact ⟨a, cap, h⟩
  · exact ⟨_, cap, h⟩

theorem InB.below {w w' : World} {lo : Nat} {v : Value} {bs : List UInt8} (h : InB w lo v bs) (hb : Below lo w w') : InB w' lo v bs := by
  rcases h with h | ⟨h4, C, g, T, fr, hl, hg, hv⟩
  · exact .inl h
  · exact .inr ⟨h4, C, g, T, fr, hl, (hb.block g hl).trans hg, hv⟩

/-- The head of a message, of however many bytes. -/
def rbody0 (kind : Nat) (bs : List UInt8) : Nat × List UInt8 := if bs.length < 4 then (1, []) else rbody kind bs

/-- The head of a message, of however many bytes; gx: a block that is there. -/
theorem body_any {v : Value} {bs : List UInt8} {gx lo : Nat} {Cx : Array Value} {Tx : TypeId} {frx : Nat × Nat} (kind : Nat) (w : World) (hIn : InB w lo v bs) (hx : w.heap[gx]? = some (.cells Cx Tx frx)) :
    Calls Try.prog 48 #[.int .i64 kind, v] w fun e w' => e = .returned (.pointer (some ⟨w.heap.size, 0, none⟩)) ∧ Fs [] w w' ∧
      ∃ (C : Array Value) (g : Nat) (T : TypeId) (fr : Nat × Nat), RAt w' w.heap.size C g (rbody0 kind bs) ∧ w'.heap[g]? = some (.cells C T fr) ∧ g < w.heap.size ∧ (g = gx ∨ g < lo) := by
  rcases hIn with ⟨a, cap, rfl, h4⟩ | ⟨h4, C, g, T, fr, hlo, hg, hV⟩
  · refine (body_short (C := Cx) (g := gx) kind w h4).mono ?_
    rintro e w' ⟨rfl, hr, hf⟩
    exact ⟨rfl, hf, Cx, gx, Tx, frx, by unfold rbody0; rw [if_pos h4]; exact hr, (hf.keep gx (lt_of_heap hx) (by simp)).trans hx, lt_of_heap hx, .inl rfl⟩
  · refine (body_ok kind w h4 hg hV).mono ?_
    rintro e w' ⟨rfl, hr, hf⟩
    exact ⟨rfl, hf, C, g, T, fr, by unfold rbody0; rw [if_neg (by omega)]; exact hr, (hf.keep g (lt_of_heap hg) (by simp)).trans hg, lt_of_heap hg, .inr hlo⟩

theorem own_fs {w w' : World} {base n : Nat} {e : TypeId} {size : Nat} {v : Value} {xs : List Value} {l : List Nat} (h : w.ownsRow base e size v n xs) (hf : Fs l w w') (hl : ∀ p ∈ l, ∃ (D : Array Value) (T : TypeId) (fr : Nat × Nat), w.heap[p]? = some (.cells D T fr) ∧ T ≠ e) : w'.ownsRow base e size v n xs := by
  refine ⟨h.1, ?_⟩
  rcases h.2 with h2 | ⟨g, cap, cur, hv, hg, hh, r⟩
  · exact .inl h2
  · refine .inr ⟨g, cap, cur, hv, hg, (hf.keep g (lt_of_heap hh) ?_).trans hh, r⟩
    intro hm
    obtain ⟨D, T, fr, hp, hT⟩ := hl g hm
    rw [hp] at hh
    simp only [Option.some.injEq, Obj.cells.injEq] at hh
    exact hT hh.2.1

/-- The cells of a ServerHello that nothing was said of. -/
def zero22 : Array Value := #[.int .u16 0, .slice none 0 0, .slice none 0 0, .int .u16 0, .int .u8 0, .bool false, .bool false, .bool false, .slice none 0 0, .bool false, .string ⟨#[]⟩, .slice none 0 0, .int .u16 0, .int .u16 0, .slice none 0 0, .bool false, .int .u16 0, .slice none 0 0, .slice none 0 0, .bool false, .slice none 0 0, .int .u16 0]

/-- The session's id: one of more than 32 bytes is not spoken of. -/
def rsess (st : Nat × List UInt8) : Nat × List UInt8 := if (rvec 1 0 255 st).2.1 = 0 ∧ 32 < (rvec 1 0 255 st).1.length then rfail 1 (rvec 1 0 255 st).2 else (rvec 1 0 255 st).2

/-- What is found of a ServerHello ahead of its extensions. -/
def rshHead (bs : List UInt8) : Nat × List UInt8 := (rnum 1 (rnum 2 (rsess (rnum 32 (rnum 2 (rbody0 2 bs)).2).2)).2).2

/-- What its extensions leave, one behind the other. -/
def RLoop : List (Nat × List UInt8) → Nat × List UInt8 → Nat × List UInt8 → Prop
  | [], st, st' => st' = st
  | e :: l, st, st' => ∃ b, RLoop l (rdone st (rsext e.1 b (rin st e.2))) st'

theorem RLoop.snoc {l : List (Nat × List UInt8)} {e : Nat × List UInt8} : ∀ {st s1 : Nat × List UInt8} (b : Bool), RLoop l st s1 → RLoop (l ++ [e]) st (rdone s1 (rsext e.1 b (rin s1 e.2))) := by
  induction l with
  | nil => intro st s1 b h; subst h; exact ⟨b, rfl⟩
  | cons x l ih => intro st s1 b h; obtain ⟨b', h⟩ := h; exact ⟨b', ih b h⟩

/-- What is found of a ServerHello. -/
def RshEnd (bs : List UInt8) (code : Nat) : Prop :=
  (((rshHead bs).1 ≠ 0 ∨ (rshHead bs).2 = []) ∧ code = (rshHead bs).1) ∨
    ((rshHead bs).1 = 0 ∧ (rshHead bs).2 ≠ [] ∧ ∃ st', RLoop (rextensions (rshHead bs)).1 (rend (rextensions (rshHead bs)).2) st' ∧ code = st'.1)

def RshPost (w : World) (bs : List UInt8) (e : Ending) (w' : World) : Prop := ∃ (D : Array Value) (code : Nat), e = .returned (.tuple #[.agg D, .int .i64 code]) ∧ RshEnd bs code ∧ Below w.heap.size w w' ∧ D.size = 22 ∧ D.all (·.oneCell') = true

set_option maxRecDepth 100000 in
set_option maxHeartbeats 4000000 in
theorem rsh_ok {v : Value} {bs : List UInt8} (w : World) (hIn : InB w w.heap.size v bs) : Calls Try.prog 24 #[v] w (RshPost w bs) := by
  obtain ⟨a, cap, rfl⟩ := hIn.slice
  have HIN := Lib.hid hIn
  clear hIn
  go_enter Try.func24, Try.ntmps24
  go_wp2_with fail
  obtain ⟨W, hW⟩ : ∃ x, x = (w.alloc (.cells zero22 37)).alloc (.cells zero22 37) := ⟨_, rfl⟩
  change Calls _ _ _ ((w.alloc (.cells zero22 37)).alloc (.cells zero22 37)) _
  rw [← hW]
  obtain ⟨r0, hr0⟩ : ∃ x, x = w.heap.size := ⟨_, rfl⟩
  have hWs : W.heap.size = r0 + 2 := by rw [hW, hr0]; simp
  have hZ : W.heap[r0]? = some (.cells zero22 37 (0, 0)) := by rw [hW, hr0, Below.heap_alloc _ _ _ (by simp)]; exact heap_alloc_new _ _
  have hM0 : MAt W (r0 + 1) := ⟨zero22, by rw [hW, hr0]; have h := heap_alloc_new (w.alloc (.cells zero22 37)) (.cells zero22 37); rwa [World.size_alloc] at h, rfl, ⟨0, rfl⟩, ⟨none, 0, 0, rfl⟩, by simp [zero22, Value.oneCell']⟩
  have hB0 : Below r0 w W := by rw [hW, hr0]; exact ((Below.refl _ w).alloc (Nat.le_refl _) _).alloc (by simp) _
  rw [← hr0] at HIN ⊢
  have hIn := HIN.out.below hB0
  have HB0 := Lib.hid hB0
  have HZ := Lib.hid hZ
  have HM0 := Lib.hid hM0
  have HR0 := Lib.hid hr0
  clear hW hr0 hB0 hM0
  refine (body_any 2 W hIn hZ).mono ?_
  rintro e w1 ⟨rfl, hf1, C, g, T, fr, hr1, hg1, hgl, hgx⟩
  rw [hWs] at hr1 hgl ⊢
  have hgc : g ≠ r0 + 2 := by omega
  have hgm : g ≠ r0 + 1 := by omega
  have hcm : r0 + 2 ≠ r0 + 1 := by omega
  have hmc : r0 + 1 ≠ r0 + 2 := by omega
  have hgW : g < W.heap.size := by omega
  have HG := Lib.hid ((hf1.keep g (by omega) (by simp)).symm.trans hg1)
  have HR1 := Lib.hid hr1
  have HM1 := Lib.hid (HM0.out.fs hf1 (by simp))
  have HF1 := Lib.hid (hf1.mono (l' := [r0 + 2, r0 + 1]) (by simp))
  clear hIn hZ hf1 hr1 hg1 hgx hgl
  have gk : ∀ wx, Fs [r0 + 2, r0 + 1] W wx → wx.heap[g]? = some (.cells C T fr) := fun wx hf => (hf.keep g hgW (by simp; omega)).trans HG.out
  have GK := Lib.hid gk
  clear gk
  go_wp2_with fail
  refine (num_ok 2 w1 (by omega) (GK.out _ HF1.out) hgc HR1.out).mono ?_
  rintro e w2 ⟨rfl, hr, hf⟩
  have HR2 := Lib.hid hr
  have hm := HM1.out.fs (hf.fs (l := [r0 + 2]) (by simp)) (by simp)
  obtain ⟨u0, q0⟩ := hm.cell 0 (by omega)
  have qz := hm.frozen 0
  have HM2 := Lib.hid hm
  have HF2 := Lib.hid (HF1.out.trans (hf.fs (by simp)))
  clear hr hf hm
  obtain ⟨s2, hs2⟩ : ∃ x, x = rnum 2 (rbody0 2 bs) := ⟨_, rfl⟩
  rw [← hs2] at HR2 ⊢
  have HS2 := Lib.hid hs2
  clear hs2
  go_wp2_with fail
  refine (take_any 32 _ (by omega) (GK.out _ (HF2.out.setCell (r0 + 1) 0 _ (by simp))) hgc (HR2.out.setOther _ _ _ hcm)).mono ?_
  rintro e w3 ⟨u3, b3, rfl, hb3, hs3, _, hr, hf⟩
  obtain ⟨a3, c3, rfl⟩ := hs3.len
  have HR3 := Lib.hid hr
  have hm := (HM2.out.set 0 _ (by omega) (by omega)).fs (hf.fs (l := [r0 + 2]) (by simp)) (by simp)
  obtain ⟨u1, q1⟩ := hm.cell 1 (by omega)
  have qz1 := hm.frozen 1
  have HM3 := Lib.hid hm
  have HF3 := Lib.hid ((HF2.out.setCell (r0 + 1) 0 _ (by simp)).trans (hf.fs (by simp)))
  clear hr hf hm hs3 q0 qz
  rw [hb3]
  go_wp2_with fail
  refine (vec_ok 1 0 255 _ (by omega) (GK.out _ (HF3.out.setCell (r0 + 1) 1 _ (by simp))) hgc (HR3.out.setOther _ _ _ hcm)).mono ?_
  rintro e w4 ⟨u4, rfl, hv4, hr, hf⟩
  obtain ⟨s4, hs4⟩ : ∃ x, x = rvec 1 0 255 (rnum 32 s2.2).2 := ⟨_, rfl⟩
  rw [← hs4] at hr hv4
  obtain ⟨a4, c4, rfl, hl4, hm4⟩ := hv4.len
  have hm := (HM3.out.set 1 _ (by omega) (by omega)).fs (hf.fs (l := [r0 + 2]) (by simp)) (by simp)
  obtain ⟨u2, q2⟩ := hm.cell 2 (by omega)
  have qz2 := hm.frozen 2
  obtain ⟨v4, k4⟩ := s4
  obtain ⟨code4, bs4⟩ := k4
  obtain ⟨vr, hh, hvr⟩ := id hr
  obtain ⟨ar, cr, rfl, _, _⟩ := hvr.len
  simp only at hh
  have p0 : w4.cell? ⟨r0 + 2, 0, none⟩ = some (.slice ar bs4.length cr) := by rw [cell_of_heap hh]; rfl
  have p1 : w4.cell? ⟨r0 + 2, 1, none⟩ = some (.int .i64 code4) := by rw [cell_of_heap hh]; rfl
  have HS4 := Lib.hid hs4
  have HR4 := Lib.hid hr
  have HM4 := Lib.hid hm
  have HF4 := Lib.hid ((HF3.out.setCell (r0 + 1) 1 _ (by simp)).trans (hf.fs (by simp)))
  clear hr hf hm hs4 q1 qz1 hh hvr hv4
  have hse : rsess (rnum 32 s2.2).2 = if code4 = 0 ∧ 32 < v4.length then rfail 1 (code4, bs4) else (code4, bs4) := by
    unfold rsess; rw [← HS4.out]
  have HSE := Lib.hid hse
  have p2 : (w4.setCell ⟨r0 + 1, 2, none⟩ (.slice a4 v4.length c4)).cell? ⟨r0 + 1, 2, none⟩ = some (.slice a4 v4.length c4) := cell_same q2
  clear hse
  go_upto_region 6 with (fail)
  go_cut [32] (fun s w5 => s = .bool (decide (code4 = 0 ∧ 32 < v4.length)) ∧ RAt w5 (r0 + 2) C g (code4, bs4) ∧ MAt w5 (r0 + 1) ∧ Fs [r0 + 2, r0 + 1] W w5)
  case first =>
    have HR5 := Lib.hid (HR4.out.setOther (r0 + 1) 2 (.slice a4 v4.length c4) hcm)
    have HM5 := Lib.hid (HM4.out.set 2 (.slice a4 v4.length c4) (by omega) (by omega))
    have HF5 := Lib.hid (HF4.out.setCell (r0 + 1) 2 (.slice a4 v4.length c4) (by simp))
    by_cases h0 : code4 = 0
    · subst h0
      by_cases h1 : 32 < v4.length
      · have hd : decide (((v4.length : Nat) : Int) > 32) = true := by simp; omega
        go_wp2_with fail
        go_meet
        case rel => exact ⟨by simp [h1], HR5.out, HM5.out, HF5.out⟩
      · have hd : decide (((v4.length : Nat) : Int) > 32) = false := by simp; omega
        have hd2 : ¬ ((v4.length : Nat) : Int) > 32 := by omega
        go_wp2_with fail
        go_meet
        case rel => exact ⟨by simp [h1], HR5.out, HM5.out, HF5.out⟩
    · have hd : (((code4 : Nat) : Int) == 0) = false := by simpa using h0
      have hd2 : ¬ ((code4 : Nat) : Int) = 0 := by omega
      go_wp2_with fail
      go_meet
      case rel => exact ⟨by simp [h0], HR5.out, HM5.out, HF5.out⟩
  case rest =>
    obtain ⟨rfl, hr5, hm5, hf5⟩ := hcut
    have HR5 := Lib.hid hr5
    have HM5 := Lib.hid hm5
    have HF5 := Lib.hid hf5
    clear hr5 hm5 hf5 p0 p1 p2 q2 qz2 HR4 HM4 HF4 HR3 HM3 HF3 HR2 HM2 HF2
    go_upto_if 32 with (fail)
    go_cut [] (fun w6 => RAt w6 (r0 + 2) C g (rsess (rnum 32 s2.2).2) ∧ MAt w6 (r0 + 1) ∧ Fs [r0 + 2, r0 + 1] W w6)
    case first =>
      by_cases hb : code4 = 0 ∧ 32 < v4.length
      · simp only [hb, decide_true, and_self]
        go_wp2_with fail
        refine (fail_ok 1 _ HR5.out).mono ?_
        rintro e w6 ⟨rfl, hr, hf⟩
        have HR6 := Lib.hid hr
        have HM6 := Lib.hid (HM5.out.fs (hf.fs (l := [r0 + 2]) (by simp)) (by simp))
        have HF6 := Lib.hid (HF5.out.trans (hf.fs (by simp)))
        clear hr hf
        go_wp2_with fail
        go_meet
        case rel => exact ⟨by rw [HSE.out, if_pos hb]; exact HR6.out, HM6.out, HF6.out⟩
      · simp only [hb, decide_false]
        go_wp2_with fail
        go_meet
        case rel => exact ⟨by rw [HSE.out, if_neg hb]; exact HR5.out, HM5.out, HF5.out⟩
    case rest =>
      obtain ⟨hr6, hm6, hf6⟩ := hcut
      obtain ⟨s6, hs6⟩ : ∃ x, x = rsess (rnum 32 s2.2).2 := ⟨_, rfl⟩
      rw [← hs6] at hr6
      have HS6 := Lib.hid hs6
      have HR6 := Lib.hid hr6
      have HM6 := Lib.hid hm6
      have HF6 := Lib.hid hf6
      clear hr6 hm6 hf6 hs6 HR5 HM5 HF5 HSE HS4
      obtain ⟨wd, rfl⟩ : ∃ x, x = wc := ⟨_, rfl⟩
      go_wp2_with fail
      refine (num_ok 2 wd (by omega) (GK.out _ HF6.out) hgc HR6.out).mono ?_
      rintro e w7 ⟨rfl, hr, hf⟩
      obtain ⟨s7, hs7⟩ : ∃ x, x = rnum 2 s6 := ⟨_, rfl⟩
      rw [← hs7] at hr ⊢
      have hm := HM6.out.fs (hf.fs (l := [r0 + 2]) (by simp)) (by simp)
      obtain ⟨u3', q3⟩ := hm.cell 3 (by omega)
      have qz3 := hm.frozen 3
      have HS7 := Lib.hid hs7
      have HR7 := Lib.hid hr
      have HM7 := Lib.hid hm
      have HF7 := Lib.hid (HF6.out.trans (hf.fs (by simp)))
      clear hr hf hm hs7
      go_wp2_with fail
      refine (num_ok 1 _ (by omega) (GK.out _ (HF7.out.setCell (r0 + 1) 3 _ (by simp))) hgc (HR7.out.setOther _ _ _ hcm)).mono ?_
      rintro e w8 ⟨rfl, hr, hf⟩
      obtain ⟨s8, hs8⟩ : ∃ x, x = rnum 1 s7.2 := ⟨_, rfl⟩
      rw [← hs8] at hr ⊢
      have hm := (HM7.out.set 3 _ (by omega) (by omega)).fs (hf.fs (l := [r0 + 2]) (by simp)) (by simp)
      obtain ⟨u4', q4⟩ := hm.cell 4 (by omega)
      have qz4 := hm.frozen 4
      obtain ⟨n8, code8, bs8⟩ := s8
      obtain ⟨vr, hh, hvr⟩ := id hr
      obtain ⟨ar8, cr8, rfl, _, _⟩ := hvr.len
      simp only at hh hr
      have p0 : w8.cell? ⟨r0 + 2, 0, none⟩ = some (.slice ar8 bs8.length cr8) := by rw [cell_of_heap hh]; rfl
      have p1 : w8.cell? ⟨r0 + 2, 1, none⟩ = some (.int .i64 code8) := by rw [cell_of_heap hh]; rfl
      have hhead : rshHead bs = (code8, bs8) := by
        unfold rshHead
        rw [← HS2.out, ← HS6.out, ← HS7.out, ← hs8]
      have HHEAD := Lib.hid hhead
      have HR8 := Lib.hid hr
      have HM8 := Lib.hid hm
      have HF8 := Lib.hid ((HF7.out.setCell (r0 + 1) 3 _ (by simp)).trans (hf.fs (by simp)))
      clear hr hf hm hs8 hh hvr q3 qz3 hhead HS2 HS6 HS7 HR6 HM6 HF6
      go_upto_region 10 with (fail)
      go_cut [55] (fun s w9 => s = .bool (decide (code8 ≠ 0 ∨ bs8 = [])) ∧ RAt w9 (r0 + 2) C g (code8, bs8) ∧ MAt w9 (r0 + 1) ∧ Fs [r0 + 2, r0 + 1] W w9)
      case first =>
        have HR9 := Lib.hid (HR8.out.setOther (r0 + 1) 4 (.int .u8 (IntKind.u8.wrap ((n8 : Nat) : Int))) hcm)
        have HM9 := Lib.hid (HM8.out.set 4 (.int .u8 (IntKind.u8.wrap ((n8 : Nat) : Int))) (by omega) (by omega))
        have HF9 := Lib.hid (HF8.out.setCell (r0 + 1) 4 (.int .u8 (IntKind.u8.wrap ((n8 : Nat) : Int))) (by simp))
        by_cases h0 : code8 = 0
        · subst h0
          by_cases h1 : bs8 = []
          · subst h1
            go_wp2_with fail
            go_meet
            case rel => exact ⟨by simp, HR9.out, HM9.out, HF9.out⟩
          · have hl0 : ¬ bs8.length = 0 := fun h => h1 (List.length_eq_zero_iff.1 h)
            have hl : (((bs8.length : Nat) : Int) == 0) = false := by simpa using hl0
            have hl2 : ¬ ((bs8.length : Nat) : Int) = 0 := by omega
            go_wp2_with fail
            go_meet
            case rel => exact ⟨by simp [h1], HR9.out, HM9.out, HF9.out⟩
        · have hd : (((code8 : Nat) : Int) == 0) = false := by simpa using h0
          have hd2 : ¬ ((code8 : Nat) : Int) = 0 := by omega
          go_wp2_with fail
          go_meet
          case rel => exact ⟨by simp [h0], HR9.out, HM9.out, HF9.out⟩
      case rest =>
        obtain ⟨rfl, hr9, hm9, hf9⟩ := hcut
        have HR9 := Lib.hid hr9
        have HM9 := Lib.hid hm9
        have HF9 := Lib.hid hf9
        clear hr9 hm9 hf9 p0 p1 q4 qz4 HR8 HM8 HF8 HR7 HM7 HF7
        have hend1 : ∀ (w9 : World) (code9 : Nat) (bs9 : List UInt8), RAt w9 (r0 + 2) C g (code9, bs9) → MAt w9 (r0 + 1) → Fs [r0 + 2, r0 + 1] W w9 → RshEnd bs code9 →
            ∃ D : Array Value, w9.heap[r0 + 1]? = some (.cells D 37 (0, 0)) ∧ (Try.prog.info? 37).map (·.size) = some D.size ∧ D.all (·.oneCell') = true ∧ w9.heap[r0]? = some (.cells zero22 37 (0, 0)) ∧ zero22.size = D.size ∧
              RshPost w bs (.returned (.tuple #[.agg D, .int .i64 code9])) ((w9.drew).setRow r0 D) := by
          intro w9 code9 bs9 hr hm hf he
          obtain ⟨D, hD, hDs, _, _, hD1⟩ := hm
          have hz : w9.heap[r0]? = some (.cells zero22 37 (0, 0)) := (hf.keep r0 (by omega) (by simp)).trans HZ.out
          refine ⟨D, hD, by rw [hDs]; kernel_rfl, hD1, hz, by rw [hDs]; rfl, D, code9, rfl, he, ?_, hDs, hD1⟩
          rw [← HR0.out]
          refine ⟨hf.os.trans HB0.out.os, hf.tape.trans HB0.out.tape, hf.output.trans HB0.out.output, ?_, fun k hk => ?_⟩
          · rw [size_setRow]
            have := hf.size
            have h0 := HR0.out
            show w.heap.size ≤ w9.heap.size
            omega
          · rw [setRow_other _ _ _ _ (by omega)]
            exact (hf.keep k (by omega) (by simp; omega)).trans (HB0.out.block k hk)
        have HEND := Lib.hid hend1
        clear hend1
        by_cases hb : code8 ≠ 0 ∨ bs8 = []
        · have hend : RshEnd bs code8 := .inl ⟨by rw [HHEAD.out]; exact hb, by rw [HHEAD.out]⟩
          simp only [hb, decide_true]
          obtain ⟨D, hD, hDi, hD1, hz, hzs, hpost⟩ := HEND.out _ _ _ HR9.out HM9.out HF9.out hend
          obtain ⟨vr, hh, hvr⟩ := HR9.out
          have p1 : wc.cell? ⟨r0 + 2, 1, none⟩ = some (.int .i64 code8) := by rw [cell_of_heap hh]; rfl
          have HP := Lib.hid hpost
          have HZ9 := Lib.hid hz
          have HD := Lib.hid hD
          clear hz hD hh hvr hpost
          go_wp2_with fail
          refine region_ord [(0, true), (1, true), (2, true), (3, true), (4, true), (5, false), (6, true)] (fun w' => w'.heap[r0 + 1]? = some (.cells D 37 (0, 0)) ∧ w'.cell? ⟨r0 + 2, 1, none⟩ = some (.int .i64 code8)) mixed (by kernel_rfl) (by kernel_rfl) rfl (by intro c a d v w h; cases d <;> exact h) ⟨HD.out, p1⟩ ?_
          apply wpOrd_pure rfl rfl
          refine ⟨.agg D, fun w' hS => exec_load_row 37 (.tmp 4) rfl (r0 + 1) rfl 37 D (0, 0) _ hS.1 Try.underlying37 rfl hDi, ?_⟩
          simp only [List.getElem_toArray, List.getElem_cons_succ, List.getElem_cons_zero, Act.put, List.setIfInBounds_toArray, List.set_cons_zero, List.set_cons_succ]
          iterate 4 (apply wpOrd_pure rfl rfl; apply Exists.intro; refine ⟨fun w' hS => ?_, ?_⟩; (· (have hS2 := hS.2; clear hS; first | (go_simp; done) | (go_simp; with_reducible rfl))); simp only [List.getElem_toArray, List.getElem_cons_succ, List.getElem_cons_zero, Act.put, List.setIfInBounds_toArray, List.set_cons_zero, List.set_cons_succ])
          refine wpOrd_run rfl rfl (fun K hK => ?_)
          refine wp_store_row 37 (.tmp 2) (.tmp 56) rfl r0 D rfl rfl 37 zero22 HZ9.out hDi hzs hD1 ?_
          refine hK _ _ (fun _ => ⟨(setRow_other _ _ _ _ (by omega)).trans HD.out, (cell_setRow_other _ _ _ _ (by show r0 + 2 ≠ r0; omega)).trans p1⟩) ?_
          clear hK K
          simp only [List.getElem_toArray, List.getElem_cons_succ, List.getElem_cons_zero, Act.put, List.setIfInBounds_toArray, List.set_cons_zero, List.set_cons_succ]
          iterate 1 (apply wpOrd_pure rfl rfl; apply Exists.intro; refine ⟨fun w' hS => ?_, ?_⟩; (· (have hS2 := hS.2; clear hS; first | (go_simp; done) | (go_simp; with_reducible rfl))); simp only [List.getElem_toArray, List.getElem_cons_succ, List.getElem_cons_zero, Act.put, List.setIfInBounds_toArray, List.set_cons_zero, List.set_cons_succ])
          refine wpOrd_nil ?_
          go_wp2_with fail
          refine ret_row_tmp (.int .i64 code8) rfl r0 37 D (0, 0) _ rfl rfl (setRow_heap _ _ _ _ _ _ HZ9.out) Try.underlying37 rfl hDi rfl HP.out
        · have hb2 : code8 = 0 ∧ bs8 ≠ [] := by
            rw [not_or] at hb
            exact ⟨Decidable.of_not_not hb.1, hb.2⟩
          simp only [hb, decide_false]
          obtain ⟨rfl, hb3⟩ := hb2
          have hn : rshHead bs = (0, bs8) := HHEAD.out
          have HB3 := Lib.hid hb3
          have HHD := Lib.hid hn
          clear hb hb3 hn HHEAD
          go_wp2_with fail
          refine (rextensions_ok wc (GK.out _ HF9.out) hgc HR9.out).mono ?_
          rintro e w10 ⟨o, rfl, ho, hr, hf⟩
          obtain ⟨E, hE⟩ : ∃ x, x = rextensions (0, bs8) := ⟨_, rfl⟩
          rw [← hE] at ho hr
          obtain ⟨L, s10⟩ := E
          simp only at ho hr
          obtain ⟨xs, hown, hlt, hus⟩ := ho
          obtain ⟨ao, co, rfl⟩ := row_slice hown
          have HE := Lib.hid hE
          have HR10 := Lib.hid hr
          have HM10 := Lib.hid (HM9.out.fs hf (by simp))
          have HF10 := Lib.hid (HF9.out.trans (hf.mono (by simp)))
          have HO10 := Lib.hid hown
          have HLT := Lib.hid hlt
          have HUS := Lib.hid hus
          clear hr hf hown hlt hus hE HR9 HM9 HF9
          go_wp2_with fail
          refine (end_ok w10 HR10.out).mono ?_
          rintro e w11 ⟨rfl, hr, hf⟩
          have ho11 := own_fs HO10.out (hf.fs (l := [r0 + 2]) (by simp)) (fun p hp => by
            obtain rfl : p = r0 + 2 := by simpa using hp
            obtain ⟨v', hh', _⟩ := HR10.out
            exact ⟨_, _, _, hh', by decide⟩)
          have HO11 := Lib.hid ho11
          have HR11 := Lib.hid hr
          have HM11 := Lib.hid (HM10.out.fs (hf.fs (l := [r0 + 2]) (by simp)) (by simp))
          have HF11 := Lib.hid (HF10.out.trans (hf.fs (by simp)))
          clear hr hf ho11 HR10 HM10 HF10 HO10
          go_wp2_with fail
          go_loopw [67] (fun i wr => ∃ (j : Nat) (st : Nat × List UInt8), i = .int .i64 j ∧ j ≤ L.length ∧ RLoop (L.take j) (rend s10) st ∧ RAt wr (r0 + 2) C g st ∧ MAt wr (r0 + 1) ∧ Fs [r0 + 2, r0 + 1] w11 wr) (fun i _ => L.length - (intOf i).toNat)
          case atStart => exact ⟨0, rend s10, rfl, Nat.zero_le _, rfl, HR11.out, HM11.out, Fs.refl _ _⟩
          case round =>
            obtain ⟨j, st, rfl, hj, hrl, hr, hm, hf⟩ := hrel
            have HRL := Lib.hid hrl
            have HR := Lib.hid hr
            have HM := Lib.hid hm
            have HF := Lib.hid hf
            by_cases hjn : j < L.length
            · obtain ⟨ob, cap7, cur, hv7, hob, hh7, hc1, hc2, hc3, hc4⟩ : ∃ g cap cur, Value.slice ao L.length co = .slice (some ⟨g, 0, none⟩) L.length cap ∧ wc.heap.size ≤ g ∧ w11.heap[g]? = some (.cells cur 85 (0, 0)) ∧ L.length ≤ cap ∧ cap ≤ maxLen ∧ cur.size = cap * 2 ∧ cur.toList.take (L.length * 2) = xs := by
                rcases HO11.out.2 with ⟨_, h⟩ | h
                · omega
                · exact h
              simp only [Value.slice.injEq, true_and] at hv7
              obtain ⟨rfl, rfl⟩ := hv7
              unfold maxLen at hc2
              have hown7 := own_fs HO11.out HF.out (fun p hp => by
                simp at hp
                rcases hp with rfl | rfl
                · obtain ⟨v', hh', _⟩ := HR11.out
                  exact ⟨_, _, _, hh', by decide⟩
                · obtain ⟨D', hh', _⟩ := HM11.out
                  exact ⟨_, _, _, hh', by decide⟩)
              obtain ⟨hx1, ux, hx2, hx3⟩ := HUS.out j L[j] (List.getElem?_eq_getElem hjn)
              have q0 : wr.cell? ⟨ob, j * 2, none⟩ = some (.int .u16 (L[j].1 : Nat)) := by rw [hown7.cellAt (j * 2) (by omega), Nat.mul_comm j 2]; exact hx1
              have q1 : wr.cell? ⟨ob, j * 2 + 1, none⟩ = some ux := by rw [hown7.cellAt (j * 2 + 1) (by omega), Nat.mul_comm j 2]; exact hx2
              have hkind := HLT.out L[j] (List.getElem_mem hjn)
              obtain ⟨x, hx⟩ : ∃ x, x = L[j] := ⟨_, rfl⟩
              rw [← hx] at q0 hx3 hkind
              have hsn : RLoop (L.take j) (rend s10) st := hrl
              have hstep : ∀ b, RLoop (L.take (j + 1)) (rend s10) (rdone st (rsext x.1 b (rin st x.2))) := by
                intro b
                rw [List.take_add_one, List.getElem?_eq_getElem hjn, ← hx]
                exact RLoop.snoc b hsn
              have HSTEP := Lib.hid hstep
              have HX3 := Lib.hid hx3
              obtain ⟨ax, cx, rfl, _, _⟩ := hx3.len
              have hszr := HF.out.size
              have hsz11 := HF11.out.size
              obtain ⟨kind, bx⟩ := x
              simp only at q0 hkind
              clear hrl hr hm hf hh7 hc4 hown7 hx1 hx2 hx3 hx hstep hsn
              go_wp2_with fail
              obtain ⟨wA, hwA⟩ : ∃ y, y = wr.alloc (Obj.cells #[Value.int .u16 (kind : Nat), Value.slice ax bx.length cx] 85) := ⟨_, rfl⟩
              rw [← hwA]
              have hAs : wA.heap.size = wr.heap.size + 1 := by rw [hwA]; simp
              have hAe : wA.heap[wr.heap.size]? = some (.cells #[.int .u16 (kind : Nat), .slice ax bx.length cx] 85 (0, 0)) := by rw [hwA]; exact heap_alloc_new _ _
              have hAf : Fs [] wr wA := by rw [hwA]; exact ⟨rfl, rfl, rfl, by simp, fun k hk _ => Below.heap_alloc _ _ _ hk⟩
              have HAE := Lib.hid hAe
              have HAF := Lib.hid hAf
              have HRA := Lib.hid (HR.out.fs hAf (by simp))
              clear hwA hAe hAf q0 q1
              refine (within_ok wA HX3.out HRA.out).mono ?_
              rintro e w12 ⟨rfl, hp12, hf12⟩
              have hs12 := hf12.size
              have HP12 : Hid (RAt w12 wA.heap.size C g (rin st bx)) := hp12
              have he12 := (hf12.keep wr.heap.size (by omega) (by simp)).trans HAE.out
              have e0 : w12.cell? ⟨wr.heap.size, 0, none⟩ = some (.int .u16 (kind : Nat)) := by rw [cell_of_heap he12]; rfl
              have HF12 := Lib.hid (HF.out.trans ((HAF.out.trans hf12).mono (by simp)))
              have HR12 := Lib.hid (HRA.out.fs hf12 (by simp))
              have HM12 := Lib.hid (HM.out.fs (HAF.out.trans hf12) (by simp))
              have HG12 := Lib.hid (GK.out _ (HF11.out.trans HF12.out))
              clear hp12 hf12 he12
              obtain ⟨pp, hpp⟩ : ∃ y, y = wA.heap.size := ⟨_, rfl⟩
              rw [← hpp] at HP12 ⊢
              have hppl : wr.heap.size < pp := by omega
              have hppc : r0 + 2 ≠ pp := by omega
              clear hpp hAs hs12
              go_wp2_with fail
              refine (sext_ok (x := pp) (m := r0 + 1) kind w12 HG12.out (by omega) hgm (by omega) HP12.out HM12.out).mono ?_
              rintro e w13 ⟨rfl, b, hp13, hm13, hf13⟩
              have HP13 := Lib.hid hp13
              have HM13 := Lib.hid hm13
              have HR13 := Lib.hid (HR12.out.fs hf13 (by simp; omega))
              have HF13 : Hid (Fs [r0 + 2, r0 + 1] w11 w13) := ((HF12.out.mono (l' := [pp, r0 + 2, r0 + 1]) (by simp)).trans (hf13.mono (by simp))).fresh (by omega)
              have hs13 := hf13.size
              clear hp13 hm13 hf13
              go_wp2_with fail
              refine (done_ok w13 hppc HR13.out HP13.out).mono ?_
              rintro e w14 ⟨rfl, hr14, hf14⟩
              have HR14 := Lib.hid hr14
              have HM14 := Lib.hid (HM13.out.fs hf14 (by simp; omega))
              have HF14 : Hid (Fs [r0 + 2, r0 + 1] w11 w14) := ((HF13.out.mono (l' := [pp, r0 + 2, r0 + 1]) (by simp)).trans (hf14.mono (by simp))).fresh (by omega)
              clear hr14 hf14
              go_wp2_with fail
              exact ⟨⟨j + 1, _, by simp, by omega, HSTEP.out b, HR14.out, HM14.out, HF14.out⟩, by simp [intOf]; omega⟩
            · have hjn' : j = L.length := by omega
              subst hjn'
              obtain ⟨code9, bs9⟩ := st
              have hend : RshEnd bs code9 := .inr ⟨by rw [HHD.out], by rw [HHD.out]; exact HB3.out, (code9, bs9), by rw [HHD.out, ← HE.out]; have h := HRL.out; rwa [List.take_length] at h, rfl⟩
              obtain ⟨D, hD, hDi, hD1, hz, hzs, hpost⟩ := HEND.out _ _ _ HR.out HM.out (HF11.out.trans HF.out) hend
              obtain ⟨vr, hh, hvr⟩ := HR.out
              have p1 : wr.cell? ⟨r0 + 2, 1, none⟩ = some (.int .i64 code9) := by rw [cell_of_heap hh]; rfl
              have HP := Lib.hid hpost
              have HZ9 := Lib.hid hz
              have HD := Lib.hid hD
              clear hz hD hh hvr hpost hrl hr hm hf hend
              go_wp2_with fail
              refine region_ord [(0, true), (1, true), (2, true), (3, true), (4, true), (5, false), (6, true)] (fun w' => w'.heap[r0 + 1]? = some (.cells D 37 (0, 0)) ∧ w'.cell? ⟨r0 + 2, 1, none⟩ = some (.int .i64 code9)) mixed (by kernel_rfl) (by kernel_rfl) rfl (by intro c a d v w h; cases d <;> exact h) ⟨HD.out, p1⟩ ?_
              apply wpOrd_pure rfl rfl
              refine ⟨.agg D, fun w' hS => exec_load_row 37 (.tmp 4) rfl (r0 + 1) rfl 37 D (0, 0) _ hS.1 Try.underlying37 rfl hDi, ?_⟩
              simp only [List.getElem_toArray, List.getElem_cons_succ, List.getElem_cons_zero, Act.put, List.setIfInBounds_toArray, List.set_cons_zero, List.set_cons_succ]
              iterate 4 (apply wpOrd_pure rfl rfl; apply Exists.intro; refine ⟨fun w' hS => ?_, ?_⟩; (· (have hS2 := hS.2; clear hS; first | (go_simp; done) | (go_simp; with_reducible rfl))); simp only [List.getElem_toArray, List.getElem_cons_succ, List.getElem_cons_zero, Act.put, List.setIfInBounds_toArray, List.set_cons_zero, List.set_cons_succ])
              refine wpOrd_run rfl rfl (fun K hK => ?_)
              refine wp_store_row 37 (.tmp 2) (.tmp 83) rfl r0 D rfl rfl 37 zero22 HZ9.out hDi hzs hD1 ?_
              refine hK _ _ (fun _ => ⟨(setRow_other _ _ _ _ (by omega)).trans HD.out, (cell_setRow_other _ _ _ _ (by show r0 + 2 ≠ r0; omega)).trans p1⟩) ?_
              clear hK K
              simp only [List.getElem_toArray, List.getElem_cons_succ, List.getElem_cons_zero, Act.put, List.setIfInBounds_toArray, List.set_cons_zero, List.set_cons_succ]
              iterate 1 (apply wpOrd_pure rfl rfl; apply Exists.intro; refine ⟨fun w' hS => ?_, ?_⟩; (· (have hS2 := hS.2; clear hS; first | (go_simp; done) | (go_simp; with_reducible rfl))); simp only [List.getElem_toArray, List.getElem_cons_succ, List.getElem_cons_zero, Act.put, List.setIfInBounds_toArray, List.set_cons_zero, List.set_cons_succ])
              refine wpOrd_nil ?_
              go_wp2_with fail
              refine ret_row_tmp (.int .i64 code9) rfl r0 37 D (0, 0) _ rfl rfl (setRow_heap _ _ _ _ _ _ HZ9.out) Try.underlying37 rfl hDi rfl HP.out

end Go.Proofs.Ytopcljikkdlffaa
namespace Go.Proofs.Ytopcljikkdlffaa
open Go.RowKit

theorem SrcB.ks {w w' : World} {base q : Nat} {v : Value} {s : List UInt8} (h : SrcB w base v s) (hk : Ks base q w w') (hq : base ≤ q) : SrcB w' base v s := by
  rcases h with h | ⟨ad, cap, e, hlt, hc⟩
  · exact .inl h
  · refine .inr ⟨ad, cap, e, hlt, fun j u hu => ?_⟩
    have hs : s ≠ [] := by rintro rfl; simp at hu
    have hb := hlt hs
    have hcj := hc j u hu
    have hl := World.block_lt_of_cell? w _ hcj
    rw [add_block] at hl
    have hkeep := hk.keep ad.block hl (by omega) (.inl hb) (fun ⟨cs, fr, hcs, h8⟩ => by
      have e8 : ∃ k : Int, u = .int .u8 k := by
        rw [List.getElem?_map] at hu
        obtain ⟨x, _, rfl⟩ := Option.map_eq_some_iff.1 hu
        exact ⟨_, rfl⟩
      obtain ⟨k, rfl⟩ := e8
      unfold World.cell? at hcj
      rw [add_block, hcs] at hcj
      simp only at hcj
      split at hcj
      · cases hcj
      · exact h8 _ _ hcj)
    rw [← hcj]
    exact World.cell?_of_block (by rw [add_block]; exact hkeep)

/-- A row of slices of bytes, below base. -/
def SrcL (w : World) (base : Nat) (v : Value) (L : List (List UInt8)) : Prop :=
  (v = .slice none 0 0 ∧ L = []) ∨ ∃ h cap cur, v = .slice (some ⟨h, 0, none⟩) L.length cap ∧ h < base ∧ w.heap[h]? = some (.cells cur 22 (0, 0)) ∧ ∀ (j : Nat) (s : List UInt8), L[j]? = some s → ∃ u, cur[j]? = some u ∧ SrcB w base u s

theorem SrcL.ks {w w' : World} {base q : Nat} {v : Value} {L : List (List UInt8)} (h : SrcL w base v L) (hk : Ks base q w w') (hq : base ≤ q) : SrcL w' base v L := by
  rcases h with h | ⟨h, cap, cur, e, hlt, hh, hc⟩
  · exact .inl h
  · refine .inr ⟨h, cap, cur, e, hlt, hk.other hh (by decide) (by omega), fun j s hj => ?_⟩
    obtain ⟨u, hu, hs⟩ := hc j s hj
    exact ⟨u, hu, hs.ks hk hq⟩

theorem SrcL.len {w : World} {base : Nat} {v : Value} {L : List (List UInt8)} (h : SrcL w base v L) : ∃ ad cap, v = .slice ad L.length cap ∧ (0 < L.length → ∃ x, ad = some ⟨x, 0, none⟩) ∧ (ad.isNone = true ↔ v = .slice none 0 0) := by
  rcases h with ⟨rfl, rfl⟩ | ⟨h, cap, cur, rfl, _⟩
  · exact ⟨none, 0, rfl, fun h => by simp at h, by simp⟩
  · exact ⟨some _, cap, rfl, fun _ => ⟨_, rfl⟩, by simp⟩

theorem SrcL.at {w : World} {base len cap x : Nat} {L : List (List UInt8)} (h : SrcL w base (.slice (some ⟨x, 0, none⟩) len cap) L) {j : Nat} (hj : j < L.length) : ∃ u, w.cell? ⟨x, j, none⟩ = some u ∧ SrcB w base u L[j] := by
  rcases h with ⟨h, _⟩ | ⟨h, cap, cur, e, _, hh, hc⟩
  · cases h
  · simp only [Value.slice.injEq, Option.some.injEq, Addr.mk.injEq, and_true] at e
    obtain ⟨rfl, _, _⟩ := e
    obtain ⟨u, hu, hs⟩ := hc j _ (List.getElem?_eq_getElem hj)
    exact ⟨u, by rw [cell_of_heap hh]; exact hu, hs⟩

theorem fs_bel {w w' : World} {l : List Nat} (hf : Fs l w w') (hl : ∀ p ∈ l, w.heap.size ≤ p) : Below w.heap.size w w' :=
  ⟨hf.os, hf.tape, hf.output, hf.size, fun k hk => hf.keep k hk (fun hm => by have := hl k hm; omega)⟩

/-- A struct is put together, in a region that draws its order. -/
theorem wpStill_build {P : Program} {ops : Array Oper} {rest : List Oper} {o : Oper} {a : Act} {w : World} {Q : Act → Prop} (hgd : o.guard = none) (t : TypeId) (parts : Array (Nat × Operand)) (cells : Array Value) (ho : o.op = .build t parts)
    (hf : P.built t (parts.map fun (i, x) => (i, a.eval x)).toList = some cells) (h : wpStill P ops w Q rest (a.put o.dst (.agg cells))) : wpStill P ops w Q (o :: rest) a := by
  refine wpStill_step fun K hK => ?_
  simp only [Region.wanted, hgd, if_true]
  unfold Oper.still
  rw [exec_build t parts cells ho hf]
  exact ⟨rfl, hK _ h⟩

theorem FRel.mono {w : World} {base base' : Nat} {C : Array Value} {g : Nat} {fd : FD} {v : Value} (h : FRel w base' C g fd v) (hb : base ≤ base') : FRel w base C g fd v := by
  cases fd with
  | own e size n R =>
    obtain ⟨us, h1, h2⟩ := h
    exact ⟨us, ownsRow_mono h1 hb, h2⟩
  | any => exact h
  | val u => exact h
  | vw l => exact h
  | vn l => exact h
  | vz l => exact h

theorem srcL_of {w : World} {base B : Nat} {C : Array Value} {g : Nat} {T : TypeId} {fr : Nat × Nat} {v : Value} {L : List (List UInt8)} (h : FRel w base C g (.own 22 1 L.length (ShowL C g L)) v) (hg : w.heap[g]? = some (.cells C T fr)) (hB : w.heap.size ≤ B) :
    SrcL w B v L ∧ (v = .slice none 0 0 ↔ L = []) := by
  obtain ⟨us, hown, hR⟩ := h
  rcases hown.2 with ⟨rfl, hn⟩ | ⟨p, cap, cur, rfl, hbp, hh, hnc, _, hcs, htake⟩
  · have e := List.length_eq_zero_iff.1 hn
    exact ⟨.inl ⟨rfl, e⟩, by simp [e]⟩
  · refine ⟨.inr ⟨p, cap, cur, rfl, by have := lt_of_heap hh; omega, hh, fun j s hj => ?_⟩, by simp; intro e; have := hR.1 e; cases this⟩
    obtain ⟨u, hu, hv⟩ := hR.2 j s hj
    refine ⟨u, ?_, (vn_src hv hg).keep hB (fun _ _ => rfl)⟩
    rw [← htake, List.getElem?_take] at hu
    split at hu
    · rw [← Array.getElem?_toList]; exact hu
    · cases hu

theorem srcB_of {w : World} {base B : Nat} {C : Array Value} {g : Nat} {T : TypeId} {fr : Nat × Nat} {v : Value} {l : List UInt8} (h : FRel w base C g (.vz l) v) (hg : w.heap[g]? = some (.cells C T fr)) (hB : w.heap.size ≤ B) :
    SrcB w B v l ∧ (v = .slice none 0 0 ↔ l = []) := by
  rcases h with ⟨rfl, rfl⟩ | ⟨hl, hv⟩
  · exact ⟨.inl ⟨rfl, rfl⟩, by simp⟩
  · refine ⟨(vn_src (.inr hv) hg).keep hB (fun _ _ => rfl), ?_⟩
    obtain ⟨o, c, rfl, _⟩ := hv
    simp [hl]

theorem SrcL.lst {w : World} {base : Nat} {v : Value} {L : List (List UInt8)} (h : SrcL w base v L) : LstB w base v L := by
  rcases h with h | ⟨p, cap, cur, rfl, hlt, hh, hc⟩
  · exact .inl h
  · refine .inr ⟨_, cap, rfl, fun _ => hlt, fun j s hj => ?_⟩
    obtain ⟨u, hu, hs⟩ := hc j s hj
    refine ⟨u, ?_, hs⟩
    rw [add_plain, Nat.zero_add, cell_of_heap hh]
    exact hu

theorem SrcL.keep {w w' : World} {base base' : Nat} {v : Value} {L : List (List UInt8)} (h : SrcL w base v L) (hb : base ≤ base') (hk : ∀ k, k < base → w'.heap[k]? = w.heap[k]?) : SrcL w' base' v L := by
  rcases h with h | ⟨p, cap, cur, e, hlt, hh, hc⟩
  · exact .inl h
  · refine .inr ⟨p, cap, cur, e, by omega, (hk p hlt).trans hh, fun j s hj => ?_⟩
    obtain ⟨u, hu, hs⟩ := hc j s hj
    exact ⟨u, hu, hs.keep hb hk⟩

/-- Bytes of a row that is owned come in. -/
theorem inB_own {w : World} {base lo : Nat} {v : Value} {s : List UInt8} (h : w.ownsRow base 5 1 v s.length (s.map by8)) (h4 : 4 ≤ s.length) (hlo : w.heap.size ≤ lo) : InB w lo v s := by
  rcases h.2 with ⟨_, hn⟩ | ⟨p, cap, cur, rfl, hb, hh, hnc, hcm, hcs, htake⟩
  · omega
  · refine .inr ⟨h4, cur, p, _, _, by have := lt_of_heap hh; omega, hh, 0, cap, rfl, hnc, hcm, fun i hi => ?_⟩
    have e : (s.map by8)[i]? = some (by8 (s.getD i 0)) := by simp [hi]
    rw [← htake, List.getElem?_take] at e
    split at e
    · rw [Nat.zero_add, ← Array.getElem?_toList]; exact e
    · cases e

end Go.Proofs.Ytopcljikkdlffaa
