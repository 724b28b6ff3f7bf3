/- UnmarshalClientHello of package tls and of package impl, for any bytes that came in. The reference reads a ClientHello: what is found, and what its fields show. What a ClientHello by value shows, whoever made it. ClientHello.msg of package tls: the statements that append, and the loops. No statement of the seat is proved here. -/
import Derived.Test.YtopcljikkdlffaaGreatX28
import Derived.Test.YtopcljikkdlffaaGreatX27
import Derived.Test.YtopcljikkdlffaaGreatX10
import Derived.Test.YtopcljikkdlffaaGreatX15
import Derived.Test.YtopcljikkdlffaaGreatX16
namespace Go.Proofs.YtopcljikkdlffaaGreat
open Go.RowKit

theorem InB.up7 {w w' : World} {lo hi : Nat} {v : Value} {bs : List UInt8} (h : InB w lo v bs) (hb : Below lo w w') (hh : lo ≤ hi) : InB w' hi v bs := by
  rcases h with h | ⟨h4, C, g, T, fr, hl, hg, hv⟩
  · exact .inl h
  · exact .inr ⟨h4, C, g, T, fr, by omega, (hb.block g hl).trans hg, hv⟩

/-- What reading any bytes leaves. -/
def UnGot (w : World) (lo : Nat) (bs : List UInt8) (e : Ending) (w' : World) : Prop :=
  Below w.heap.size w w' ∧ ((chRead bs = none ∧ ∃ D : Array Value, e = .returned (.tuple #[.agg D, .bool false]) ∧ D.size = 31 ∧ D.all (·.oneCell') = true) ∨
    ∃ (f : CH) (D : Array Value) (base : Nat) (C : Array Value) (g : Nat), chRead bs = some f ∧ e = .returned (.tuple #[.agg D, .bool true]) ∧ D.size = 31 ∧ D.all (·.oneCell') = true ∧ w.heap.size ≤ base ∧ g < lo ∧ (∃ T fr, w'.heap[g]? = some (.cells C T fr)) ∧
      ∀ (i : Nat) (fd : FD), (uV C g f)[i]? = some fd → ∃ x, D[i]? = some x ∧ FRel w' base C g fd x)

theorem UnGot.val {w w' : World} {lo : Nat} {bs : List UInt8} {e : Ending} (h : UnGot w lo bs e w') : ∃ D : Array Value, e = .returned (.tuple #[.agg D, .bool (chRead bs).isSome]) ∧ D.size = 31 ∧ D.all (·.oneCell') = true := by
  rcases h.2 with ⟨h1, D, he, h2, h3⟩ | ⟨f, D, base, C, g, h1, he, h2, h3, _⟩
  · exact ⟨D, by rw [he, h1]; rfl, h2, h3⟩
  · exact ⟨D, by rw [he, h1]; rfl, h2, h3⟩

set_option maxRecDepth 100000 in
set_option maxHeartbeats 8000000 in
/-- Fewer than four bytes, whatever their address. -/
theorem ch_short {m : Nat} {ad : Option Addr} {n cap : Nat} (w : World) (hm : w.heap[m]? = some (.cells (zero29 (.slice none 0 0)) 54 (0, 0))) (h4 : n < 4) :
    Calls Tryz.prog 18 #[.pointer (some ⟨m, 0, none⟩), .slice ad n cap] w fun e w' => Fs [m] w w' ∧ e = .returned (.bool false) := by
  have HM := Lib.hid hm
  obtain ⟨W, hW⟩ : ∃ x, x = w.setRow m (zero29 (.slice ad n cap)) := ⟨_, rfl⟩
  have HWF : Hid (Fs [m] w W) := by rw [hW]; exact ⟨rfl, rfl, rfl, by rw [size_setRow]; exact Nat.le_refl _, fun k _ hn => setRow_other _ _ _ _ (fun e => hn (by simp [e]))⟩
  have hWs : W.heap.size = w.heap.size := by rw [hW, size_setRow]
  obtain ⟨sB, hsB⟩ : ∃ x, x = w.heap.size := ⟨_, rfl⟩
  have hWs2 : W.heap.size = sB := by rw [hWs, hsB]
  obtain ⟨W1, hW1⟩ : ∃ x, x = W.alloc (.cells #[.slice ad n cap] 69) := ⟨_, rfl⟩
  have hd : W1.heap[sB]? = some (.cells #[.slice ad n cap] 69 (0, 0)) := by
    have h := heap_alloc_new W (.cells #[.slice ad n cap] 69)
    rw [hWs2] at h
    rw [hW1]; exact h
  have HF1 : Hid (Fs [m] w W1) := by rw [hW1]; exact HWF.out.push _
  have HW := Lib.hid hW
  have HW1 := Lib.hid hW1
  have c0 := cell_head hd
  clear hm hW hWs hsB hW1 hd
  go_enter Tryz.func18, Tryz.ntmps18
  go_upto_region 1 with fail
  apply wp_region_lit
  iterate 12 (first | (refine wpList_store_row rfl 54 (.tmp 36) (.tmp 35) rfl m (zero29 (.slice ad n cap)) rfl rfl 54 (zero29 (.slice none 0 0)) HM.out (by kernel_rfl) rfl (by simp [zero29, Value.oneCell']) ?_) | go_step)
  refine wpList_store_row rfl 54 (.tmp 36) (.tmp 35) rfl m (zero29 (.slice ad n cap)) rfl rfl 54 (zero29 (.slice none 0 0)) HM.out (by kernel_rfl) rfl (by simp [zero29, Value.oneCell']) ?_
  rw [← HW.out]
  clear HW HM
  go_wp2_with fail
  rw [← HW1.out]
  clear hWs2 HW1
  refine (skip_no ⟨sB, 0, none⟩ 4 W1 (by omega) (by omega) (by omega) c0).mono ?_
  rintro e wx ⟨rfl, rfl⟩
  go_wp2_with fail
  go_ret
  exact ⟨HF1.out, rfl⟩

theorem chRead_short {bs : List UInt8} (h : bs.length < 4) : chRead bs = none := by
  have h1 : rd 4 bs = none := by unfold rd; rw [if_neg (by omega)]
  simp [chRead, chHead, h1]

set_option maxRecDepth 100000 in
set_option maxHeartbeats 8000000 in
theorem chu_short {ad : Option Addr} {n cap : Nat} (w : World) (h4 : n < 4) :
    Calls Tryz.prog 8 #[.slice ad n cap] w fun e w' => Below w.heap.size w w' ∧ ∃ D : Array Value, e = .returned (.tuple #[.agg D, .bool false]) ∧ D.size = 31 ∧ D.all (·.oneCell') = true := by
  obtain ⟨r0, hr0⟩ : ∃ x, x = w.heap.size := ⟨_, rfl⟩
  obtain ⟨W, hW⟩ : ∃ x, x = (w.alloc (.cells zero31 37)).alloc (.cells (zero29 (.slice none 0 0)) 54) := ⟨_, rfl⟩
  have hWs : W.heap.size = r0 + 2 := by rw [hW, hr0]; simp
  have HZ : Hid (W.heap[r0]? = some (.cells zero31 37 (0, 0))) := by rw [hW, hr0]; exact heap_push (heap_alloc_new _ _)
  have hM : W.heap[r0 + 1]? = some (.cells (zero29 (.slice none 0 0)) 54 (0, 0)) := by
    have h := heap_alloc_new (w.alloc (.cells zero31 37)) (.cells (zero29 (.slice none 0 0)) 54)
    rw [World.size_alloc] at h
    rw [hW, hr0]; exact h
  have hf : Fs [] w W := by rw [hW]; exact ((Fs.refl [] w).push _).push _
  have HF := Lib.hid hf
  have HM := Lib.hid hM
  have HW := Lib.hid hW
  have HR0 := Lib.hid hr0
  clear hW hM hf
  go_enter Tryz.func8, Tryz.ntmps8
  go_wp2_with fail
  change Calls _ _ _ ((w.alloc (.cells zero31 37)).alloc (.cells (zero29 (.slice none 0 0)) 54)) _
  rw [← HW.out, ← HR0.out]
  clear hr0
  refine (ch_short (m := r0 + 1) W HM.out h4).mono ?_
  rintro e w1 ⟨hf1, rfl⟩
  have HZ1 : Hid (w1.heap[r0]? = some (.cells zero31 37 (0, 0))) := Lib.hid ((hf1.keep r0 (by omega) (by simp)).trans HZ.out)
  have HF1 : Hid (Fs [r0 + 1] w w1) := Lib.hid ((HF.out.mono (by simp)).trans hf1)
  clear hf1
  go_upto_region 3 with fail
  apply wp_region_lit
  iterate 6 (first | (refine wpList_store_row rfl 37 (.tmp 2) (.tmp 15) rfl r0 zero31 rfl rfl 37 zero31 HZ1.out (by kernel_rfl) rfl (by simp [zero31, Value.oneCell']) ?_) | go_step)
  go_wp2_with fail
  refine ret_row_tmp (.bool false) rfl r0 37 zero31 (0, 0) _ rfl rfl (setRow_heap _ _ _ _ _ _ HZ1.out) Tryz.underlying37 rfl (by kernel_rfl) rfl ?_
  refine ⟨?_, zero31, rfl, rfl, by simp [zero31, Value.oneCell']⟩
  have h := fs_bel (HF1.out.mono (l' := [r0, r0 + 1]) (by simp)) (by have := HR0.out; simp; omega)
  exact below_setRow h (by have := HR0.out; omega) _

theorem chg_tls {lo : Nat} {v : Value} {bs : List UInt8} (w : World) (hIn : InB w lo v bs) (hlo : lo ≤ w.heap.size) (hbs : bs.length ≤ 4294967295) : Calls Tryz.prog 8 #[v] w (UnGot w lo bs) := by
  rcases id hIn with ⟨a, cap, rfl, h4⟩ | ⟨h4, C, g, T, fr, hg1, hg, hV⟩
  · refine (chu_short w h4).mono ?_
    rintro e w' ⟨hb, h⟩
    exact ⟨hb, .inl ⟨chRead_short h4, h⟩⟩
  · refine (chu_tls w hg hV hbs).mono ?_
    rintro e w' ⟨hb, h | ⟨f, D, base, hy, he, hs, h1, hbase, hrel⟩⟩
    · exact ⟨hb, .inl h⟩
    · exact ⟨hb, .inr ⟨f, D, base, C, g, hy, he, hs, h1, hbase, hg1, ⟨T, fr, (hb.block g (by omega)).trans hg⟩, hrel⟩⟩

set_option maxRecDepth 100000 in
set_option maxHeartbeats 4000000 in
theorem chg_impl {lo : Nat} {v : Value} {bs : List UInt8} (w : World) (hIn : InB w lo v bs) (hlo : lo ≤ w.heap.size) (hbs : bs.length ≤ 4294967295) :
    Calls Tryz.prog 4 #[v] w (UnGot w lo bs) := by
  obtain ⟨ad, cap, rfl⟩ := hIn.slice
  obtain ⟨r0, hr0⟩ : ∃ x, x = w.heap.size := ⟨_, rfl⟩
  obtain ⟨W, hW⟩ : ∃ x, x = w.alloc (.cells zero31 29) := ⟨_, rfl⟩
  have hWs : W.heap.size = r0 + 1 := by rw [hW, hr0]; simp
  have HZ : Hid (W.heap[r0]? = some (.cells zero31 29 (0, 0))) := by rw [hW, hr0]; exact heap_alloc_new _ _
  have hf : Fs [] w W := by rw [hW]; exact (Fs.refl [] w).push _
  have HF := Lib.hid hf
  have HIN : Hid (InB W lo (.slice ad bs.length cap) bs) := Lib.hid (hIn.up7 ((fs_bel hf (by simp)).mono hlo) (Nat.le_refl _))
  have HGL : Hid (w.heap.size ≤ W.heap.size) := Lib.hid (by omega)
  have HW := Lib.hid hW
  have HR0 := Lib.hid hr0
  have HWS := Lib.hid hWs
  clear hIn hW hf hWs
  go_enter Tryz.func4, Tryz.ntmps4
  go_wp2_with fail
  change Calls _ _ _ (w.alloc (.cells zero31 29)) _
  rw [← HW.out, ← HR0.out]
  clear hr0
  refine (chg_tls W HIN.out (by have := HGL.out; omega) hbs).mono ?_
  intro e w1 hgot
  obtain ⟨D, he, hDs, hD1⟩ := hgot.val
  obtain ⟨b, hb⟩ : ∃ b, b = (chRead bs).isSome := ⟨_, rfl⟩
  rw [← hb] at he
  subst he
  have HC := Lib.hid hgot
  have HB1 := Lib.hid hgot.1
  have HBB := Lib.hid hb
  have HZ1 := Lib.hid ((hgot.1.block r0 (by have := HWS.out; omega)).trans HZ.out)
  have hiD : (Tryz.prog.info? 37).map (·.size) = some D.size := by rw [hDs]; kernel_rfl
  have hiD2 : (Tryz.prog.info? 29).map (·.size) = some D.size := by rw [hDs]; kernel_rfl
  have hs0 : zero31.size = D.size := by rw [hDs]; rfl
  have hne : r0 ≠ w1.heap.size := by have := lt_of_heap HZ1.out; omega
  have HDS := Lib.hid hDs
  clear hgot hb hDs
  dsimp only
  repeat (first | (with_reducible refine wpList_store_row rfl 37 (.tmp 4) (.tmp 9) rfl w1.heap.size D rfl rfl 37 zero31 (heap_alloc_new w1 _) hiD hs0 hD1 ?_) | (with_reducible refine wpList_load_row rfl 37 (.tmp 4) rfl w1.heap.size rfl 37 D (0, 0) _ (setRow_heap _ _ _ _ _ _ (heap_alloc_new w1 _)) Tryz.underlying37 rfl hiD ?_) | (with_reducible refine wpList_store_row rfl 29 (.tmp 2) (.tmp 11) rfl r0 D rfl rfl 29 zero31 ((setRow_other _ _ _ _ hne).trans (heap_push HZ1.out)) hiD2 hs0 hD1 ?_) | go_step)
  refine ret_row_tmp (.bool b) rfl r0 29 D (0, 0) _ rfl rfl (setRow_heap _ _ _ _ _ _ ((setRow_other _ _ _ _ hne).trans (heap_push HZ1.out))) Tryz.underlying29 rfl hiD2 rfl ?_
  have hr := HR0.out
  have hws := HWS.out
  have hw : w.heap.size ≤ w1.heap.size := by have := HB1.out.size; omega
  have hb : Below w.heap.size w w1 := (fs_bel HF.out (by simp)).trans (HB1.out.mono (by omega))
  refine ⟨below_setRow (below_setRow (hb.alloc hw _) hw _) (by omega) _, ?_⟩
  rcases HC.out.2 with ⟨hno, D', he, h1, h2⟩ | ⟨f, D', base, C, g, hy, he, h1, h2, hbase, hgl, hgd, hrel⟩
  · simp only [Ending.returned.injEq, Value.tuple.injEq, Array.mk.injEq, List.cons.injEq, Value.agg.injEq, Value.bool.injEq, and_true] at he
    obtain ⟨rfl, rfl⟩ := he
    exact .inl ⟨hno, D, rfl, HDS.out, hD1⟩
  · simp only [Ending.returned.injEq, Value.tuple.injEq, Array.mk.injEq, List.cons.injEq, Value.agg.injEq, Value.bool.injEq, and_true] at he
    obtain ⟨rfl, rfl⟩ := he
    obtain ⟨T, fr, hgd⟩ := hgd
    have hkeep : ∀ k, k < w1.heap.size → k ≠ r0 → (((w1.alloc (.cells zero31 37)).setRow w1.heap.size D).setRow r0 D).heap[k]? = w1.heap[k]? := fun k hk hn =>
      (setRow_other _ _ _ _ hn).trans ((setRow_other _ _ _ _ (by omega)).trans (Below.heap_alloc _ _ _ hk))
    have hgr : g ≠ r0 := by omega
    refine .inr ⟨f, D, base, C, g, hy, rfl, HDS.out, hD1, by have := HGL.out; omega, hgl, ⟨T, fr, (hkeep g (lt_of_heap hgd) hgr).trans hgd⟩, fun i fd hi => ?_⟩
    obtain ⟨x, hx, hr2⟩ := hrel i fd hi
    exact ⟨x, hx, hr2.kept fun ho k hk => hkeep k (hr2.lt ho k hk).2 (by have := (hr2.lt ho k hk).1; omega)⟩

end Go.Proofs.YtopcljikkdlffaaGreat
namespace Go.Proofs.YtopcljikkdlffaaGreat
open Go.RowKit

end Go.Proofs.YtopcljikkdlffaaGreat
namespace Go.Proofs.YtopcljikkdlffaaGreat
open Go.RowKit

/-- What a cell of a struct by value shows. -/
inductive SE
  | any
  | val (v : Value)
  | src (l : List UInt8)
  | lst (L : List (List UInt8))
  | row (e : TypeId) (us : List Value)

def SERel (w : World) (base : Nat) : SE → Value → Prop
  | .any, _ => True
  | .val u, v => v = u
  | .src l, v => SrcB w base v l
  | .lst L, v => SrcL w base v L
  | .row e us, v => RowS w base e v us

theorem SERel.keep {w w' : World} {base base' : Nat} {s : SE} {v : Value} (h : SERel w base s v) (hb : base ≤ base') (hk : ∀ k, k < base → w'.heap[k]? = w.heap[k]?) : SERel w' base' s v := by
  cases s with
  | any => exact h
  | val u => exact h
  | src l => exact SrcB.keep h hb hk
  | lst L => exact SrcL.keep h hb hk
  | row e us => exact RowS.keep h hb hk

/-- The cells of a ClientHello by value; the list of its extensions is left out. -/
def seV (f : CH) : List SE := [.val (.int .u16 (f.vers : Nat)), .src f.random, .src f.session, .row 23 (f.suites.map fun n => Value.int .u16 (n : Nat)), .src f.comps, .val (.string ⟨f.name.toArray⟩), .val (.bool f.ocsp), .row 23 (f.curves.map fun n => Value.int .u16 (n : Nat)), .src f.points, .val (.bool f.ticket), .src f.tickets, .row 23 (f.sigs.map fun n => Value.int .u16 (n : Nat)), .row 23 (f.sigsC.map fun n => Value.int .u16 (n : Nat)), .val (.bool f.srs), .src f.sr, .val (.bool f.ems), .row 9 (f.alpn.map fun s => Value.string ⟨s.toArray⟩), .val (.bool f.scts), .row 23 (f.vers13.map fun n => Value.int .u16 (n : Nat)), .src f.cookie, .row 23 ((f.shares.map (·.1)).map fun n => Value.int .u16 (n : Nat)), .lst (f.shares.map (·.2)), .val (.bool f.early), .src f.modes, .lst (f.psks.map (·.1)), .row 57 ((f.psks.map (·.2)).map fun n => Value.int .u32 (n : Nat)), .lst f.binders, .val (.bool f.quic.isSome), .src (f.quic.getD []), .src f.ech, .any]

/-- The cells D show the fields f. -/
structure ChS (w : World) (base : Nat) (f : CH) (D : Array Value) : Prop where
  size : D.size = 31
  one : D.all (·.oneCell') = true
  rel : ∀ (i : Nat) (s : SE), (seV f)[i]? = some s → ∃ v, D[i]? = some v ∧ SERel w base s v

theorem ChS.keep {w w' : World} {base base' : Nat} {f : CH} {D : Array Value} (h : ChS w base f D) (hb : base ≤ base') (hk : ∀ k, k < base → w'.heap[k]? = w.heap[k]?) : ChS w' base' f D :=
  ⟨h.size, h.one, fun i s hi => by
    obtain ⟨v, hv, hr⟩ := h.rel i s hi
    exact ⟨v, hv, hr.keep hb hk⟩⟩

theorem ChS.exts {w : World} {base : Nat} {f : CH} {E : List Nat} {D : Array Value} (h : ChS w base { f with exts := E } D) : ChS w base f D := ⟨h.size, h.one, h.rel⟩

section
variable {w : World} {base B : Nat} {C : Array Value} {g : Nat} {T : TypeId} {fr : Nat × Nat} {v : Value}

theorem se_vn {l : List UInt8} (h : FRel w base C g (.vn l) v) (hg : w.heap[g]? = some (.cells C T fr)) (hB : w.heap.size ≤ B) : SrcB w B v l :=
  (vn_src h hg).keep hB (fun _ _ => rfl)

theorem se_row {e n : Nat} {R : Value → List Value → Prop} {us0 : List Value} (h : FRel w base C g (.own e 1 n R) v) (hB : w.heap.size ≤ B) (hR : ∀ us, R v us → us = us0) : RowS w B e v us0 := by
  obtain ⟨us, hown, hr⟩ := h
  rw [← hR us hr]
  exact rowS_of hown hB

theorem se_lst {L : List (List UInt8)} {R : Value → List Value → Prop} (h : FRel w base C g (.own 22 1 L.length R) v) (hg : w.heap[g]? = some (.cells C T fr)) (hB : w.heap.size ≤ B)
    (hR : ∀ us, R v us → ∀ (j : Nat) (s : List UInt8), L[j]? = some s → ∃ u, us[j]? = some u ∧ VN C g u s) : SrcL w B v L := by
  obtain ⟨us, hown, hr⟩ := h
  rcases hown.2 with ⟨rfl, hn⟩ | ⟨p, cap, cur, rfl, hbp, hh, hnc, _, hcs, htake⟩
  · exact .inl ⟨rfl, List.length_eq_zero_iff.1 hn⟩
  · refine .inr ⟨p, cap, cur, rfl, by have := lt_of_heap hh; omega, hh, fun j s hj => ?_⟩
    obtain ⟨u, hu, hv⟩ := hR us hr j s hj
    refine ⟨u, ?_, (vn_src hv hg).keep hB (fun _ _ => rfl)⟩
    rw [← htake, List.getElem?_take] at hu
    split at hu
    · rw [← Array.getElem?_toList]; exact hu
    · cases hu

theorem se_quic {q : Option (List UInt8)} (h : FRel w base C g (.own 5 1 (q.getD []).length (ShowQ q)) v) (_ : w.heap[g]? = some (.cells C T fr)) (hB : w.heap.size ≤ B) : SrcB w B v (q.getD []) := by
  obtain ⟨us, hown, hr, _⟩ := h
  rw [hr] at hown
  exact src_own hown hB

end

theorem chs_of_uv {w : World} {base B : Nat} {C : Array Value} {g : Nat} {T : TypeId} {fr : Nat × Nat} {f : CH} {D : Array Value} (hs : D.size = 31) (h1 : D.all (·.oneCell') = true) (hg : w.heap[g]? = some (.cells C T fr)) (hB : w.heap.size ≤ B)
    (hrel : ∀ (i : Nat) (fd : FD), (uV C g f)[i]? = some fd → ∃ x, D[i]? = some x ∧ FRel w base C g fd x) : ChS w B f D := by
  refine ⟨hs, h1, fun i s hi => ?_⟩
  match i, hi with
  | 0, hi => cases hi; obtain ⟨v, hd, hr⟩ := hrel 0 _ rfl; exact ⟨_, hd, hr⟩
  | 1, hi => cases hi; obtain ⟨v, hd, hr⟩ := hrel 1 _ rfl; exact ⟨_, hd, se_vn hr hg hB⟩
  | 2, hi => cases hi; obtain ⟨v, hd, hr⟩ := hrel 2 _ rfl; exact ⟨_, hd, se_vn hr hg hB⟩
  | 3, hi => cases hi; obtain ⟨v, hd, hr⟩ := hrel 3 _ rfl; exact ⟨_, hd, se_row hr hB fun us h => h⟩
  | 4, hi => cases hi; obtain ⟨v, hd, hr⟩ := hrel 4 _ rfl; exact ⟨_, hd, se_vn hr hg hB⟩
  | 5, hi => cases hi; obtain ⟨v, hd, hr⟩ := hrel 5 _ rfl; exact ⟨_, hd, hr⟩
  | 6, hi => cases hi; obtain ⟨v, hd, hr⟩ := hrel 6 _ rfl; exact ⟨_, hd, hr⟩
  | 7, hi => cases hi; obtain ⟨v, hd, hr⟩ := hrel 7 _ rfl; exact ⟨_, hd, se_row hr hB fun us h => h⟩
  | 8, hi => cases hi; obtain ⟨v, hd, hr⟩ := hrel 8 _ rfl; exact ⟨_, hd, se_vn hr hg hB⟩
  | 9, hi => cases hi; obtain ⟨v, hd, hr⟩ := hrel 9 _ rfl; exact ⟨_, hd, hr⟩
  | 10, hi => cases hi; obtain ⟨v, hd, hr⟩ := hrel 10 _ rfl; exact ⟨_, hd, se_vn hr hg hB⟩
  | 11, hi => cases hi; obtain ⟨v, hd, hr⟩ := hrel 11 _ rfl; exact ⟨_, hd, se_row hr hB fun us h => h⟩
  | 12, hi => cases hi; obtain ⟨v, hd, hr⟩ := hrel 12 _ rfl; exact ⟨_, hd, se_row hr hB fun us h => h⟩
  | 13, hi => cases hi; obtain ⟨v, hd, hr⟩ := hrel 13 _ rfl; exact ⟨_, hd, hr⟩
  | 14, hi => cases hi; obtain ⟨v, hd, hr⟩ := hrel 14 _ rfl; exact ⟨_, hd, se_vn hr hg hB⟩
  | 15, hi => cases hi; obtain ⟨v, hd, hr⟩ := hrel 15 _ rfl; exact ⟨_, hd, hr⟩
  | 16, hi => cases hi; obtain ⟨v, hd, hr⟩ := hrel 16 _ rfl; exact ⟨_, hd, se_row hr hB fun us h => h⟩
  | 17, hi => cases hi; obtain ⟨v, hd, hr⟩ := hrel 17 _ rfl; exact ⟨_, hd, hr⟩
  | 18, hi => cases hi; obtain ⟨v, hd, hr⟩ := hrel 18 _ rfl; exact ⟨_, hd, se_row hr hB fun us h => h⟩
  | 19, hi => cases hi; obtain ⟨v, hd, hr⟩ := hrel 19 _ rfl; exact ⟨_, hd, se_vn hr hg hB⟩
  | 20, hi => cases hi; obtain ⟨v, hd, hr⟩ := hrel 20 _ rfl; exact ⟨_, hd, se_row hr hB fun us h => h⟩
  | 21, hi => cases hi; obtain ⟨v, hd, hr⟩ := hrel 21 _ rfl; exact ⟨_, hd, se_lst hr hg hB fun us h => h.2⟩
  | 22, hi => cases hi; obtain ⟨v, hd, hr⟩ := hrel 22 _ rfl; exact ⟨_, hd, hr⟩
  | 23, hi => cases hi; obtain ⟨v, hd, hr⟩ := hrel 23 _ rfl; exact ⟨_, hd, se_vn hr hg hB⟩
  | 24, hi => cases hi; obtain ⟨v, hd, hr⟩ := hrel 24 _ rfl; exact ⟨_, hd, se_lst hr hg hB fun us h => h.2⟩
  | 25, hi => cases hi; obtain ⟨v, hd, hr⟩ := hrel 25 _ rfl; exact ⟨_, hd, se_row hr hB fun us h => h⟩
  | 26, hi => cases hi; obtain ⟨v, hd, hr⟩ := hrel 26 _ rfl; exact ⟨_, hd, se_lst hr hg hB fun us h => h.2⟩
  | 27, hi => cases hi; obtain ⟨v, hd, hr⟩ := hrel 27 _ rfl; exact ⟨_, hd, hr⟩
  | 28, hi => cases hi; obtain ⟨v, hd, hr⟩ := hrel 28 _ rfl; exact ⟨_, hd, se_quic hr hg hB⟩
  | 29, hi => cases hi; obtain ⟨v, hd, hr⟩ := hrel 29 _ rfl; exact ⟨_, hd, se_vn hr hg hB⟩
  | 30, hi => cases hi; obtain ⟨v, hd, hr⟩ := hrel 30 _ rfl; exact ⟨_, hd, trivial⟩
  | _ + 31, hi => simp [seV] at hi

theorem chs_of_rv {w : World} {base B : Nat} {C : Array Value} {g : Nat} {f : CH} {D : Array Value} (h : CHV w base C g f D) (hB : w.heap.size ≤ B) : ChS w B f D := by
  obtain ⟨T, fr, hg⟩ := h.data
  have hrel := h.rel
  refine ⟨h.size, h.one, fun i s hi => ?_⟩
  match i, hi with
  | 0, hi => cases hi; obtain ⟨v, hd, hr⟩ := hrel 0 _ rfl; exact ⟨_, hd, hr⟩
  | 1, hi => cases hi; obtain ⟨v, hd, hr⟩ := hrel 1 _ rfl; exact ⟨_, hd, se_vn hr hg hB⟩
  | 2, hi => cases hi; obtain ⟨v, hd, hr⟩ := hrel 2 _ rfl; exact ⟨_, hd, se_vn hr hg hB⟩
  | 3, hi => cases hi; obtain ⟨v, hd, hr⟩ := hrel 3 _ rfl; exact ⟨_, hd, se_row hr hB fun us h => h⟩
  | 4, hi => cases hi; obtain ⟨v, hd, hr⟩ := hrel 4 _ rfl; exact ⟨_, hd, se_vn hr hg hB⟩
  | 5, hi => cases hi; obtain ⟨v, hd, hr⟩ := hrel 5 _ rfl; exact ⟨_, hd, hr⟩
  | 6, hi => cases hi; obtain ⟨v, hd, hr⟩ := hrel 6 _ rfl; exact ⟨_, hd, hr⟩
  | 7, hi => cases hi; obtain ⟨v, hd, hr⟩ := hrel 7 _ rfl; exact ⟨_, hd, se_row hr hB fun us h => h⟩
  | 8, hi => cases hi; obtain ⟨v, hd, hr⟩ := hrel 8 _ rfl; exact ⟨_, hd, se_vn hr hg hB⟩
  | 9, hi => cases hi; obtain ⟨v, hd, hr⟩ := hrel 9 _ rfl; exact ⟨_, hd, hr⟩
  | 10, hi => cases hi; obtain ⟨v, hd, hr⟩ := hrel 10 _ rfl; exact ⟨_, hd, se_vn hr hg hB⟩
  | 11, hi => cases hi; obtain ⟨v, hd, hr⟩ := hrel 11 _ rfl; exact ⟨_, hd, se_row hr hB fun us h => h⟩
  | 12, hi => cases hi; obtain ⟨v, hd, hr⟩ := hrel 12 _ rfl; exact ⟨_, hd, se_row hr hB fun us h => h⟩
  | 13, hi => cases hi; obtain ⟨v, hd, hr⟩ := hrel 13 _ rfl; exact ⟨_, hd, hr⟩
  | 14, hi => cases hi; obtain ⟨v, hd, hr⟩ := hrel 14 _ rfl; exact ⟨_, hd, se_vn hr hg hB⟩
  | 15, hi => cases hi; obtain ⟨v, hd, hr⟩ := hrel 15 _ rfl; exact ⟨_, hd, hr⟩
  | 16, hi => cases hi; obtain ⟨v, hd, hr⟩ := hrel 16 _ rfl; exact ⟨_, hd, se_row hr hB fun us h => h⟩
  | 17, hi => cases hi; obtain ⟨v, hd, hr⟩ := hrel 17 _ rfl; exact ⟨_, hd, hr⟩
  | 18, hi => cases hi; obtain ⟨v, hd, hr⟩ := hrel 18 _ rfl; exact ⟨_, hd, se_row hr hB fun us h => h⟩
  | 19, hi => cases hi; obtain ⟨v, hd, hr⟩ := hrel 19 _ rfl; exact ⟨_, hd, se_vn hr hg hB⟩
  | 20, hi => cases hi; obtain ⟨v, hd, hr⟩ := hrel 20 _ rfl; exact ⟨_, hd, se_row hr hB fun us h => h⟩
  | 21, hi => cases hi; obtain ⟨v, hd, hr⟩ := hrel 21 _ rfl; exact ⟨_, hd, se_lst hr hg hB fun us h => h⟩
  | 22, hi => cases hi; obtain ⟨v, hd, hr⟩ := hrel 22 _ rfl; exact ⟨_, hd, hr⟩
  | 23, hi => cases hi; obtain ⟨v, hd, hr⟩ := hrel 23 _ rfl; exact ⟨_, hd, se_vn hr hg hB⟩
  | 24, hi => cases hi; obtain ⟨v, hd, hr⟩ := hrel 24 _ rfl; exact ⟨_, hd, se_lst hr hg hB fun us h => h⟩
  | 25, hi => cases hi; obtain ⟨v, hd, hr⟩ := hrel 25 _ rfl; exact ⟨_, hd, se_row hr hB fun us h => h⟩
  | 26, hi => cases hi; obtain ⟨v, hd, hr⟩ := hrel 26 _ rfl; exact ⟨_, hd, se_lst hr hg hB fun us h => h⟩
  | 27, hi => cases hi; obtain ⟨v, hd, hr⟩ := hrel 27 _ rfl; exact ⟨_, hd, hr⟩
  | 28, hi => cases hi; obtain ⟨v, hd, hr⟩ := hrel 28 _ rfl; exact ⟨_, hd, se_vn hr hg hB⟩
  | 29, hi => cases hi; obtain ⟨v, hd, hr⟩ := hrel 29 _ rfl; exact ⟨_, hd, se_vn hr hg hB⟩
  | 30, hi => cases hi; obtain ⟨v, hd, hr⟩ := hrel 30 _ rfl; exact ⟨_, hd, trivial⟩
  | _ + 31, hi => simp [seV] at hi

/-- What reading any bytes leaves, by value. -/
theorem UnGot.chs {w w' : World} {lo : Nat} {bs : List UInt8} {e : Ending} (h : UnGot w lo bs e w') : (chRead bs = none ∧ ∃ D : Array Value, e = .returned (.tuple #[.agg D, .bool false]) ∧ D.size = 31 ∧ D.all (·.oneCell') = true) ∨
    ∃ (f : CH) (D : Array Value), chRead bs = some f ∧ e = .returned (.tuple #[.agg D, .bool true]) ∧ ChS w' w'.heap.size f D := by
  rcases h.2 with h | ⟨f, D, base, C, g, hy, he, hs, h1, _, _, ⟨T, fr, hg⟩, hrel⟩
  · exact .inl h
  · exact .inr ⟨f, D, hy, he, chs_of_uv hs h1 hg (Nat.le_refl _) hrel⟩

end Go.Proofs.YtopcljikkdlffaaGreat
namespace Go.Proofs.YtopcljikkdlffaaGreat
open Go.RowKit

set_option maxRecDepth 100000 in
theorem arr118 (s : Array Value) (h : s.size = 118) : ∃ z : Nat → Value, s = #[z 0, z 1, z 2, z 3, z 4, z 5, z 6, z 7, z 8, z 9, z 10, z 11, z 12, z 13, z 14, z 15, z 16, z 17, z 18, z 19, z 20, z 21, z 22, z 23, z 24, z 25, z 26, z 27, z 28, z 29, z 30, z 31, z 32, z 33, z 34, z 35, z 36, z 37, z 38, z 39, z 40, z 41, z 42, z 43, z 44, z 45, z 46, z 47, z 48, z 49, z 50, z 51, z 52, z 53, z 54, z 55, z 56, z 57, z 58, z 59, z 60, z 61, z 62, z 63, z 64, z 65, z 66, z 67, z 68, z 69, z 70, z 71, z 72, z 73, z 74, z 75, z 76, z 77, z 78, z 79, z 80, z 81, z 82, z 83, z 84, z 85, z 86, z 87, z 88, z 89, z 90, z 91, z 92, z 93, z 94, z 95, z 96, z 97, z 98, z 99, z 100, z 101, z 102, z 103, z 104, z 105, z 106, z 107, z 108, z 109, z 110, z 111, z 112, z 113, z 114, z 115, z 116, z 117] := by
  obtain ⟨z, hz⟩ := arr_of 118 s h
  exact ⟨z, hz⟩

noncomputable def msReg (n : Nat) : Code := (Tryz.f22.body.bind (prgm n)).getD .skip
noncomputable def msBody (n : Nat) : Code := ((Tryz.f22.body.bind (pblk n)).bind ploop).getD .skip

theorem Tryz.info56m : (Tryz.prog.info? 56).map (fun i => (i.zero, i.size, i.bytes)) = some (some (.agg #[.int .u16 0, .slice none 0 0]), 2, 32) := by kernel_rfl
theorem Tryz.info59m : (Tryz.prog.info? 59).map (fun i => (i.zero, i.size, i.bytes)) = some (some (.agg #[.slice none 0 0, .int .u32 0]), 2, 32) := by kernel_rfl

/-- An element of two cells is appended to a row of one's own. -/
theorem app_two {w : World} {base n : Nat} {v x y z : Value} {us : List Value} (t ty e : TypeId) (i : TypeInfo) (ht : Tryz.prog.underlying t = some (.slice e)) (hi : Tryz.prog.info? e = some i) (hz : i.zero = some z) (hsz : i.size = 2) (hby : i.bytes = 32) (hzs : z.cells.size = 2)
    (hown : w.ownsRow base e 2 v n us) (hb : base ≤ w.heap.size) (h1x : x.oneCell' = true) (h1y : y.oneCell' = true) (hn : n ≤ 4294967296) {a : Nat} (hnew : w.heap[a]? = some (.cells #[x, y] e (0, 0))) :
    ∃ v' w', (Builtin.append_ #[t, t] ty #[v, .slice (some ⟨a, 0, none⟩) 1 1]).run Tryz.prog w = .ok v' w' ∧ (∃ ao co, v' = .slice ao (n + 1) co) ∧ w'.ownsRow base e 2 v' (n + 1) (us ++ [x, y]) ∧ w.heap.size ≤ w'.heap.size ∧ (w'.os = w.os ∧ w'.tape = w.tape ∧ w'.output = w.output) ∧
      ∀ k, k < w.heap.size → (k < base ∨ ∃ C T fr, w.heap[k]? = some (.cells C T fr) ∧ T ≠ e) → w'.heap[k]? = w.heap[k]? := by
  obtain ⟨v', w', hr, hown', hg, _⟩ := append_sharp (P := Tryz.prog) w base t ty e i z 2 32 ht hi hz hsz hby hzs (by decide) v n us hown ⟨a, 0, none⟩ 1 1 [x, y] rfl
    (fun j u hu => by
      match j, hu with
      | 0, hu => simp at hu; subst hu; exact (cell_of_heap hnew).trans rfl
      | 1, hu => simp at hu; subst hu; exact (cell_of_heap hnew).trans rfl)
    (fun u hu => by simp at hu; rcases hu with rfl | rfl <;> assumption) (by show n + 1 ≤ maxLen; unfold maxLen; omega) (by show (n + 1) * 32 ≤ 140737488355328; omega) hb
  refine ⟨v', w', hr, row_slice hown', hown', hg.size, ⟨hg.os, hg.tape, hg.output⟩, fun k hk hd => hg.block k hk fun e0 => ?_⟩
  rcases hown.2 with ⟨rfl, _⟩ | ⟨g', cp, cur, rfl, hb', hh, _⟩
  · cases e0
  · simp only [Value.ownBlock, Option.some.injEq] at e0
    subst e0
    rcases hd with hd | ⟨C, T, fr, hC, hT⟩
    · omega
    · rw [hh] at hC
      simp only [Option.some.injEq, Obj.cells.injEq] at hC
      exact hT hC.2.1.symm

/-- One element was appended. -/
def MsPost1 (base mB n : Nat) (us : List Value) (X Y : Value) (wr : World) (s : Array Value) (e : Exit) (a' : Act) (w' : World) : Prop :=
  e = .normal ∧ a'.defers = [] ∧ a'.tmps.size = 118 ∧ (a'.tmps[1]? = s[1]? ∧ a'.tmps[3]? = s[3]? ∧ a'.tmps[59]? = s[59]? ∧ a'.tmps[60]? = s[60]? ∧ a'.tmps[61]? = s[61]?) ∧ ∃ (v' : Value) (w2 : World), w' = w2.setCell ⟨mB, 21, none⟩ v' ∧ (∃ ao co, v' = Value.slice ao (n + 1) co) ∧ w2.ownsRow base 56 2 v' (n + 1) (us ++ [X, Y]) ∧ wr.heap.size ≤ w2.heap.size ∧ (w2.os = wr.os ∧ w2.tape = wr.tape ∧ w2.output = wr.output) ∧
    ∀ k, k < wr.heap.size → (k < base ∨ ∃ C T fr, wr.heap[k]? = some (.cells C T fr) ∧ T ≠ 56) → w2.heap[k]? = wr.heap[k]?

set_option maxRecDepth 100000 in
set_option maxHeartbeats 8000000 in
theorem msr_1 {wr : World} {p mB h j n len cap base co : Nat} {ao : Option Addr} {X Y : Value} {us : List Value} {s : Array Value} {Cm : Array Value} (hs : s.size = 118) (h1 : s[1]? = some (.pointer (some ⟨p, 0, none⟩))) (h3 : s[3]? = some (.pointer (some ⟨mB, 0, none⟩))) (h4 : s[4]? = some (.int .i64 (j : Nat))) (h5 : s[5]? = some X)
    (hm : wr.heap[mB]? = some (.cells Cm 54 (0, 0))) (q1 : wr.cell? ⟨mB, 21, none⟩ = some (.slice ao n co)) (q2 : wr.cell? ⟨p, 21, none⟩ = some (.slice (some ⟨h, 0, none⟩) len cap)) (hjl : j < len) (q3 : wr.cell? ⟨h, j, none⟩ = some Y) (hpb : p < base) (hhb : h < base)
    (hown : wr.ownsRow base 56 2 (.slice ao n co) n us) (hbw : base ≤ wr.heap.size) (hX : X.oneCell' = true) (hY : Y.oneCell' = true) (hn : n ≤ 4294967296) (hX2 : ∃ g : Int, X = .int .u16 g) (hY2 : ∃ a l c, Y = .slice a l c) :
    Code.wp Tryz.prog (msReg 5) (MsPost1 base mB n us X Y wr s) ⟨s, []⟩ wr := by
  obtain ⟨z, rfl⟩ := arr118 s hs
  have e1 : z 1 = .pointer (some ⟨p, 0, none⟩) := Option.some.inj h1
  have e3 : z 3 = .pointer (some ⟨mB, 0, none⟩) := Option.some.inj h3
  have e4 : z 4 = .int .i64 (j : Nat) := Option.some.inj h4
  have e5 : z 5 = X := Option.some.inj h5
  rw [e1, e3, e4, e5]
  clear hs h1 h3 h4 h5 e1 e3 e4 e5
  obtain ⟨i0, hi, hz0, hz1, hz2⟩ := info_parts Tryz.info56m
  obtain ⟨wA, hwA⟩ : ∃ x, x = (wr.alloc (.cells #[X, Y] 56)).drew := ⟨_, rfl⟩
  have hnew : wA.heap[wr.heap.size]? = some (.cells #[X, Y] 56 (0, 0)) := by rw [hwA]; exact heap_alloc_new wr _
  have hkA : ∀ k, k < wr.heap.size → wA.heap[k]? = wr.heap[k]? := fun k hk => by rw [hwA]; exact Below.heap_alloc wr _ _ hk
  have hsA : wA.heap.size = wr.heap.size + 1 := by rw [hwA]; show (wr.alloc _).heap.size = _; simp
  have hoA : wA.os = wr.os ∧ wA.tape = wr.tape ∧ wA.output = wr.output := by rw [hwA]; exact ⟨rfl, rfl, rfl⟩
  obtain ⟨v', w2, hrun, ⟨ao', co', rfl⟩, hown', hsz, hot, hkeep⟩ := app_two (w := wA) 51 51 56 i0 Tryz.underlying51 hi hz0 hz1 hz2 rfl (own_kept hown fun k hk => hkA k (hown.lt k hk).2) (by omega) hX hY hn hnew
  have hml := lt_of_heap hm
  have HMW : Hid (w2.heap[mB]? = some (.cells Cm 54 (0, 0))) := Lib.hid ((hkeep mB (by omega) (.inr ⟨_, _, _, (hkA mB hml).trans hm, by decide⟩)).trans ((hkA mB hml).trans hm))
  have hq1A : wA.cell? ⟨mB, 21, none⟩ = some (.slice ao n co) := (World.cell?_of_block (hkA mB hml)).trans q1
  have hq2A : wA.cell? ⟨p, 21, none⟩ = some (.slice (some ⟨h, 0, none⟩) len cap) := (World.cell?_of_block (hkA p (by omega))).trans q2
  have hq3A : wA.cell? ⟨h, j, none⟩ = some Y := (World.cell?_of_block (hkA h (by omega))).trans q3
  have hq1 : w2.cell? ⟨mB, 21, none⟩ = some (.slice ao n co) := (World.cell?_of_block ((hkeep mB (by omega) (.inr ⟨_, _, _, (hkA mB hml).trans hm, by decide⟩)))).trans hq1A
  have hq2 : w2.cell? ⟨p, 21, none⟩ = some (.slice (some ⟨h, 0, none⟩) len cap) := (World.cell?_of_block (hkeep p (by omega) (.inl hpb))).trans hq2A
  have hq3 : w2.cell? ⟨h, j, none⟩ = some Y := (World.cell?_of_block (hkeep h (by omega) (.inl hhb))).trans hq3A
  have hfz : w2.frozen? ⟨mB, 21, none⟩ = false := frozen_of_heap HMW.out
  have HRUN := Lib.hid hrun
  have HWA := Lib.hid hwA
  have HOWN := Lib.hid hown'
  have HK : Hid (∀ k, k < wr.heap.size → (k < base ∨ ∃ C T fr, wr.heap[k]? = some (.cells C T fr) ∧ T ≠ 56) → w2.heap[k]? = wr.heap[k]?) := Lib.hid fun k hk hd => (hkeep k (by omega) (hd.imp id fun ⟨C, T, fr, h1, h2⟩ => ⟨C, T, fr, (hkA k hk).trans h1, h2⟩)).trans (hkA k hk)
  have HS2 : Hid (wr.heap.size ≤ w2.heap.size) := Lib.hid (by omega)
  have HOT : Hid (w2.os = wr.os ∧ w2.tape = wr.tape ∧ w2.output = wr.output) := Lib.hid ⟨hot.1.trans hoA.1, hot.2.1.trans hoA.2.1, hot.2.2.trans hoA.2.2⟩
  have hjI : ((j : Nat) : Int) < ((len : Nat) : Int) := by omega
  clear hrun hwA hown' hkeep hkA hsA hoA hsz hot hnew hm hown
  conv => arg 2; whnf
  refine region_ord [(0, true), (1, true), (2, true), (3, true), (4, true), (5, true), (6, true), (7, true), (8, true), (9, true), (10, true), (11, true), (12, false), (13, false), (14, true), (15, true), (16, false)] (fun w' => w'.cell? ⟨mB, 21, none⟩ = some (.slice ao n co) ∧ w'.cell? ⟨p, 21, none⟩ = some (.slice (some ⟨h, 0, none⟩) len cap) ∧ w'.cell? ⟨h, j, none⟩ = some Y) mixed (by kernel_rfl) (by kernel_rfl) rfl (by rintro c a d v w ⟨h, _⟩; cases h) ⟨q1, q2, q3⟩ ?_
  iterate 11 (refine wpOrd_pureG rfl (by rfl) ?_; apply Exists.intro; refine ⟨fun w' hS => ?_, ?_⟩; (· (have hS1 := hS.1; have hS2 := hS.2.1; have hS3 := hS.2.2; clear hS; first | (go_simp; done) | (go_simp; with_reducible rfl))); simp only [List.getElem_toArray, List.getElem_cons_succ, List.getElem_cons_zero, Act.put, List.setIfInBounds_toArray, List.set_cons_zero, List.set_cons_succ])
  (refine wpOrd_pureG rfl (by rfl) ?_; refine ⟨.agg #[X, Y], fun w' hS => exec_build 56 _ _ rfl (by obtain ⟨_, rfl⟩ := hX2; obtain ⟨_, _, _, rfl⟩ := hY2; kernel_rfl), ?_⟩; simp only [List.getElem_toArray, List.getElem_cons_succ, List.getElem_cons_zero, Act.put, List.setIfInBounds_toArray, List.set_cons_zero, List.set_cons_succ])
  refine wpOrd_runG rfl (by rfl) (fun K hK => ?_)
  go_simp
  rw [← HWA.out]
  refine hK _ _ ⟨hq1A, hq2A, hq3A⟩ ?_
  clear hK K
  try simp only [List.getElem_toArray, List.getElem_cons_succ, List.getElem_cons_zero, Act.put, List.setIfInBounds_toArray, List.set_cons_zero, List.set_cons_succ]
  refine wpOrd_runG rfl (by rfl) (fun K hK => ?_)
  refine wp_append_run (.tmp 70) (.tmp 78) 51 rfl _ _ rfl rfl HRUN.out ?_
  refine hK _ _ ⟨hq1, hq2, hq3⟩ ?_
  clear hK K
  try simp only [List.getElem_toArray, List.getElem_cons_succ, List.getElem_cons_zero, Act.put, List.setIfInBounds_toArray, List.set_cons_zero, List.set_cons_succ]
  iterate 2 (refine wpOrd_pureG rfl (by rfl) ?_; apply Exists.intro; refine ⟨fun w' hS => ?_, ?_⟩; (· (have hS1 := hS.1; have hS2 := hS.2.1; have hS3 := hS.2.2; clear hS; first | (go_simp; done) | (go_simp; with_reducible rfl))); simp only [List.getElem_toArray, List.getElem_cons_succ, List.getElem_cons_zero, Act.put, List.setIfInBounds_toArray, List.set_cons_zero, List.set_cons_succ])
  refine wpOrd_last rfl rfl (by kernel_rfl) (fun K hK => ?_)
  simp only [List.getElem_toArray, List.getElem_cons_succ, List.getElem_cons_zero]
  go_simp
  refine hK _ _ ?_
  refine wpOrd_nil ?_
  exact ⟨rfl, rfl, rfl, ⟨rfl, rfl, rfl, rfl, rfl⟩, _, w2, rfl, ⟨_, _, rfl⟩, HOWN.out, HS2.out, HOT.out, HK.out⟩

/-- One element was appended. -/
def MsPost2 (base mB n : Nat) (us : List Value) (X Y : Value) (wr : World) (s : Array Value) (e : Exit) (a' : Act) (w' : World) : Prop :=
  e = .normal ∧ a'.defers = [] ∧ a'.tmps.size = 118 ∧ (a'.tmps[1]? = s[1]? ∧ a'.tmps[3]? = s[3]? ∧ a'.tmps[84]? = s[84]? ∧ a'.tmps[85]? = s[85]? ∧ a'.tmps[86]? = s[86]?) ∧ ∃ (v' : Value) (w2 : World), w' = w2.setCell ⟨mB, 24, none⟩ v' ∧ (∃ ao co, v' = Value.slice ao (n + 1) co) ∧ w2.ownsRow base 59 2 v' (n + 1) (us ++ [X, Y]) ∧ wr.heap.size ≤ w2.heap.size ∧ (w2.os = wr.os ∧ w2.tape = wr.tape ∧ w2.output = wr.output) ∧
    ∀ k, k < wr.heap.size → (k < base ∨ ∃ C T fr, wr.heap[k]? = some (.cells C T fr) ∧ T ≠ 59) → w2.heap[k]? = wr.heap[k]?

set_option maxRecDepth 100000 in
set_option maxHeartbeats 8000000 in
theorem msr_2 {wr : World} {p mB h j n len cap base co : Nat} {ao : Option Addr} {X Y : Value} {us : List Value} {s : Array Value} {Cm : Array Value} (hs : s.size = 118) (h1 : s[1]? = some (.pointer (some ⟨p, 0, none⟩))) (h3 : s[3]? = some (.pointer (some ⟨mB, 0, none⟩))) (h4 : s[6]? = some (.int .i64 (j : Nat))) (h5 : s[7]? = some X)
    (hm : wr.heap[mB]? = some (.cells Cm 54 (0, 0))) (q1 : wr.cell? ⟨mB, 24, none⟩ = some (.slice ao n co)) (q2 : wr.cell? ⟨p, 25, none⟩ = some (.slice (some ⟨h, 0, none⟩) len cap)) (hjl : j < len) (q3 : wr.cell? ⟨h, j, none⟩ = some Y) (hpb : p < base) (hhb : h < base)
    (hown : wr.ownsRow base 59 2 (.slice ao n co) n us) (hbw : base ≤ wr.heap.size) (hX : X.oneCell' = true) (hY : Y.oneCell' = true) (hn : n ≤ 4294967296) (hX2 : ∃ a l c, X = .slice a l c) (hY2 : ∃ g : Int, Y = .int .u32 g) :
    Code.wp Tryz.prog (msReg 10) (MsPost2 base mB n us X Y wr s) ⟨s, []⟩ wr := by
  obtain ⟨z, rfl⟩ := arr118 s hs
  have e1 : z 1 = .pointer (some ⟨p, 0, none⟩) := Option.some.inj h1
  have e3 : z 3 = .pointer (some ⟨mB, 0, none⟩) := Option.some.inj h3
  have e4 : z 6 = .int .i64 (j : Nat) := Option.some.inj h4
  have e5 : z 7 = X := Option.some.inj h5
  rw [e1, e3, e4, e5]
  clear hs h1 h3 h4 h5 e1 e3 e4 e5
  obtain ⟨i0, hi, hz0, hz1, hz2⟩ := info_parts Tryz.info59m
  obtain ⟨wA, hwA⟩ : ∃ x, x = (wr.alloc (.cells #[X, Y] 59)).drew := ⟨_, rfl⟩
  have hnew : wA.heap[wr.heap.size]? = some (.cells #[X, Y] 59 (0, 0)) := by rw [hwA]; exact heap_alloc_new wr _
  have hkA : ∀ k, k < wr.heap.size → wA.heap[k]? = wr.heap[k]? := fun k hk => by rw [hwA]; exact Below.heap_alloc wr _ _ hk
  have hsA : wA.heap.size = wr.heap.size + 1 := by rw [hwA]; show (wr.alloc _).heap.size = _; simp
  have hoA : wA.os = wr.os ∧ wA.tape = wr.tape ∧ wA.output = wr.output := by rw [hwA]; exact ⟨rfl, rfl, rfl⟩
  obtain ⟨v', w2, hrun, ⟨ao', co', rfl⟩, hown', hsz, hot, hkeep⟩ := app_two (w := wA) 52 52 59 i0 Tryz.underlying52 hi hz0 hz1 hz2 rfl (own_kept hown fun k hk => hkA k (hown.lt k hk).2) (by omega) hX hY hn hnew
  have hml := lt_of_heap hm
  have HMW : Hid (w2.heap[mB]? = some (.cells Cm 54 (0, 0))) := Lib.hid ((hkeep mB (by omega) (.inr ⟨_, _, _, (hkA mB hml).trans hm, by decide⟩)).trans ((hkA mB hml).trans hm))
  have hq1A : wA.cell? ⟨mB, 24, none⟩ = some (.slice ao n co) := (World.cell?_of_block (hkA mB hml)).trans q1
  have hq2A : wA.cell? ⟨p, 25, none⟩ = some (.slice (some ⟨h, 0, none⟩) len cap) := (World.cell?_of_block (hkA p (by omega))).trans q2
  have hq3A : wA.cell? ⟨h, j, none⟩ = some Y := (World.cell?_of_block (hkA h (by omega))).trans q3
  have hq1 : w2.cell? ⟨mB, 24, none⟩ = some (.slice ao n co) := (World.cell?_of_block ((hkeep mB (by omega) (.inr ⟨_, _, _, (hkA mB hml).trans hm, by decide⟩)))).trans hq1A
  have hq2 : w2.cell? ⟨p, 25, none⟩ = some (.slice (some ⟨h, 0, none⟩) len cap) := (World.cell?_of_block (hkeep p (by omega) (.inl hpb))).trans hq2A
  have hq3 : w2.cell? ⟨h, j, none⟩ = some Y := (World.cell?_of_block (hkeep h (by omega) (.inl hhb))).trans hq3A
  have hfz : w2.frozen? ⟨mB, 24, none⟩ = false := frozen_of_heap HMW.out
  have HRUN := Lib.hid hrun
  have HWA := Lib.hid hwA
  have HOWN := Lib.hid hown'
  have HK : Hid (∀ k, k < wr.heap.size → (k < base ∨ ∃ C T fr, wr.heap[k]? = some (.cells C T fr) ∧ T ≠ 59) → w2.heap[k]? = wr.heap[k]?) := Lib.hid fun k hk hd => (hkeep k (by omega) (hd.imp id fun ⟨C, T, fr, h1, h2⟩ => ⟨C, T, fr, (hkA k hk).trans h1, h2⟩)).trans (hkA k hk)
  have HS2 : Hid (wr.heap.size ≤ w2.heap.size) := Lib.hid (by omega)
  have HOT : Hid (w2.os = wr.os ∧ w2.tape = wr.tape ∧ w2.output = wr.output) := Lib.hid ⟨hot.1.trans hoA.1, hot.2.1.trans hoA.2.1, hot.2.2.trans hoA.2.2⟩
  have hjI : ((j : Nat) : Int) < ((len : Nat) : Int) := by omega
  clear hrun hwA hown' hkeep hkA hsA hoA hsz hot hnew hm hown
  conv => arg 2; whnf
  refine region_ord [(0, true), (1, true), (2, true), (3, true), (4, true), (5, true), (6, true), (7, true), (8, true), (9, true), (10, true), (11, true), (12, false), (13, false), (14, true), (15, true), (16, false)] (fun w' => w'.cell? ⟨mB, 24, none⟩ = some (.slice ao n co) ∧ w'.cell? ⟨p, 25, none⟩ = some (.slice (some ⟨h, 0, none⟩) len cap) ∧ w'.cell? ⟨h, j, none⟩ = some Y) mixed (by kernel_rfl) (by kernel_rfl) rfl (by rintro c a d v w ⟨h, _⟩; cases h) ⟨q1, q2, q3⟩ ?_
  iterate 11 (refine wpOrd_pureG rfl (by rfl) ?_; apply Exists.intro; refine ⟨fun w' hS => ?_, ?_⟩; (· (have hS1 := hS.1; have hS2 := hS.2.1; have hS3 := hS.2.2; clear hS; first | (go_simp; done) | (go_simp; with_reducible rfl))); simp only [List.getElem_toArray, List.getElem_cons_succ, List.getElem_cons_zero, Act.put, List.setIfInBounds_toArray, List.set_cons_zero, List.set_cons_succ])
  (refine wpOrd_pureG rfl (by rfl) ?_; refine ⟨.agg #[X, Y], fun w' hS => exec_build 59 _ _ rfl (by obtain ⟨_, _, _, rfl⟩ := hX2; obtain ⟨_, rfl⟩ := hY2; kernel_rfl), ?_⟩; simp only [List.getElem_toArray, List.getElem_cons_succ, List.getElem_cons_zero, Act.put, List.setIfInBounds_toArray, List.set_cons_zero, List.set_cons_succ])
  refine wpOrd_runG rfl (by rfl) (fun K hK => ?_)
  go_simp
  rw [← HWA.out]
  refine hK _ _ ⟨hq1A, hq2A, hq3A⟩ ?_
  clear hK K
  try simp only [List.getElem_toArray, List.getElem_cons_succ, List.getElem_cons_zero, Act.put, List.setIfInBounds_toArray, List.set_cons_zero, List.set_cons_succ]
  refine wpOrd_runG rfl (by rfl) (fun K hK => ?_)
  refine wp_append_run (.tmp 95) (.tmp 103) 52 rfl _ _ rfl rfl HRUN.out ?_
  refine hK _ _ ⟨hq1, hq2, hq3⟩ ?_
  clear hK K
  try simp only [List.getElem_toArray, List.getElem_cons_succ, List.getElem_cons_zero, Act.put, List.setIfInBounds_toArray, List.set_cons_zero, List.set_cons_succ]
  iterate 2 (refine wpOrd_pureG rfl (by rfl) ?_; apply Exists.intro; refine ⟨fun w' hS => ?_, ?_⟩; (· (have hS1 := hS.1; have hS2 := hS.2.1; have hS3 := hS.2.2; clear hS; first | (go_simp; done) | (go_simp; with_reducible rfl))); simp only [List.getElem_toArray, List.getElem_cons_succ, List.getElem_cons_zero, Act.put, List.setIfInBounds_toArray, List.set_cons_zero, List.set_cons_succ])
  refine wpOrd_last rfl rfl (by kernel_rfl) (fun K hK => ?_)
  simp only [List.getElem_toArray, List.getElem_cons_succ, List.getElem_cons_zero]
  go_simp
  refine hK _ _ ?_
  refine wpOrd_nil ?_
  exact ⟨rfl, rfl, rfl, ⟨rfl, rfl, rfl, rfl, rfl⟩, _, w2, rfl, ⟨_, _, rfl⟩, HOWN.out, HS2.out, HOT.out, HK.out⟩

end Go.Proofs.YtopcljikkdlffaaGreat
