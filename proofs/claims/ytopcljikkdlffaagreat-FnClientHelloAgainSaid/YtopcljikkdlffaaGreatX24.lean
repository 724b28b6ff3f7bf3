/- A ClientHello is read by package tls. A ClientHello that was read has no list that is too long. No program and no memory stand here. No statement of the seat is proved here. -/
import Derived.Test.YtopcljikkdlffaaGreatX23
import Derived.Test.YtopcljikkdlffaaGreatX08
namespace Go.Proofs.YtopcljikkdlffaaGreat
open Go.RowKit

/-- The cells of a clientHelloMsg that nothing was said of, but for the data. -/
def zero29 (v : Value) : Array Value := #[v, .int .u16 0, .slice none 0 0, .slice none 0 0, .slice none 0 0, .slice none 0 0, .string ⟨#[]⟩, .bool false, .slice none 0 0, .slice none 0 0, .bool false, .slice none 0 0, .slice none 0 0, .slice none 0 0, .bool false, .slice none 0 0, .bool false, .slice none 0 0, .bool false, .slice none 0 0, .slice none 0 0, .slice none 0 0, .bool false, .slice none 0 0, .slice none 0 0, .slice none 0 0, .slice none 0 0, .slice none 0 0, .slice none 0 0]

theorem chF_start {w W : World} {C : Array Value} {g m : Nat} {v : Value} {T Tg : TypeId} {fr : Nat × Nat} (hfs : Fs [m] w W) (hgm : g ≠ m) (hg : w.heap[g]? = some (.cells C Tg fr)) (hm : W.heap[m]? = some (.cells (zero29 v) T (0, 0))) : Bn w C g m [(m, chF C g {})] none W := by
  refine Bn.start hfs hgm hg hm rfl fun i fd hi => ?_
  match i, hi with
  | 0, hi => cases hi; exact ⟨_, rfl, trivial, fun h => by cases h⟩
  | 1, hi => cases hi; exact ⟨_, rfl, rfl, fun h => by cases h⟩
  | 2, hi => cases hi; exact ⟨_, rfl, .inl ⟨rfl, rfl⟩, fun h => by cases h⟩
  | 3, hi => cases hi; exact ⟨_, rfl, .inl ⟨rfl, rfl⟩, fun h => by cases h⟩
  | 4, hi => cases hi; exact ⟨_, rfl, ⟨[], World.ownsRow_nil _ _ _ _, rfl⟩, fun _ => rfl⟩
  | 5, hi => cases hi; exact ⟨_, rfl, .inl ⟨rfl, rfl⟩, fun h => by cases h⟩
  | 6, hi => cases hi; exact ⟨_, rfl, rfl, fun h => by cases h⟩
  | 7, hi => cases hi; exact ⟨_, rfl, rfl, fun h => by cases h⟩
  | 8, hi => cases hi; exact ⟨_, rfl, ⟨[], World.ownsRow_nil _ _ _ _, rfl⟩, fun _ => rfl⟩
  | 9, hi => cases hi; exact ⟨_, rfl, .inl ⟨rfl, rfl⟩, fun h => by cases h⟩
  | 10, hi => cases hi; exact ⟨_, rfl, rfl, fun h => by cases h⟩
  | 11, hi => cases hi; exact ⟨_, rfl, .inl ⟨rfl, rfl⟩, fun h => by cases h⟩
  | 12, hi => cases hi; exact ⟨_, rfl, ⟨[], World.ownsRow_nil _ _ _ _, rfl⟩, fun _ => rfl⟩
  | 13, hi => cases hi; exact ⟨_, rfl, ⟨[], World.ownsRow_nil _ _ _ _, rfl⟩, fun _ => rfl⟩
  | 14, hi => cases hi; exact ⟨_, rfl, rfl, fun h => by cases h⟩
  | 15, hi => cases hi; exact ⟨_, rfl, .inl ⟨rfl, rfl⟩, fun h => by cases h⟩
  | 16, hi => cases hi; exact ⟨_, rfl, rfl, fun h => by cases h⟩
  | 17, hi => cases hi; exact ⟨_, rfl, ⟨[], World.ownsRow_nil _ _ _ _, rfl⟩, fun _ => rfl⟩
  | 18, hi => cases hi; exact ⟨_, rfl, rfl, fun h => by cases h⟩
  | 19, hi => cases hi; exact ⟨_, rfl, ⟨[], World.ownsRow_nil _ _ _ _, rfl⟩, fun _ => rfl⟩
  | 20, hi => cases hi; exact ⟨_, rfl, .inl ⟨rfl, rfl⟩, fun h => by cases h⟩
  | 21, hi => cases hi; exact ⟨_, rfl, ⟨[], World.ownsRow_nil _ _ _ _, (fun j x h => by simp at h)⟩, fun _ => rfl⟩
  | 22, hi => cases hi; exact ⟨_, rfl, rfl, fun h => by cases h⟩
  | 23, hi => cases hi; exact ⟨_, rfl, .inl ⟨rfl, rfl⟩, fun h => by cases h⟩
  | 24, hi => cases hi; exact ⟨_, rfl, ⟨[], World.ownsRow_nil _ _ _ _, (fun j x h => by simp at h)⟩, fun _ => rfl⟩
  | 25, hi => cases hi; exact ⟨_, rfl, ⟨[], World.ownsRow_nil _ _ _ _, ShowL.nil⟩, fun _ => rfl⟩
  | 26, hi => cases hi; exact ⟨_, rfl, ⟨[], World.ownsRow_nil _ _ _ _, ⟨rfl, _, _, _, rfl, rfl⟩⟩, fun _ => rfl⟩
  | 27, hi => cases hi; exact ⟨_, rfl, .inl ⟨rfl, rfl⟩, fun h => by cases h⟩
  | 28, hi => cases hi; exact ⟨_, rfl, ⟨[], World.ownsRow_nil _ _ _ _, rfl⟩, fun _ => rfl⟩

/-- A row without elements that was just made is stored. -/
theorem Bn.empty {w0 w : World} {C : Array Value} {g m : Nat} {Bs : List (Nat × List FD)} {Ms : Option (Nat × List Nat)} (h : Bn w0 C g m Bs Ms w) {b p i : Nat} {F : List FD} {fo : FD} (hb : Bs[b]? = some (p, F)) (hi : F[i]? = some fo) (e : TypeId) (R : Value → List Value → Prop) (hR : R (.slice (some ⟨w.heap.size, 0, none⟩) 0 0) []) :
    Bn w0 C g m (Bs.set b (p, F.set i (.own e 1 0 R))) Ms ((w.alloc (.cells #[] e)).setCell ⟨p, i, none⟩ (.slice (some ⟨w.heap.size, 0, none⟩) 0 0)) := by
  refine (h.push (.cells #[] e)).store hb hi (.own e 1 0 R) _ ⟨[], ⟨rfl, .inr ⟨w.heap.size, 0, #[], rfl, h.fs.size, heap_alloc_new _ _, Nat.le_refl _, Nat.zero_le _, rfl, rfl⟩⟩, hR⟩ fun _ k hk => ?_
  have hk' : w.heap.size = k := by simpa [Value.ownBlock] using hk
  subst hk'
  refine ⟨fun c' q' G' hc' e => by have := h.lt hc'; omega, fun c' q' G' j' fd' v' hc' hj' ho' hv' e => ?_⟩
  obtain ⟨x, hx, hrx⟩ := h.rel c' q' G' j' fd' hc' hj'
  rw [World.cell?_of_block (Below.heap_alloc w _ q' (h.lt hc')), hx] at hv'
  cases hv'
  have := (hrx.lt ho' _ e).2
  omega

/-- Some of the blocks. -/
theorem Bn.pick {w0 w : World} {C : Array Value} {g m : Nat} {Bs Bs' : List (Nat × List FD)} {Ms : Option (Nat × List Nat)} (h : Bn w0 C g m Bs Ms w) (k : Nat → Nat) (hk : ∀ b c, k b = k c → b = c) (hs : ∀ (b p : Nat) (F : List FD), Bs'[b]? = some (p, F) → Bs[k b]? = some (p, F)) : Bn w0 C g m Bs' Ms w :=
  ⟨h.fs, h.gm, h.data0, fun b c p F G hb hc => hk _ _ (h.nodup _ _ p F G (hs _ _ _ hb) (hs _ _ _ hc)), fun b p F hb => h.old _ p F (hs _ _ _ hb), fun b p F hb => h.blk _ p F (hs _ _ _ hb), fun b p F i fd hb => h.rel _ p F i fd (hs _ _ _ hb),
    fun b p F i fd v x hb hi ho hv hx c q G hc => h.off _ p F i fd v x (hs _ _ _ hb) hi ho hv hx _ q G (hs _ _ _ hc),
    fun b p F i fd v c q G j fd' v' x hb hi ho hv hc hj ho' hv' hx hx' => by
      obtain ⟨e1, e2⟩ := h.apart _ p F i fd v _ q G j fd' v' x (hs _ _ _ hb) hi ho hv (hs _ _ _ hc) hj ho' hv' hx hx'
      exact ⟨hk _ _ e1, e2⟩, h.maps⟩

def ChPost (w : World) (C : Array Value) (g m : Nat) (bs : List UInt8) (e : Ending) (w' : World) : Prop :=
  (chRead bs = none ∧ e = .returned (.bool false) ∧ Fs [m] w w') ∨ ∃ f, chRead bs = some f ∧ e = .returned (.bool true) ∧ Bn w C g m [(m, chF C g f)] none w'

set_option maxRecDepth 100000 in
set_option maxHeartbeats 8000000 in
theorem ch_unmarshal {C : Array Value} {m g : Nat} {T : TypeId} {fr : Nat × Nat} {v : Value} {bs : List UInt8} (w : World) (hm : w.heap[m]? = some (.cells (zero29 (.slice none 0 0)) 54 (0, 0))) (hg : w.heap[g]? = some (.cells C T fr)) (hgm : g ≠ m)
    (hV : View C g v bs) (hbs : bs.length ≤ 4294967295) : Calls Tryz.prog 18 #[.pointer (some ⟨m, 0, none⟩), v] w (ChPost w C g m bs) := by
  obtain ⟨off, cap, rfl, hcl⟩ := hV.slice
  have HV := Lib.hid hV
  have HM := Lib.hid hm
  obtain ⟨W, hW⟩ : ∃ x, x = w.setRow m (zero29 (.slice (some ⟨g, off, none⟩) bs.length cap)) := ⟨_, rfl⟩
  have hWm : W.heap[m]? = some (.cells (zero29 (.slice (some ⟨g, off, none⟩) bs.length cap)) 54 (0, 0)) := by rw [hW]; exact setRow_heap _ _ _ _ _ _ hm
  have hWf : Fs [m] w W := by rw [hW]; exact ⟨rfl, rfl, rfl, by rw [size_setRow]; exact Nat.le_refl _, fun k _ hn => setRow_other _ _ _ _ (fun e => hn (by simp [e]))⟩
  have HB0 := Lib.hid (chF_start hWf hgm hg hWm)
  have HW := Lib.hid hW
  clear hV hm hg hW hWm hWf
  go_enter Tryz.func18, Tryz.ntmps18
  go_upto_region 1 with fail
  apply wp_region_lit
  iterate 12 (first | (refine wpList_store_row rfl 54 (.tmp 36) (.tmp 35) rfl m (zero29 (.slice (some ⟨g, off, none⟩) bs.length cap)) rfl rfl 54 (zero29 (.slice none 0 0)) HM.out (by kernel_rfl) rfl (by simp [zero29, Value.oneCell']) ?_) | go_step)
  refine wpList_store_row rfl 54 (.tmp 36) (.tmp 35) rfl m (zero29 (.slice (some ⟨g, off, none⟩) bs.length cap)) rfl rfl 54 (zero29 (.slice none 0 0)) HM.out (by kernel_rfl) rfl (by simp [zero29, Value.oneCell']) ?_
  rw [← HW.out]
  clear HW HM
  go_wp2_with fail
  have HB1 := Lib.hid (HB0.out.one (.slice (some ⟨g, off, none⟩) bs.length cap) 69 (.vw bs) rfl HV.out)
  obtain ⟨sB, hsB⟩ : ∃ x, x = W.heap.size := ⟨_, rfl⟩
  rw [← hsB] at HB1 ⊢
  clear hsB HB0 HV
  cases h1 : rd 4 bs with
  | none =>
    have H1 := Lib.hid h1
    have hlt := rd_none h1
    clear h1
    refine (bskip_no 4 HB1.out (by omega) (by omega) (b := 1) (i := 0) rfl rfl).mono ?_
    rintro e wx ⟨rfl, hf⟩
    have HF := Lib.hid hf
    clear hf
    go_wp2_with fail
    go_ret
    exact .inl ⟨by simp [chRead, chHead, H1.out], rfl, HF.out⟩
  | some y =>
    obtain ⟨xa, r1⟩ := y
    have H1 := Lib.hid h1
    have hl1 : r1.length ≤ bs.length := by rw [(rd_some h1).1]; simp
    clear h1
    refine (bskip 4 HB1.out (by omega) H1.out (b := 1) (i := 0) rfl rfl).mono ?_
    rintro e w1 ⟨rfl, hb⟩
    have hb : Bn w C g m ([(m, chF C g {}), (sB, [.vw r1])]) none w1 := hb
    have HB2 := Lib.hid hb
    clear hb
    go_wp2_with fail
    cases h2 : rd 2 r1 with
    | none =>
      have H2 := Lib.hid h2
      skip
      clear h2
      refine (bru16_no HB2.out H2.out (b := 1) (i := 0) rfl rfl _).mono ?_
      rintro e wx ⟨rfl, hf⟩
      have HF := Lib.hid hf
      clear hf
      go_wp2_with fail
      go_ret
      exact .inl ⟨by simp [chRead, chHead, H1.out, H2.out], rfl, HF.out⟩
    | some y =>
      obtain ⟨xv, r2⟩ := y
      have H2 := Lib.hid h2
      have hl2 : r2.length ≤ r1.length := by rw [(rd_some h2).1]; simp
      clear h2
      refine (bru16 HB2.out H2.out (b := 1) (i := 0) rfl rfl (c := 0) (j := 1) rfl rfl (by decide)).mono ?_
      rintro e w2 ⟨rfl, hb⟩
      have hb : Bn w C g m ([(m, chF C g { vers := be xv }), (sB, [.vw r2])]) none w2 := hb
      have HB3 := Lib.hid hb
      clear hb
      go_wp2_with fail
      cases h3 : rd 32 r2 with
      | none =>
        have H3 := Lib.hid h3
        skip
        clear h3
        refine (brb_no 32 HB3.out (by omega) H3.out (b := 1) (i := 0) rfl rfl _).mono ?_
        rintro e wx ⟨rfl, hf⟩
        have HF := Lib.hid hf
        clear hf
        go_wp2_with fail
        go_ret
        exact .inl ⟨by simp [chRead, chHead, H1.out, H2.out, H3.out], rfl, HF.out⟩
      | some y =>
        obtain ⟨xr, r3⟩ := y
        have H3 := Lib.hid h3
        have hl3 : r3.length ≤ r2.length := by rw [(rd_some h3).1]; simp
        clear h3
        refine (brb 32 HB3.out (by omega) H3.out (b := 1) (i := 0) rfl rfl (c := 0) (j := 2) rfl rfl (.vn xr) rfl (fun _ h => .inr h) (by decide)).mono ?_
        rintro e w3 ⟨rfl, hb⟩
        have hb : Bn w C g m ([(m, chF C g { vers := be xv, random := xr }), (sB, [.vw r3])]) none w3 := hb
        have HB4 := Lib.hid hb
        clear hb
        go_wp2_with fail
        cases h4 : rdv 1 r3 with
        | none =>
          have H4 := Lib.hid h4
          skip
          clear h4
          refine (bt8_no HB4.out H4.out (b := 1) (i := 0) rfl rfl _).mono ?_
          rintro e wx ⟨rfl, hf⟩
          have HF := Lib.hid hf
          clear hf
          go_wp2_with fail
          go_ret
          exact .inl ⟨by simp [chRead, chHead, H1.out, H2.out, H3.out, H4.out], rfl, HF.out⟩
        | some y =>
          obtain ⟨xs, r4⟩ := y
          have H4 := Lib.hid h4
          have hl4 : r4.length ≤ r3.length := by rw [(rdv_some h4).1]; simp; omega
          clear h4
          refine (bt8 HB4.out H4.out (b := 1) (i := 0) rfl rfl (c := 0) (j := 3) rfl rfl (.vn xs) rfl (fun _ h => .inr h) (by decide)).mono ?_
          rintro e w4 ⟨rfl, hb⟩
          have hb : Bn w C g m ([(m, chF C g { vers := be xv, random := xr, session := xs }), (sB, [.vw r4])]) none w4 := hb
          have HB5 := Lib.hid hb
          clear hb
          go_wp2_with fail
          obtain ⟨cB, hcB⟩ : ∃ x, x = w4.heap.size := ⟨_, rfl⟩
          have HB6 := Lib.hid (HB5.out.one (.slice none 0 0) 69 .any rfl trivial)
          rw [← hcB] at HB6 ⊢
          clear hcB
          cases h5 : rdv 2 r4 with
          | none =>
            have H5 := Lib.hid h5
            clear h5
            refine (br16_no HB6.out H5.out (b := 1) (i := 0) rfl rfl _).mono ?_
            rintro e wx ⟨rfl, hf⟩
            have HF := Lib.hid hf
            clear hf
            go_wp2_with fail
            go_ret
            exact .inl ⟨by simp [chRead, chHead, H1.out, H2.out, H3.out, H4.out, H5.out], rfl, HF.out⟩
          | some y =>
            obtain ⟨L, r5⟩ := y
            have H5 := Lib.hid h5
            have hl5 : r5.length ≤ r4.length := by rw [(rdv_some h5).1]; simp; omega
            have hLl : L.length ≤ r4.length := by rw [(rdv_some h5).1]; simp; omega
            have hL65 : L.length < 65536 := (rdv_some h5).2
            clear h5
            refine (br16 HB6.out H5.out (b := 1) (i := 0) rfl rfl (c := 2) (j := 0) rfl rfl (.vw L) rfl (fun _ h => h) (by decide)).mono ?_
            rintro e w5 ⟨rfl, hb⟩
            have hb : Bn w C g m ([(m, chF C g { vers := be xv, random := xr, session := xs }), (sB, [.vw r5])] ++ [(cB, [.vw L])]) none w5 := hb
            obtain ⟨vq, hq, _⟩ := hb.at (b := 0) (i := 4) rfl rfl
            have hb7 := hb.empty (b := 0) (i := 4) rfl rfl 23 (ShowU []) rfl
            have hb8 := hb7.set (b := 0) (i := 14) rfl rfl (.val (.bool false)) _ rfl rfl
            have q4 : (w5.alloc (.cells #[] 23)).cell? ⟨m, 4, none⟩ = some vq := (World.cell?_alloc_lt _ _ _ (hb.lt (b := 0) rfl)).trans hq
            have z4 : (w5.alloc (.cells #[] 23)).frozen? ⟨m, 4, none⟩ = false := (hb.push _).frozen (b := 0) rfl 4
            have q14 := hb7.val (b := 0) (i := 14) rfl rfl
            have z14 := hb7.frozen (b := 0) rfl 14
            have hb8 : Bn w C g m ([(m, chF C g { vers := be xv, random := xr, session := xs }), (sB, [.vw r5])] ++ [(cB, [.vw L])]) none _ := hb8
            have HB8 := Lib.hid hb8
            clear hb hb7 hb8
            go_wp2_with fail
            go_loopw [] (fun wr => ∃ (S : List Nat) (s : List UInt8) (n : Nat), Bn w C g m ([(m, chF C g { vers := be xv, random := xr, session := xs, suites := S, srs := decide (255 ∈ S) }), (sB, [.vw r5])] ++ [(cB, [.vw s])]) none wr ∧ s.length ≤ n ∧
              (twords n s).map (S ++ ·) = twords L.length L ∧ S.length + s.length ≤ L.length) (fun wr => cellLen wr cB)
            case atStart =>
              exact ⟨[], L, L.length, HB8.out, Nat.le_refl _, by simp, by simp⟩
            case round =>
              obtain ⟨S, s, n, hb, hn, htv, hlen⟩ := hrel
              have HC3 := Lib.hid hb
              have HTV := Lib.hid htv
              have HCL := Lib.hid (hb.len (b := 2) (F := []) rfl)
              obtain ⟨vs, hvs, hV⟩ := hb.vw (b := 2) (i := 0) rfl rfl
              have HV := Lib.hid hV
              clear hb htv hV
              go_wp2_with fail
              refine (empty_any _ HV.out).mono ?_
              rintro e w6 ⟨rfl, rfl⟩
              by_cases hs0 : s = []
              · subst hs0
                have hT : twords L.length L = some S := by
                  have h := HTV.out
                  rw [twords_nil] at h
                  simpa using h.symm
                have HT := Lib.hid hT
                clear hT hvs HV
                simp only [List.isEmpty_nil]
                go_wp2_with fail
                cases h6 : rdv 1 r5 with
                | none =>
                  have H6 := Lib.hid h6
                  clear h6
                  refine (bt8_no HC3.out H6.out (b := 1) (i := 0) rfl rfl _).mono ?_
                  rintro e wx ⟨rfl, hf⟩
                  have HF := Lib.hid hf
                  clear hf
                  go_wp2_with fail
                  go_ret
                  exact .inl ⟨by simp [chRead, chHead, H1.out, H2.out, H3.out, H4.out, H5.out, HT.out, H6.out], rfl, HF.out⟩
                | some y =>
                  obtain ⟨xc, r6⟩ := y
                  have H6 := Lib.hid h6
                  have hl6 : r6.length ≤ r5.length := by rw [(rdv_some h6).1]; simp; omega
                  clear h6
                  refine (bt8 HC3.out H6.out (b := 1) (i := 0) rfl rfl (c := 0) (j := 5) rfl rfl (.vn xc) rfl (fun _ h => .inr h) (by decide)).mono ?_
                  rintro e w7 ⟨rfl, hb⟩
                  have hb : Bn w C g m ([(m, chF C g { vers := be xv, random := xr, session := xs, suites := S, srs := decide (255 ∈ S), comps := xc }), (sB, [.vw r6])]) none w7 := hb.take 2
                  have HD1 := Lib.hid hb
                  have HRD := Lib.hid (show chRead bs = if r6 = [] then some { vers := be xv, random := xr, session := xs, suites := S, srs := decide (255 ∈ S), comps := xc } else (rdv 2 r6).bind fun e => if e.2 = [] then chExts e.1.length [] { vers := be xv, random := xr, session := xs, suites := S, srs := decide (255 ∈ S), comps := xc } e.1 else none by
                    simp [chRead, chHead, H1.out, H2.out, H3.out, H4.out, H5.out, HT.out, H6.out])
                  obtain ⟨v6, hv6, hV6⟩ := hb.vw (b := 1) (i := 0) rfl rfl
                  have HV6 := Lib.hid hV6
                  clear hb hV6
                  go_wp2_with fail
                  refine (empty_any _ HV6.out).mono ?_
                  rintro e w8 ⟨rfl, rfl⟩
                  clear hv6 HV6
                  by_cases h60 : r6 = []
                  · have HY := Lib.hid (show chRead bs = some { vers := be xv, random := xr, session := xs, suites := S, srs := decide (255 ∈ S), comps := xc } by rw [HRD.out, if_pos h60])
                    subst h60
                    simp only [List.isEmpty_nil]
                    go_wp2_with fail
                    go_ret
                    exact .inr ⟨_, HY.out, rfl, HD1.out.take 1⟩
                  · have he6 : r6.isEmpty = false := by simpa using h60
                    rw [he6]
                    have HRE := Lib.hid (show chRead bs = (rdv 2 r6).bind fun e => if e.2 = [] then chExts e.1.length [] { vers := be xv, random := xr, session := xs, suites := S, srs := decide (255 ∈ S), comps := xc } e.1 else none by rw [HRD.out, if_neg h60])
                    clear h60 he6
                    go_wp2_with fail
                    obtain ⟨eB, heB⟩ : ∃ x, x = w7.heap.size := ⟨_, rfl⟩
                    have HD2 := Lib.hid (HD1.out.one (.slice none 0 0) 69 .any rfl trivial)
                    rw [← heB] at HD2 ⊢
                    clear heB
                    cases h7 : rdv 2 r6 with
                    | none =>
                      have H7 := Lib.hid h7
                      have HN := Lib.hid (show chRead bs = none by rw [HRE.out, h7]; rfl)
                      clear h7
                      refine (br16_no HD2.out H7.out (b := 1) (i := 0) rfl rfl _).mono ?_
                      rintro e wx ⟨rfl, hf⟩
                      have HF := Lib.hid hf
                      clear hf
                      go_wp2_with fail
                      go_ret
                      exact .inl ⟨HN.out, rfl, HF.out⟩
                    | some y =>
                      obtain ⟨ex, r7⟩ := y
                      have H7 := Lib.hid h7
                      have hexl : ex.length < 65536 := (rdv_some h7).2
                      have HRF := Lib.hid (show chRead bs = if r7 = [] then chExts ex.length [] { vers := be xv, random := xr, session := xs, suites := S, srs := decide (255 ∈ S), comps := xc } ex else none by rw [HRE.out, h7]; rfl)
                      clear h7
                      refine (br16 HD2.out H7.out (b := 1) (i := 0) rfl rfl (c := 2) (j := 0) rfl rfl (.vw ex) rfl (fun _ h => h) (by decide)).mono ?_
                      rintro e w8 ⟨rfl, hb⟩
                      have hb : Bn w C g m ([(m, chF C g { vers := be xv, random := xr, session := xs, suites := S, srs := decide (255 ∈ S), comps := xc }), (sB, [.vw r7])] ++ [(eB, [.vw ex])]) none w8 := hb
                      have HD3 := Lib.hid hb
                      obtain ⟨v7, hv7, hV7⟩ := hb.vw (b := 1) (i := 0) rfl rfl
                      have HV7 := Lib.hid hV7
                      clear hb hV7
                      go_wp2_with fail
                      refine (empty_any _ HV7.out).mono ?_
                      rintro e w9 ⟨rfl, rfl⟩
                      clear hv7 HV7
                      by_cases h70 : r7 = []
                      · have HMK := run_makeMap (P := Tryz.prog) 78 w8
                        have HRG := Lib.hid (show chRead bs = chExts ex.length [] { vers := be xv, random := xr, session := xs, suites := S, srs := decide (255 ∈ S), comps := xc } ex by rw [HRF.out, if_pos h70])
                        subst h70
                        simp only [List.isEmpty_nil]
                        go_wp2_with fail
                        clear HMK
                        obtain ⟨mb, hmb⟩ : ∃ x, x = w8.heap.size := ⟨_, rfl⟩
                        have hD := HD3.out.map
                        rw [← hmb] at hD ⊢
                        have HDM : Hid (Bn w C g m [(m, chF C g { vers := be xv, random := xr, session := xs, suites := S, srs := decide (255 ∈ S), comps := xc }), (eB, [.vw ex])] (some (mb, [])) (w8.alloc (.map #[] 0))) := hD.pick (fun b => if b = 0 then 0 else b + 1) (fun b c e => by have e' : (if b = 0 then 0 else b + 1) = (if c = 0 then 0 else c + 1) := e; split at e' <;> split at e' <;> omega) (fun b p F hb => by
                          match b, hb with
                          | 0, hb => exact hb
                          | 1, hb => exact hb)
                        clear hmb hD
                        go_wp2_with fail
                        refine wp_loop (ChInv w C g m eB mb (chRead bs)) (fun _ w' => cellLen w' eB)
                          ⟨rfl, ⟨rfl, rfl, rfl, rfl⟩, _, ex, ex.length, [], HDM.out, Nat.le_refl _, HRG.out.symm, ?_, by simp; omega⟩ (fun a' w' hI => ch_round ?_ ?_ ?_ hI)
                        · constructor <;> simp only [List.length_nil] <;> omega
                        · intro c a d v w h
                          cases d <;> exact h
                        · intro f' a'' w'' seen' hf' hb' hdf hsz''
                          obtain ⟨s'', dl⟩ := a''
                          simp only at hdf hsz''
                          subst hdf
                          obtain ⟨z, rfl⟩ := arr500 s'' hsz''
                          have HX := Lib.hid hf'
                          have HBX := Lib.hid hb'
                          clear hf' hb' hsz''
                          simp only [Exit.then, Exit.inBlock]
                          rw [if_pos trivial]
                          go_wp2_with fail
                          go_ret
                          exact .inr ⟨f', HX.out, rfl, (HBX.out.take 1).noMap⟩
                        · intro a'' w'' hnone hF' hdf h4
                          have hg4 : a''.tmps.getD 4 undef = .bool false := by
                            rw [Array.getD_eq_getD_getElem?, h4]; rfl
                          simp only [Exit.then, Exit.inBlock]
                          exact bodyPost_ret (by rw [results_tmp rfl, hg4]) hdf (.inl ⟨hnone, rfl, hF'⟩)
                      · have he7 : r7.isEmpty = false := by simpa using h70
                        rw [he7]
                        have HN := Lib.hid (show chRead bs = none by rw [HRF.out, if_neg h70])
                        clear h70 he7
                        go_wp2_with fail
                        go_ret
                        exact .inl ⟨HN.out, rfl, HD3.out.fs⟩
              · have he0 : s.isEmpty = false := by simpa using hs0
                rw [he0]
                obtain ⟨n, rfl⟩ : ∃ n', n = n' + 1 := ⟨n - 1, by have := List.length_pos_iff.2 hs0; omega⟩
                have HTV2 := Lib.hid (twords_succ (n := n) hs0)
                clear he0 hs0 hvs HV
                go_wp2_with fail
                obtain ⟨vB, hvB⟩ : ∃ x, x = wr.heap.size := ⟨_, rfl⟩
                have HC4 := Lib.hid (HC3.out.one (.int .u16 0) 23 .any rfl trivial)
                rw [← hvB] at HC4 ⊢
                clear hvB
                cases hr2 : rd 2 s with
                | none =>
                  have hx : twords L.length L = none := by
                    have h := HTV.out
                    rw [HTV2.out, hr2] at h
                    exact h.symm
                  have HX := Lib.hid hx
                  have HR2 := Lib.hid hr2
                  clear hr2 hx
                  refine (bru16_no HC4.out HR2.out (b := 2) (i := 0) rfl rfl _).mono ?_
                  rintro e wx ⟨rfl, hf⟩
                  have HF := Lib.hid hf
                  clear hf
                  go_wp2_with fail
                  go_ret
                  exact .inl ⟨by simp [chRead, chHead, H1.out, H2.out, H3.out, H4.out, H5.out, HX.out], rfl, HF.out⟩
                | some y =>
                  obtain ⟨x, s2⟩ := y
                  have hxl : s.length = 2 + s2.length := by
                    obtain ⟨e1, e2⟩ := rd_some hr2
                    rw [e1, List.length_append, e2]
                  have HTV4 : Hid (((twords n s2).map (be x :: ·)).map (S ++ ·) = twords L.length L) := by
                    rw [← HTV.out, HTV2.out, hr2]; rfl
                  have HR2 := Lib.hid hr2
                  clear hr2
                  refine (bru16 HC4.out HR2.out (b := 2) (i := 0) rfl rfl (c := 3) (j := 0) rfl rfl (by decide)).mono ?_
                  rintro e w7 ⟨rfl, hb⟩
                  have hb : Bn w C g m ([(m, chF C g { vers := be xv, random := xr, session := xs, suites := S, srs := decide (255 ∈ S) }), (sB, [.vw r5])] ++ [(cB, [.vw s2]), (vB, [.val (.int .u16 (be x : Nat))])]) none w7 := hb
                  by_cases h255 : be x = 255
                  · have qu := hb.val (b := 3) (i := 0) rfl rfl
                    have q14 := hb.val (b := 0) (i := 14) rfl rfl
                    have z14 := hb.frozen (b := 0) rfl 14
                    have hb5 := hb.set (b := 0) (i := 14) rfl rfl (.val (.bool true)) _ rfl rfl
                    obtain ⟨w8, hw8⟩ : ∃ x, x = w7.setCell ⟨m, 14, none⟩ (.bool true) := ⟨_, rfl⟩
                    rw [← hw8] at hb5
                    have HC6 := Lib.hid hb5
                    have hu : w8.cell? ⟨vB, 0, none⟩ = some (.int .u16 (be x : Nat)) := hb5.val (b := 3) (i := 0) rfl rfl
                    have HW8 := Lib.hid hw8
                    have H255 := Lib.hid h255
                    rw [h255] at qu
                    clear hb hb5 hw8 h255
                    go_upto_region 16 with fail
                    rw [← HW8.out]
                    clear qu q14 z14
                    have EE : Hid (decide (255 ∈ S ++ [be x]) = true) := Lib.hid (by simp [H255.out])
                    obtain ⟨i0, hi, hz0, hz1, hz2⟩ := info_parts Tryz.info23b
                    obtain ⟨vf, us, v', w', hvf, ⟨ao, co, rfl⟩, hRold, hrun, hv4, hz4, ⟨ao', co', rfl⟩, hoth, hB'⟩ := (((HC6.out.drew).push (.cells #[.int .u16 (be x : Nat)] 23)).grow (b := 0) (i := 4) rfl rfl 24 24 i0 (.int .u16 0) 2 Tryz.underlying24 hi hz0 hz1 hz2 rfl (by decide) ⟨w8.heap.size, 0, none⟩ 1 1 [.int .u16 (be x : Nat)] rfl
                      (fun j u hu => by
                        match j, hu with
                        | 0, hu => simp at hu; subst hu; exact World.cell?_alloc_new _ _ _ _) (fun u hu => by simp at hu; subst hu; rfl) (by show S.length + 1 ≤ maxLen; unfold maxLen; omega) (by show (S.length + 1) * 2 ≤ 140737488355328; omega))
                    have hvf0 : w8.cell? ⟨m, 4, none⟩ = some (.slice ao S.length co) := by
                      rw [← hvf]; exact (World.cell?_alloc_lt _ _ _ (HC6.out.lt (b := 0) rfl)).symm
                    have hq4 : w'.cell? ⟨vB, 0, none⟩ = some (.int .u16 (be x : Nat)) := ((hoth 3 _ _ 0 rfl).trans (World.cell?_alloc_lt _ _ _ (HC6.out.lt (b := 3) rfl))).trans hu
                    have HN := Lib.hid (hB' (ShowU (S ++ [be x])) (S ++ [be x]).length (by simp) (hRold.1.snoc))
                    have HRUN := Lib.hid hrun
                    have hml0 := HC6.out.lt (b := 0) rfl
                    have hql0 := HC6.out.lt (b := 3) rfl
                    clear hrun hoth hB' hRold hvf
                    refine region_ord [(0, true), (1, true), (2, true), (3, true), (4, true), (5, true), (6, false), (7, false), (8, true), (9, true), (10, false)] (fun w' => w'.cell? ⟨m, 4, none⟩ = some (.slice ao S.length co) ∧ w'.cell? ⟨vB, 0, none⟩ = some (.int .u16 (be x : Nat))) mixed (by kernel_rfl) (by kernel_rfl) rfl (by intro c' a' d' v' w' h; cases d' <;> exact h) ⟨hvf0, hu⟩ ?_
                    iterate 6 (apply wpOrd_pure rfl rfl; apply Exists.intro; refine ⟨fun w' hS => ?_, ?_⟩; (· (have hS1 := hS.1; have hS2 := hS.2; clear hS; first | (go_simp; done) | (go_simp; with_reducible rfl))); simp only [List.getElem_toArray, List.getElem_cons_succ, List.getElem_cons_zero, Act.put, List.setIfInBounds_toArray, List.set_cons_zero, List.set_cons_succ])
                    refine wpOrd_run rfl rfl (fun K hK => ?_)
                    go_simp
                    refine hK _ _ (fun _ => ⟨(World.cell?_alloc_lt _ _ _ hml0).trans hvf0, (World.cell?_alloc_lt _ _ _ hql0).trans hu⟩) ?_
                    clear hK K
                    refine wpOrd_run rfl rfl (fun K hK => ?_)
                    refine wp_append_run (.tmp 84) (.tmp 86) 24 rfl _ _ rfl rfl HRUN.out ?_
                    refine hK _ _ (fun _ => ⟨hv4, hq4⟩) ?_
                    clear hK K
                    simp only [List.getElem_toArray, List.getElem_cons_succ, List.getElem_cons_zero, Act.put, List.setIfInBounds_toArray, List.set_cons_zero, List.set_cons_succ]
                    iterate 2 (apply wpOrd_pure rfl rfl; apply Exists.intro; refine ⟨fun w' hS => ?_, ?_⟩; (· (have hS1 := hS.1; have hS2 := hS.2; clear hS; first | (go_simp; done) | (go_simp; with_reducible rfl))); simp only [List.getElem_toArray, List.getElem_cons_succ, List.getElem_cons_zero, Act.put, List.setIfInBounds_toArray, List.set_cons_zero, List.set_cons_succ])
                    refine wpOrd_last rfl rfl (by kernel_rfl) (fun K hK => ?_)
                    simp only [List.getElem_toArray, List.getElem_cons_succ, List.getElem_cons_zero]
                    go_simp
                    refine hK _ _ ?_
                    refine wpOrd_nil ?_
                    clear hK K
                    have HC7 := HN
                    clear HN HRUN hv4 hz4 hq4 hvf0
                    go_wp2_with fail
                    have hb : Bn w C g m ([(m, chF C g { vers := be xv, random := xr, session := xs, suites := S ++ [be x], srs := decide (255 ∈ S ++ [be x]) }), (sB, [.vw r5])] ++ [(cB, [.vw s2]), (vB, [.val (.int .u16 (be x : Nat))])]) none _ := (by rw [EE.out]; exact HC7.out)
                    refine ⟨⟨S ++ [be x], s2, n, hb.take 3, by omega, ?_, by simp; omega⟩, ?_⟩
                    · rw [← HTV4.out]; cases twords n s2 <;> simp
                    · rw [hb.len (b := 2) (F := []) rfl, HCL.out]; omega
                  · have HC6 := Lib.hid hb
                    have hu := hb.val (b := 3) (i := 0) rfl rfl
                    have q1 : ¬ ((be x : Nat) : Int) = 255 := by omega
                    have q2 : (((be x : Nat) : Int) == 255) = false := by simp; omega
                    have H255 := Lib.hid h255
                    clear hb h255
                    go_wp2_with fail
                    clear q1 q2
                    have EE : Hid (decide (255 ∈ S ++ [be x]) = decide (255 ∈ S)) := Lib.hid (by
                      have h9 : ¬ 255 = be x := fun e => H255.out e.symm
                      simp [h9])
                    obtain ⟨i0, hi, hz0, hz1, hz2⟩ := info_parts Tryz.info23b
                    obtain ⟨vf, us, v', w', hvf, ⟨ao, co, rfl⟩, hRold, hrun, hv4, hz4, ⟨ao', co', rfl⟩, hoth, hB'⟩ := (((HC6.out.drew).push (.cells #[.int .u16 (be x : Nat)] 23)).grow (b := 0) (i := 4) rfl rfl 24 24 i0 (.int .u16 0) 2 Tryz.underlying24 hi hz0 hz1 hz2 rfl (by decide) ⟨w7.heap.size, 0, none⟩ 1 1 [.int .u16 (be x : Nat)] rfl
                      (fun j u hu => by
                        match j, hu with
                        | 0, hu => simp at hu; subst hu; exact World.cell?_alloc_new _ _ _ _) (fun u hu => by simp at hu; subst hu; rfl) (by show S.length + 1 ≤ maxLen; unfold maxLen; omega) (by show (S.length + 1) * 2 ≤ 140737488355328; omega))
                    have hvf0 : w7.cell? ⟨m, 4, none⟩ = some (.slice ao S.length co) := by
                      rw [← hvf]; exact (World.cell?_alloc_lt _ _ _ (HC6.out.lt (b := 0) rfl)).symm
                    have hq4 : w'.cell? ⟨vB, 0, none⟩ = some (.int .u16 (be x : Nat)) := ((hoth 3 _ _ 0 rfl).trans (World.cell?_alloc_lt _ _ _ (HC6.out.lt (b := 3) rfl))).trans hu
                    have HN := Lib.hid (hB' (ShowU (S ++ [be x])) (S ++ [be x]).length (by simp) (hRold.1.snoc))
                    have HRUN := Lib.hid hrun
                    have hml0 := HC6.out.lt (b := 0) rfl
                    have hql0 := HC6.out.lt (b := 3) rfl
                    clear hrun hoth hB' hRold hvf
                    refine region_ord [(0, true), (1, true), (2, true), (3, true), (4, true), (5, true), (6, false), (7, false), (8, true), (9, true), (10, false)] (fun w' => w'.cell? ⟨m, 4, none⟩ = some (.slice ao S.length co) ∧ w'.cell? ⟨vB, 0, none⟩ = some (.int .u16 (be x : Nat))) mixed (by kernel_rfl) (by kernel_rfl) rfl (by intro c' a' d' v' w' h; cases d' <;> exact h) ⟨hvf0, hu⟩ ?_
                    iterate 6 (apply wpOrd_pure rfl rfl; apply Exists.intro; refine ⟨fun w' hS => ?_, ?_⟩; (· (have hS1 := hS.1; have hS2 := hS.2; clear hS; first | (go_simp; done) | (go_simp; with_reducible rfl))); simp only [List.getElem_toArray, List.getElem_cons_succ, List.getElem_cons_zero, Act.put, List.setIfInBounds_toArray, List.set_cons_zero, List.set_cons_succ])
                    refine wpOrd_run rfl rfl (fun K hK => ?_)
                    go_simp
                    refine hK _ _ (fun _ => ⟨(World.cell?_alloc_lt _ _ _ hml0).trans hvf0, (World.cell?_alloc_lt _ _ _ hql0).trans hu⟩) ?_
                    clear hK K
                    refine wpOrd_run rfl rfl (fun K hK => ?_)
                    refine wp_append_run (.tmp 84) (.tmp 86) 24 rfl _ _ rfl rfl HRUN.out ?_
                    refine hK _ _ (fun _ => ⟨hv4, hq4⟩) ?_
                    clear hK K
                    simp only [List.getElem_toArray, List.getElem_cons_succ, List.getElem_cons_zero, Act.put, List.setIfInBounds_toArray, List.set_cons_zero, List.set_cons_succ]
                    iterate 2 (apply wpOrd_pure rfl rfl; apply Exists.intro; refine ⟨fun w' hS => ?_, ?_⟩; (· (have hS1 := hS.1; have hS2 := hS.2; clear hS; first | (go_simp; done) | (go_simp; with_reducible rfl))); simp only [List.getElem_toArray, List.getElem_cons_succ, List.getElem_cons_zero, Act.put, List.setIfInBounds_toArray, List.set_cons_zero, List.set_cons_succ])
                    refine wpOrd_last rfl rfl (by kernel_rfl) (fun K hK => ?_)
                    simp only [List.getElem_toArray, List.getElem_cons_succ, List.getElem_cons_zero]
                    go_simp
                    refine hK _ _ ?_
                    refine wpOrd_nil ?_
                    clear hK K
                    have HC7 := HN
                    clear HN HRUN hv4 hz4 hq4 hvf0
                    go_wp2_with fail
                    have hb : Bn w C g m ([(m, chF C g { vers := be xv, random := xr, session := xs, suites := S ++ [be x], srs := decide (255 ∈ S ++ [be x]) }), (sB, [.vw r5])] ++ [(cB, [.vw s2]), (vB, [.val (.int .u16 (be x : Nat))])]) none _ := (by rw [EE.out]; exact HC7.out)
                    refine ⟨⟨S ++ [be x], s2, n, hb.take 3, by omega, ?_, by simp; omega⟩, ?_⟩
                    · rw [← HTV4.out]; cases twords n s2 <;> simp
                    · rw [hb.len (b := 2) (F := []) rfl, HCL.out]; omega

end Go.Proofs.YtopcljikkdlffaaGreat
namespace Go.Proofs.YtopcljikkdlffaaGreat

theorem chExts_most : ∀ {n : Nat} {seen : List Nat} {f f' : CH} {s : List UInt8}, chExts n seen f s = some f' → f.most s.length → f'.most 0
  | n, seen, f, f', [], h, hm => by rw [chExts_nil] at h; cases h; exact hm
  | 0, seen, f, f', c :: s, h, hm => by simp [chExts] at h
  | n + 1, seen, f, f', c :: s, h, hm => by
    rw [chExts_succ (by simp)] at h
    obtain ⟨⟨t, r1⟩, h1, h2⟩ := Option.bind_eq_some_iff.1 h
    obtain ⟨⟨d, r2⟩, h3, h4⟩ := Option.bind_eq_some_iff.1 h2
    by_cases hin : be t ∈ seen
    · rw [if_pos hin] at h4; cases h4
    · rw [if_neg hin] at h4
      obtain ⟨⟨f1, r3⟩, h5, h6⟩ := Option.bind_eq_some_iff.1 h4
      by_cases hr : r3 = []
      · rw [if_pos hr] at h6
        obtain ⟨e1, e2⟩ := rd_some h1
        obtain ⟨e3, _⟩ := rdv_some h3
        have l1 : (c :: s).length = 2 + r1.length := by rw [e1, List.length_append, e2]
        have l2 : r1.length = 2 + d.length + r2.length := by simp only at e3; rw [e3]; simp [en_length]; omega
        refine chExts_most h6 (chExt_most h5 ?_)
        obtain ⟨m1, m2, m3, m4, m5, m6, m7, m8, m9, m10⟩ := hm
        constructor <;> (try simp only [List.length_append, List.length_cons, List.length_nil]) <;> (try dsimp only) <;> (try simp only [List.length_cons] at l1) <;> (try simp only [List.length_cons] at *) <;> omega
      · rw [if_neg hr] at h6; cases h6

theorem chRead_most {bs : List UInt8} {f : CH} (h : chRead bs = some f) : f.most 0 := by
  unfold chRead at h
  obtain ⟨⟨f0, r⟩, h1, h2⟩ := Option.bind_eq_some_iff.1 h
  have hs : f0.suites.length ≤ 65535 ∧ f0.curves = [] ∧ f0.sigs = [] ∧ f0.sigsC = [] ∧ f0.alpn = [] ∧ f0.vers13 = [] ∧ f0.shares = [] ∧ f0.psks = [] ∧ f0.binders = [] ∧ f0.exts = [] := by
    unfold chHead at h1
    obtain ⟨a1, _, h1⟩ := Option.bind_eq_some_iff.1 h1
    obtain ⟨a2, _, h1⟩ := Option.bind_eq_some_iff.1 h1
    obtain ⟨a3, _, h1⟩ := Option.bind_eq_some_iff.1 h1
    obtain ⟨a4, _, h1⟩ := Option.bind_eq_some_iff.1 h1
    obtain ⟨⟨a5, a5'⟩, h5, h1⟩ := Option.bind_eq_some_iff.1 h1
    obtain ⟨L, hL, h1⟩ := Option.bind_eq_some_iff.1 h1
    obtain ⟨a6, _, h1⟩ := Option.map_eq_some_iff.1 h1
    cases h1
    have hL2 : L.length ≤ a5.length := twords_many hL
    have h52 : a5.length < 65536 := (rdv_some h5).2
    exact ⟨by show L.length ≤ 65535; omega, rfl, rfl, rfl, rfl, rfl, rfl, rfl, rfl, rfl⟩
  obtain ⟨s0, s1, s2, s3, s4, s5, s6, s7, s8, s9⟩ := hs
  by_cases hr : r = []
  · rw [if_pos hr] at h2
    cases h2
    constructor <;> (try simp only [s1, s2, s3, s4, s5, s6, s7, s8, s9, List.length_nil]) <;> omega
  · rw [if_neg hr] at h2
    obtain ⟨⟨e, e2⟩, h3, h4⟩ := Option.bind_eq_some_iff.1 h2
    by_cases he : e2 = []
    · rw [if_pos he] at h4
      have hl : e.length < 65536 := (rdv_some h3).2
      refine chExts_most h4 ?_
      dsimp only
      constructor <;> (try simp only [s1, s2, s3, s4, s5, s6, s7, s8, s9, List.length_nil]) <;> omega
    · rw [if_neg he] at h4; cases h4

end Go.Proofs.YtopcljikkdlffaaGreat
