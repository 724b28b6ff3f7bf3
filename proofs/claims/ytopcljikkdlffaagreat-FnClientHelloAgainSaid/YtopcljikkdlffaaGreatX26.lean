/- UnmarshalClientHello of package tls: the two statements that append to two fields at once. No statement of the seat is proved here. -/
import Derived.Test.YtopcljikkdlffaaGreatX25
import Derived.Test.YtopcljikkdlffaaGreatX09
namespace Go.Proofs.YtopcljikkdlffaaGreat
open Go.RowKit

/-- A statement by its number in a piece of code. -/
def prgn (n : Nat) : Code → Option Code
  | .region k ops dr => if k = n then some (.region k ops dr) else none
  | .block _ c => prgn n c
  | .seq a b => match prgn n a with
    | some c => some c
    | none => prgn n b
  | .cond _ a b => match prgn n a with
    | some c => some c
    | none => prgn n b
  | .loop c => prgn n c
  | .scope c => prgn n c
  | _ => none

theorem arr175 (s : Array Value) (h : s.size = 175) : ∃ z : Nat → Value, s = #[z 0, z 1, z 2, z 3, z 4, z 5, z 6, z 7, z 8, z 9, z 10, z 11, z 12, z 13, z 14, z 15, z 16, z 17, z 18, z 19, z 20, z 21, z 22, z 23, z 24, z 25, z 26, z 27, z 28, z 29, z 30, z 31, z 32, z 33, z 34, z 35, z 36, z 37, z 38, z 39, z 40, z 41, z 42, z 43, z 44, z 45, z 46, z 47, z 48, z 49, z 50, z 51, z 52, z 53, z 54, z 55, z 56, z 57, z 58, z 59, z 60, z 61, z 62, z 63, z 64, z 65, z 66, z 67, z 68, z 69, z 70, z 71, z 72, z 73, z 74, z 75, z 76, z 77, z 78, z 79, z 80, z 81, z 82, z 83, z 84, z 85, z 86, z 87, z 88, z 89, z 90, z 91, z 92, z 93, z 94, z 95, z 96, z 97, z 98, z 99, z 100, z 101, z 102, z 103, z 104, z 105, z 106, z 107, z 108, z 109, z 110, z 111, z 112, z 113, z 114, z 115, z 116, z 117, z 118, z 119, z 120, z 121, z 122, z 123, z 124, z 125, z 126, z 127, z 128, z 129, z 130, z 131, z 132, z 133, z 134, z 135, z 136, z 137, z 138, z 139, z 140, z 141, z 142, z 143, z 144, z 145, z 146, z 147, z 148, z 149, z 150, z 151, z 152, z 153, z 154, z 155, z 156, z 157, z 158, z 159, z 160, z 161, z 162, z 163, z 164, z 165, z 166, z 167, z 168, z 169, z 170, z 171, z 172, z 173, z 174] := by
  obtain ⟨z, hz⟩ := arr_of 175 s h
  exact ⟨z, hz⟩

noncomputable def unReg1 : Code := ((Tryz.f8.body.bind (prgn 8)).getD .skip)
noncomputable def unReg2 : Code := ((Tryz.f8.body.bind (prgn 13)).getD .skip)

/-- Two fields have grown by one element each. -/
def unReg1Post (W : World) (C : Array Value) (g m cB kB : Nat) (F0 F1 : List FD) (FK : List FD) (w : World) (s : Array Value) (e : Exit) (a' : Act) (w' : World) : Prop :=
  e = .normal ∧ a'.defers = [] ∧ a'.tmps.size = 175 ∧ (a'.tmps[2]? = s[2]? ∧ a'.tmps[4]? = s[4]? ∧ a'.tmps[5]? = s[5]? ∧ a'.tmps[129]? = s[129]? ∧ a'.tmps[130]? = s[130]? ∧ a'.tmps[131]? = s[131]?) ∧ Bn W C g m [(m, F0), (cB, F1), (kB, FK)] none w' ∧ ∀ j, w'.cell? ⟨m, j, none⟩ = w.cell? ⟨m, j, none⟩

set_option maxRecDepth 100000 in
set_option maxHeartbeats 8000000 in
theorem unReg1_ok {W wk : World} {C : Array Value} {g m cB kB : Nat} {F0 F1 : List FD} {s : Array Value} {G : List Nat} {D : List (List UInt8)} {xg cx : Nat} {ax : Option Addr} {xd : List UInt8} (hX3 : VN C g (.slice ax xd.length cx) xd)
    (hs : s.size = 175) (h5 : s[5]? = some (.pointer (some ⟨cB, 0, none⟩))) (h7 : s[7]? = some (.pointer (some ⟨kB, 0, none⟩)))
    (hi1 : F1[20]? = some (.own 23 1 G.length (ShowU G))) (hi2 : F1[21]? = some (.own 22 1 D.length (ShowL C g D))) (hl1 : G.length ≤ 4294967296) (hl2 : D.length ≤ 4294967296)
    (hbk : Bn W C g m [(m, F0), (cB, F1), (kB, [.val (.int .u16 (xg : Nat)), .val (.slice ax xd.length cx)])] none wk) :
    Code.wp Tryz.prog unReg1 (unReg1Post W C g m cB kB F0 ((F1.set 20 (.own 23 1 (G.length + 1) (ShowU (G ++ [xg])))).set 21 (.own 22 1 (D.length + 1) (ShowL C g (D ++ [xd])))) [.val (.int .u16 (xg : Nat)), .val (.slice ax xd.length cx)] wk s) ⟨s, []⟩ wk := by
  obtain ⟨z, rfl⟩ := arr175 s hs
  have e5 : z 5 = .pointer (some ⟨cB, 0, none⟩) := Option.some.inj h5
  have e7 : z 7 = .pointer (some ⟨kB, 0, none⟩) := Option.some.inj h7
  rw [e5, e7]
  clear hs h5 h7 e5 e7
  have s3 := hbk.val (b := 2) (i := 0) rfl rfl
  have s4 := hbk.val (b := 2) (i := 1) rfl rfl
  obtain ⟨y1, uy1, s1, hy1, _⟩ := hbk.own (b := 1) (i := 20) rfl hi1
  obtain ⟨ao1, co1, rfl⟩ := row_slice hy1
  obtain ⟨y2, uy2, s2, hy2, _⟩ := hbk.own (b := 1) (i := 21) rfl hi2
  obtain ⟨ao2, co2, rfl⟩ := row_slice hy2
  obtain ⟨i1, hii1, hy0, hy1', hy2'⟩ := info_parts Tryz.info23b
  obtain ⟨i2, hii2, hz0, hz1, hz2⟩ := info_parts Tryz.info22c
  have hbl0 := hbk.lt (b := 0) rfl
  have hbl1 := hbk.lt (b := 1) rfl
  have hbl2 := hbk.lt (b := 2) rfl
  have hcm : cB ≠ m := hbk.ne (b := 1) (c := 0) rfl rfl (by decide)
  have hlt1 : ∀ k ∈ ownList (.slice ao1 G.length co1), k < wk.heap.size := by
    obtain ⟨vx, usx, hvx, hox, _⟩ := hbk.own (b := 1) (i := 20) rfl hi1
    rw [s1] at hvx
    cases hvx
    intro k hk
    unfold ownList at hk
    cases hob : (Value.ownBlock (.slice ao1 G.length co1)) with
    | none => rw [hob] at hk; cases hk
    | some k0 => rw [hob] at hk; simp only [List.mem_singleton] at hk; subst hk; exact (hox.lt _ hob).2
  have l1A : ∀ (A : Obj) (p i : Nat) (v : Value), p < wk.heap.size → wk.cell? ⟨p, i, none⟩ = some v → (wk.alloc A).cell? ⟨p, i, none⟩ = some v := fun A p i v hp h => (World.cell?_alloc_lt wk A _ hp).trans h
  have l2A : ∀ (A B : Obj) (p i : Nat) (v : Value), p < wk.heap.size → wk.cell? ⟨p, i, none⟩ = some v → ((wk.alloc A).alloc B).cell? ⟨p, i, none⟩ = some v := fun A B p i v hp h => (World.cell?_alloc_lt (wk.alloc A) B _ (by rw [World.size_alloc]; exact Nat.lt_succ_of_lt hp)).trans (l1A A p i v hp h)
  have hil1 : 20 < F1.length := (List.getElem?_eq_some_iff.1 hi1).1
  have hil2 : 21 < F1.length := (List.getElem?_eq_some_iff.1 hi2).1

  obtain ⟨voA, us1A, v1A, W1A, hvoA, _, hR1A, hrun1A, ⟨apA, cpA, rfl⟩, hB1A, hH1A, hc1A, hF1A, _, _⟩ := ((hbk.push (.cells #[.int .u16 (xg : Nat)] 23)).drew).app (b := 1) (i := 20) rfl hi1 24 24 i1 (.int .u16 0) 2 Tryz.underlying24 hii1 hy0 hy1' hy2' rfl (by decide) ⟨wk.heap.size, 0, none⟩ 1 1 [.int .u16 (xg : Nat)] rfl
    (fun j u hu => by
      match j, hu with
      | 0, hu => simp at hu; subst hu; exact World.cell?_alloc_new wk _ _ _) (fun u hu => by simp at hu; subst hu; rfl) (by show G.length + 1 ≤ maxLen; unfold maxLen; omega) (by show (G.length + 1) * 2 ≤ 140737488355328; omega)
  have hvo2A : ((wk.alloc (.cells #[.int .u16 (xg : Nat)] 23)).drew).cell? ⟨cB, 20, none⟩ = some (.slice ao1 G.length co1) := l1A (.cells #[.int .u16 (xg : Nat)] 23) _ _ _ hbl1 s1
  rw [hvo2A] at hvoA
  cases hvoA
  have sA0 : W1A.cell? ⟨cB, 20, none⟩ = some (.slice ao1 G.length co1) := (hc1A 1 _ _ 20 rfl).trans (l1A (.cells #[.int .u16 (xg : Nat)] 23) _ _ _ hbl1 s1)
  have sA1 : W1A.cell? ⟨cB, 21, none⟩ = some (.slice ao2 D.length co2) := (hc1A 1 _ _ 21 rfl).trans (l1A (.cells #[.int .u16 (xg : Nat)] 23) _ _ _ hbl1 s2)
  have sA2 : W1A.cell? ⟨kB, 0, none⟩ = some (.int .u16 (xg : Nat)) := (hc1A 2 _ _ 0 rfl).trans (l1A (.cells #[.int .u16 (xg : Nat)] 23) _ _ _ hbl2 s3)
  have sA3 : W1A.cell? ⟨kB, 1, none⟩ = some (.slice ax xd.length cx) := (hc1A 2 _ _ 1 rfl).trans (l1A (.cells #[.int .u16 (xg : Nat)] 23) _ _ _ hbl2 s4)

  obtain ⟨vqA, us2A, v2A, W2A, hvqA, hR2A, hrun2A, ⟨aqA, cqA, rfl⟩, hc2A, hz2A, hfinA⟩ := (hB1A.push (.cells #[.slice ax xd.length cx] 22)).second (b := 1) (i1 := 20) (i := 21) rfl (List.getElem?_set_self hil1) ((List.getElem?_set_ne (by decide)).trans hi2) (hH1A.push hB1A (.cells #[.slice ax xd.length cx] 22)) 26 26 i2 (.slice none 0 0) 24 Tryz.underlying26 hii2 hz0 hz1 hz2 rfl (by decide) ⟨W1A.heap.size, 0, none⟩ 1 1 [.slice ax xd.length cx] rfl
    (fun j u hu => by
      match j, hu with
      | 0, hu => simp at hu; subst hu; exact World.cell?_alloc_new _ _ _ _) (fun u hu => by simp at hu; subst hu; rfl) (by show D.length + 1 ≤ maxLen; unfold maxLen; omega) (by show (D.length + 1) * 24 ≤ 140737488355328; omega)
  have hm1A := hB1A.lt (b := 1) rfl
  have hm2A := hB1A.lt (b := 2) rfl
  have eA : (W1A.alloc (.cells #[.slice ax xd.length cx] 22)).cell? ⟨cB, 21, none⟩ = some (.slice ao2 D.length co2) := (World.cell?_alloc_lt _ _ _ hm1A).trans sA1
  rw [eA] at hvqA
  cases hvqA
  have kmA : Hid (∀ j, W2A.cell? ⟨m, j, none⟩ = wk.cell? ⟨m, j, none⟩) := Lib.hid fun j => ((hc2A 0 _ _ j rfl).trans (World.cell?_alloc_lt _ _ _ (hB1A.lt (b := 0) rfl))).trans ((hc1A 0 _ _ j rfl).trans (World.cell?_alloc_lt wk _ _ hbl0))

  obtain ⟨voB, us1B, v1B, W1B, hvoB, _, hR1B, hrun1B, ⟨apB, cpB, rfl⟩, hB1B, hH1B, hc1B, hF1B, _, _⟩ := (((hbk.push (.cells #[.int .u16 (xg : Nat)] 23)).push (.cells #[.slice ax xd.length cx] 22)).drew).app (b := 1) (i := 20) rfl hi1 24 24 i1 (.int .u16 0) 2 Tryz.underlying24 hii1 hy0 hy1' hy2' rfl (by decide) ⟨wk.heap.size, 0, none⟩ 1 1 [.int .u16 (xg : Nat)] rfl
    (fun j u hu => by
      match j, hu with
      | 0, hu => simp at hu; subst hu; exact (World.cell?_alloc_lt (wk.alloc (.cells #[.int .u16 (xg : Nat)] 23)) _ _ (by rw [World.size_alloc]; exact Nat.lt_succ_self _)).trans (World.cell?_alloc_new wk _ _ _)) (fun u hu => by simp at hu; subst hu; rfl) (by show G.length + 1 ≤ maxLen; unfold maxLen; omega) (by show (G.length + 1) * 2 ≤ 140737488355328; omega)
  have hvo2B : (((wk.alloc (.cells #[.int .u16 (xg : Nat)] 23)).alloc (.cells #[.slice ax xd.length cx] 22)).drew).cell? ⟨cB, 20, none⟩ = some (.slice ao1 G.length co1) := l2A (.cells #[.int .u16 (xg : Nat)] 23) (.cells #[.slice ax xd.length cx] 22) _ _ _ hbl1 s1
  rw [hvo2B] at hvoB
  cases hvoB
  have sB0 : W1B.cell? ⟨cB, 20, none⟩ = some (.slice ao1 G.length co1) := (hc1B 1 _ _ 20 rfl).trans (l2A (.cells #[.int .u16 (xg : Nat)] 23) (.cells #[.slice ax xd.length cx] 22) _ _ _ hbl1 s1)
  have sB1 : W1B.cell? ⟨cB, 21, none⟩ = some (.slice ao2 D.length co2) := (hc1B 1 _ _ 21 rfl).trans (l2A (.cells #[.int .u16 (xg : Nat)] 23) (.cells #[.slice ax xd.length cx] 22) _ _ _ hbl1 s2)
  have sB2 : W1B.cell? ⟨kB, 0, none⟩ = some (.int .u16 (xg : Nat)) := (hc1B 2 _ _ 0 rfl).trans (l2A (.cells #[.int .u16 (xg : Nat)] 23) (.cells #[.slice ax xd.length cx] 22) _ _ _ hbl2 s3)
  have sB3 : W1B.cell? ⟨kB, 1, none⟩ = some (.slice ax xd.length cx) := (hc1B 2 _ _ 1 rfl).trans (l2A (.cells #[.int .u16 (xg : Nat)] 23) (.cells #[.slice ax xd.length cx] 22) _ _ _ hbl2 s4)

  obtain ⟨vqB, us2B, v2B, W2B, hvqB, hR2B, hrun2B, ⟨aqB, cqB, rfl⟩, hc2B, hz2B, hfinB⟩ := (hB1B).second (b := 1) (i1 := 20) (i := 21) rfl (List.getElem?_set_self hil1) ((List.getElem?_set_ne (by decide)).trans hi2) (hH1B) 26 26 i2 (.slice none 0 0) 24 Tryz.underlying26 hii2 hz0 hz1 hz2 rfl (by decide) ⟨(wk.alloc (.cells #[.int .u16 (xg : Nat)] 23)).heap.size, 0, none⟩ 1 1 [.slice ax xd.length cx] rfl
    (fun j u hu => by
      match j, hu with
      | 0, hu => simp at hu; subst hu; exact ((World.cell?_of_block (hF1B.keep (wk.alloc (.cells #[.int .u16 (xg : Nat)] 23)).heap.size (by show _ < (((wk.alloc (.cells #[.int .u16 (xg : Nat)] 23)).alloc (.cells #[.slice ax xd.length cx] 22))).heap.size; simp) (fun hm => by have := hlt1 _ hm; rw [World.size_alloc] at this; omega))).trans (World.cell?_alloc_new (wk.alloc (.cells #[.int .u16 (xg : Nat)] 23)) _ _ _))) (fun u hu => by simp at hu; subst hu; rfl) (by show D.length + 1 ≤ maxLen; unfold maxLen; omega) (by show (D.length + 1) * 24 ≤ 140737488355328; omega)
  rw [sB1] at hvqB
  cases hvqB
  have kmB : Hid (∀ j, W2B.cell? ⟨m, j, none⟩ = wk.cell? ⟨m, j, none⟩) := Lib.hid fun j => (hc2B 0 _ _ j rfl).trans ((hc1B 0 _ _ j rfl).trans ((World.cell?_alloc_lt (wk.alloc (.cells #[.int .u16 (xg : Nat)] 23)) _ _ (by rw [World.size_alloc]; exact Nat.lt_succ_of_lt hbl0)).trans (World.cell?_alloc_lt wk _ _ hbl0)))

  obtain ⟨voC, us1C, v1C, W1C, hvoC, _, hR1C, hrun1C, ⟨apC, cpC, rfl⟩, hB1C, hH1C, hc1C, hF1C, _, _⟩ := (((hbk.push (.cells #[.slice ax xd.length cx] 22)).push (.cells #[.int .u16 (xg : Nat)] 23)).drew).app (b := 1) (i := 20) rfl hi1 24 24 i1 (.int .u16 0) 2 Tryz.underlying24 hii1 hy0 hy1' hy2' rfl (by decide) ⟨(wk.alloc (.cells #[.slice ax xd.length cx] 22)).heap.size, 0, none⟩ 1 1 [.int .u16 (xg : Nat)] rfl
    (fun j u hu => by
      match j, hu with
      | 0, hu => simp at hu; subst hu; exact World.cell?_alloc_new (wk.alloc (.cells #[.slice ax xd.length cx] 22)) _ _ _) (fun u hu => by simp at hu; subst hu; rfl) (by show G.length + 1 ≤ maxLen; unfold maxLen; omega) (by show (G.length + 1) * 2 ≤ 140737488355328; omega)
  have hvo2C : (((wk.alloc (.cells #[.slice ax xd.length cx] 22)).alloc (.cells #[.int .u16 (xg : Nat)] 23)).drew).cell? ⟨cB, 20, none⟩ = some (.slice ao1 G.length co1) := l2A (.cells #[.slice ax xd.length cx] 22) (.cells #[.int .u16 (xg : Nat)] 23) _ _ _ hbl1 s1
  rw [hvo2C] at hvoC
  cases hvoC
  have sC0 : W1C.cell? ⟨cB, 20, none⟩ = some (.slice ao1 G.length co1) := (hc1C 1 _ _ 20 rfl).trans (l2A (.cells #[.slice ax xd.length cx] 22) (.cells #[.int .u16 (xg : Nat)] 23) _ _ _ hbl1 s1)
  have sC1 : W1C.cell? ⟨cB, 21, none⟩ = some (.slice ao2 D.length co2) := (hc1C 1 _ _ 21 rfl).trans (l2A (.cells #[.slice ax xd.length cx] 22) (.cells #[.int .u16 (xg : Nat)] 23) _ _ _ hbl1 s2)
  have sC2 : W1C.cell? ⟨kB, 0, none⟩ = some (.int .u16 (xg : Nat)) := (hc1C 2 _ _ 0 rfl).trans (l2A (.cells #[.slice ax xd.length cx] 22) (.cells #[.int .u16 (xg : Nat)] 23) _ _ _ hbl2 s3)
  have sC3 : W1C.cell? ⟨kB, 1, none⟩ = some (.slice ax xd.length cx) := (hc1C 2 _ _ 1 rfl).trans (l2A (.cells #[.slice ax xd.length cx] 22) (.cells #[.int .u16 (xg : Nat)] 23) _ _ _ hbl2 s4)

  obtain ⟨vqC, us2C, v2C, W2C, hvqC, hR2C, hrun2C, ⟨aqC, cqC, rfl⟩, hc2C, hz2C, hfinC⟩ := (hB1C).second (b := 1) (i1 := 20) (i := 21) rfl (List.getElem?_set_self hil1) ((List.getElem?_set_ne (by decide)).trans hi2) (hH1C) 26 26 i2 (.slice none 0 0) 24 Tryz.underlying26 hii2 hz0 hz1 hz2 rfl (by decide) ⟨wk.heap.size, 0, none⟩ 1 1 [.slice ax xd.length cx] rfl
    (fun j u hu => by
      match j, hu with
      | 0, hu => simp at hu; subst hu; exact ((World.cell?_of_block (hF1C.keep wk.heap.size (by show _ < (((wk.alloc (.cells #[.slice ax xd.length cx] 22)).alloc (.cells #[.int .u16 (xg : Nat)] 23))).heap.size; simp; omega) (fun hm => by have := hlt1 _ hm; omega))).trans ((World.cell?_alloc_lt (wk.alloc (.cells #[.slice ax xd.length cx] 22)) _ _ (by rw [World.size_alloc]; exact Nat.lt_succ_self _)).trans (World.cell?_alloc_new wk _ _ _)))) (fun u hu => by simp at hu; subst hu; rfl) (by show D.length + 1 ≤ maxLen; unfold maxLen; omega) (by show (D.length + 1) * 24 ≤ 140737488355328; omega)
  rw [sC1] at hvqC
  cases hvqC
  have kmC : Hid (∀ j, W2C.cell? ⟨m, j, none⟩ = wk.cell? ⟨m, j, none⟩) := Lib.hid fun j => (hc2C 0 _ _ j rfl).trans ((hc1C 0 _ _ j rfl).trans ((World.cell?_alloc_lt (wk.alloc (.cells #[.slice ax xd.length cx] 22)) _ _ (by rw [World.size_alloc]; exact Nat.lt_succ_of_lt hbl0)).trans (World.cell?_alloc_lt wk _ _ hbl0)))
  rw [World.size_alloc] at hrun2B hrun1C
  have c1A := Lib.hid ((hc2A 1 _ _ 20 rfl).trans ((World.cell?_alloc_lt _ _ _ hm1A).trans sA0))
  have c2A := Lib.hid ((hc2A 1 _ _ 21 rfl).trans (eA))
  have z1A := Lib.hid (hz2A 20)
  have z2A := Lib.hid (hz2A 21)
  have HFINA := Lib.hid (hfinA (ShowU (G ++ [xg])) (ShowL C g (D ++ [xd])) (D.length + 1) (rfl) (hR1A.1.snoc) (hR2A.1.snoc (by simpa using hR2A.2) hX3))
  have HRXA := Lib.hid hrun1A
  have HRYA := Lib.hid hrun2A
  replace sA0 := Lib.hid sA0
  replace sA1 := Lib.hid sA1
  replace sA2 := Lib.hid sA2
  replace sA3 := Lib.hid sA3
  have c1B := Lib.hid ((hc2B 1 _ _ 20 rfl).trans (sB0))
  have c2B := Lib.hid ((hc2B 1 _ _ 21 rfl).trans (sB1))
  have z1B := Lib.hid (hz2B 20)
  have z2B := Lib.hid (hz2B 21)
  have HFINB := Lib.hid (hfinB (ShowU (G ++ [xg])) (ShowL C g (D ++ [xd])) (D.length + 1) (rfl) (hR1B.1.snoc) (hR2B.1.snoc (by simpa using hR2B.2) hX3))
  have HRXB := Lib.hid hrun1B
  have HRYB := Lib.hid hrun2B
  replace sB0 := Lib.hid sB0
  replace sB1 := Lib.hid sB1
  replace sB2 := Lib.hid sB2
  replace sB3 := Lib.hid sB3
  have c1C := Lib.hid ((hc2C 1 _ _ 20 rfl).trans (sC0))
  have c2C := Lib.hid ((hc2C 1 _ _ 21 rfl).trans (sC1))
  have z1C := Lib.hid (hz2C 20)
  have z2C := Lib.hid (hz2C 21)
  have HFINC := Lib.hid (hfinC (ShowU (G ++ [xg])) (ShowL C g (D ++ [xd])) (D.length + 1) (rfl) (hR1C.1.snoc) (hR2C.1.snoc (by simpa using hR2C.2) hX3))
  have HRXC := Lib.hid hrun1C
  have HRYC := Lib.hid hrun2C
  replace sC0 := Lib.hid sC0
  replace sC1 := Lib.hid sC1
  replace sC2 := Lib.hid sC2
  replace sC3 := Lib.hid sC3
  clear eA hlt1 hfinA hrun1A hrun2A hz2A hc2A hc1A hB1A hH1A hF1A hR1A hR2A hvo2A hfinB hrun1B hrun2B hz2B hc2B hc1B hB1B hH1B hF1B hR1B hR2B hvo2B hfinC hrun1C hrun2C hz2C hc2C hc1C hB1C hH1C hF1C hR1C hR2C hvo2C hy1 hy2 hi1 hi2 hbk
  conv => arg 2; whnf
  refine region_tree (.free 0 (.read 1 (.free 2 (.read 3 (.free 6 (.read 7 (.free 8 (.read 9 (.two 4 (.two 5 (.free 12 (.one 10 (.one 11 (.one 13 (.one 14 (.one 15 .done)))))) 10 (.one 5 (.free 12 (.one 11 (.one 13 (.one 14 (.one 15 .done))))))) 10 (.one 4 (.one 5 (.free 12 (.one 11 (.one 13 (.one 14 (.one 15 .done)))))))))))))))) [1, 3, 7, 9] (fun w' => w'.cell? ⟨cB, 20, none⟩ = some (.slice ao1 G.length co1) ∧ w'.cell? ⟨cB, 21, none⟩ = some (.slice ao2 D.length co2) ∧ w'.cell? ⟨kB, 0, none⟩ = some (.int .u16 (xg : Nat)) ∧ w'.cell? ⟨kB, 1, none⟩ = some (.slice ax xd.length cx)) mixed (by kernel_rfl) (by kernel_rfl) rfl (by rintro c a d v w ⟨h, _⟩; cases h) ?_
  (refine wpT_free rfl rfl ?_; apply Exists.intro; refine ⟨fun w' => ?_, ?_⟩; (· (first | (go_simp; done) | (go_simp; with_reducible rfl))); simp only [List.getElem_toArray, List.getElem_cons_succ, List.getElem_cons_zero, Act.put, List.setIfInBounds_toArray, List.set_cons_zero, List.set_cons_succ])
  (refine wpT_read ⟨s1, s2, s3, s4⟩ rfl rfl ?_; apply Exists.intro; refine ⟨fun w' hS => ?_, ?_⟩; (· (have hS1 := hS.1; have hS2 := hS.2.1; have hS3 := hS.2.2.1; have hS4 := hS.2.2.2; clear hS; first | (go_simp; done) | (go_simp; with_reducible rfl))); simp only [List.getElem_toArray, List.getElem_cons_succ, List.getElem_cons_zero, Act.put, List.setIfInBounds_toArray, List.set_cons_zero, List.set_cons_succ])
  (refine wpT_free rfl rfl ?_; apply Exists.intro; refine ⟨fun w' => ?_, ?_⟩; (· (first | (go_simp; done) | (go_simp; with_reducible rfl))); simp only [List.getElem_toArray, List.getElem_cons_succ, List.getElem_cons_zero, Act.put, List.setIfInBounds_toArray, List.set_cons_zero, List.set_cons_succ])
  (refine wpT_read ⟨s1, s2, s3, s4⟩ rfl rfl ?_; apply Exists.intro; refine ⟨fun w' hS => ?_, ?_⟩; (· (have hS1 := hS.1; have hS2 := hS.2.1; have hS3 := hS.2.2.1; have hS4 := hS.2.2.2; clear hS; first | (go_simp; done) | (go_simp; with_reducible rfl))); simp only [List.getElem_toArray, List.getElem_cons_succ, List.getElem_cons_zero, Act.put, List.setIfInBounds_toArray, List.set_cons_zero, List.set_cons_succ])
  (refine wpT_free rfl rfl ?_; apply Exists.intro; refine ⟨fun w' => ?_, ?_⟩; (· (first | (go_simp; done) | (go_simp; with_reducible rfl))); simp only [List.getElem_toArray, List.getElem_cons_succ, List.getElem_cons_zero, Act.put, List.setIfInBounds_toArray, List.set_cons_zero, List.set_cons_succ])
  (refine wpT_read ⟨s1, s2, s3, s4⟩ rfl rfl ?_; apply Exists.intro; refine ⟨fun w' hS => ?_, ?_⟩; (· (have hS1 := hS.1; have hS2 := hS.2.1; have hS3 := hS.2.2.1; have hS4 := hS.2.2.2; clear hS; first | (go_simp; done) | (go_simp; with_reducible rfl))); simp only [List.getElem_toArray, List.getElem_cons_succ, List.getElem_cons_zero, Act.put, List.setIfInBounds_toArray, List.set_cons_zero, List.set_cons_succ])
  (refine wpT_free rfl rfl ?_; apply Exists.intro; refine ⟨fun w' => ?_, ?_⟩; (· (first | (go_simp; done) | (go_simp; with_reducible rfl))); simp only [List.getElem_toArray, List.getElem_cons_succ, List.getElem_cons_zero, Act.put, List.setIfInBounds_toArray, List.set_cons_zero, List.set_cons_succ])
  (refine wpT_read ⟨s1, s2, s3, s4⟩ rfl rfl ?_; apply Exists.intro; refine ⟨fun w' hS => ?_, ?_⟩; (· (have hS1 := hS.1; have hS2 := hS.2.1; have hS3 := hS.2.2.1; have hS4 := hS.2.2.2; clear hS; first | (go_simp; done) | (go_simp; with_reducible rfl))); simp only [List.getElem_toArray, List.getElem_cons_succ, List.getElem_cons_zero, Act.put, List.setIfInBounds_toArray, List.set_cons_zero, List.set_cons_succ])
  refine wpT_two rfl rfl rfl rfl (fun K hK => ?_) (fun K hK => ?_)
  · go_simp
    refine hK _ _ (fun _ _ => ⟨l1A (.cells #[.int .u16 (xg : Nat)] 23) _ _ _ hbl1 s1, l1A (.cells #[.int .u16 (xg : Nat)] 23) _ _ _ hbl1 s2, l1A (.cells #[.int .u16 (xg : Nat)] 23) _ _ _ hbl2 s3, l1A (.cells #[.int .u16 (xg : Nat)] 23) _ _ _ hbl2 s4⟩) ?_
    clear hK K
    try simp only [List.getElem_toArray, List.getElem_cons_succ, List.getElem_cons_zero, Act.put, List.setIfInBounds_toArray, List.set_cons_zero, List.set_cons_succ]
    refine wpT_two rfl rfl rfl rfl (fun K hK => ?_) (fun K hK => ?_)
    · refine wp_append_run (.tmp 136) (.tmp 139) 24 rfl _ _ rfl rfl HRXA.out ?_
      refine hK _ _ (fun _ _ => ⟨sA0.out, sA1.out, sA2.out, sA3.out⟩) ?_
      clear hK K
      simp only [List.getElem_toArray, List.getElem_cons_succ, List.getElem_cons_zero, Act.put, List.setIfInBounds_toArray, List.set_cons_zero, List.set_cons_succ]
      (refine wpT_free rfl rfl ?_; apply Exists.intro; refine ⟨fun w' => ?_, ?_⟩; (· (first | (go_simp; done) | (go_simp; with_reducible rfl))); simp only [List.getElem_toArray, List.getElem_cons_succ, List.getElem_cons_zero, Act.put, List.setIfInBounds_toArray, List.set_cons_zero, List.set_cons_succ])
      refine wpT_one rfl rfl (fun K hK => ?_)
      go_simp
      refine hK _ _ (fun _ _ => ⟨(World.cell?_alloc_lt _ _ _ hm1A).trans sA0.out, (World.cell?_alloc_lt _ _ _ hm1A).trans sA1.out, (World.cell?_alloc_lt _ _ _ hm2A).trans sA2.out, (World.cell?_alloc_lt _ _ _ hm2A).trans sA3.out⟩) ?_
      clear hK K
      try simp only [List.getElem_toArray, List.getElem_cons_succ, List.getElem_cons_zero, Act.put, List.setIfInBounds_toArray, List.set_cons_zero, List.set_cons_succ]
      have c1 := c1A.out
      have c2 := c2A.out
      have z1 := z1A.out
      have z2 := z2A.out
      refine wpT_oneL rfl rfl (by kernel_rfl) (fun K hK => ?_)
      refine wp_append_run (.tmp 142) (.tmp 145) 26 rfl _ _ rfl rfl HRYA.out ?_
      refine hK _ _ ?_
      clear hK K
      simp only [List.getElem_toArray, List.getElem_cons_succ, List.getElem_cons_zero, Act.put, List.setIfInBounds_toArray, List.set_cons_zero, List.set_cons_succ]
      refine wpT_oneL rfl rfl (by kernel_rfl) (fun K hK => ?_)
      go_simp
      refine hK _ _ ?_
      clear hK K
      try simp only [List.getElem_toArray, List.getElem_cons_succ, List.getElem_cons_zero, Act.put, List.setIfInBounds_toArray, List.set_cons_zero, List.set_cons_succ]
      refine wpT_oneL rfl rfl (by kernel_rfl) (fun K hK => ?_)
      go_simp
      refine hK _ _ ?_
      clear hK K
      try simp only [List.getElem_toArray, List.getElem_cons_succ, List.getElem_cons_zero, Act.put, List.setIfInBounds_toArray, List.set_cons_zero, List.set_cons_succ]
      refine wpT_oneL rfl rfl (by kernel_rfl) (fun K hK => ?_)
      go_simp
      refine hK _ _ ?_
      clear hK K
      try simp only [List.getElem_toArray, List.getElem_cons_succ, List.getElem_cons_zero, Act.put, List.setIfInBounds_toArray, List.set_cons_zero, List.set_cons_succ]
      refine wpT_done ⟨rfl, rfl, rfl, ⟨rfl, rfl, rfl, rfl, rfl, rfl⟩, (by have h := HFINA.out; simp only [List.set_set] at h; exact h), fun j => ?_⟩
      exact (cell_other_off (.inl hcm)).trans ((cell_other_off (.inl hcm)).trans (kmA.out j))
    · go_simp
      refine hK _ _ (fun _ _ => ⟨l2A (.cells #[.int .u16 (xg : Nat)] 23) (.cells #[.slice ax xd.length cx] 22) _ _ _ hbl1 s1, l2A (.cells #[.int .u16 (xg : Nat)] 23) (.cells #[.slice ax xd.length cx] 22) _ _ _ hbl1 s2, l2A (.cells #[.int .u16 (xg : Nat)] 23) (.cells #[.slice ax xd.length cx] 22) _ _ _ hbl2 s3, l2A (.cells #[.int .u16 (xg : Nat)] 23) (.cells #[.slice ax xd.length cx] 22) _ _ _ hbl2 s4⟩) ?_
      clear hK K
      try simp only [List.getElem_toArray, List.getElem_cons_succ, List.getElem_cons_zero, Act.put, List.setIfInBounds_toArray, List.set_cons_zero, List.set_cons_succ]
      refine wpT_one rfl rfl (fun K hK => ?_)
      refine wp_append_run (.tmp 136) (.tmp 139) 24 rfl _ _ rfl rfl HRXB.out ?_
      refine hK _ _ (fun _ _ => ⟨sB0.out, sB1.out, sB2.out, sB3.out⟩) ?_
      clear hK K
      simp only [List.getElem_toArray, List.getElem_cons_succ, List.getElem_cons_zero, Act.put, List.setIfInBounds_toArray, List.set_cons_zero, List.set_cons_succ]
      (refine wpT_free rfl rfl ?_; apply Exists.intro; refine ⟨fun w' => ?_, ?_⟩; (· (first | (go_simp; done) | (go_simp; with_reducible rfl))); simp only [List.getElem_toArray, List.getElem_cons_succ, List.getElem_cons_zero, Act.put, List.setIfInBounds_toArray, List.set_cons_zero, List.set_cons_succ])
      have c1 := c1B.out
      have c2 := c2B.out
      have z1 := z1B.out
      have z2 := z2B.out
      refine wpT_oneL rfl rfl (by kernel_rfl) (fun K hK => ?_)
      refine wp_append_run (.tmp 142) (.tmp 145) 26 rfl _ _ rfl rfl HRYB.out ?_
      refine hK _ _ ?_
      clear hK K
      simp only [List.getElem_toArray, List.getElem_cons_succ, List.getElem_cons_zero, Act.put, List.setIfInBounds_toArray, List.set_cons_zero, List.set_cons_succ]
      refine wpT_oneL rfl rfl (by kernel_rfl) (fun K hK => ?_)
      go_simp
      refine hK _ _ ?_
      clear hK K
      try simp only [List.getElem_toArray, List.getElem_cons_succ, List.getElem_cons_zero, Act.put, List.setIfInBounds_toArray, List.set_cons_zero, List.set_cons_succ]
      refine wpT_oneL rfl rfl (by kernel_rfl) (fun K hK => ?_)
      go_simp
      refine hK _ _ ?_
      clear hK K
      try simp only [List.getElem_toArray, List.getElem_cons_succ, List.getElem_cons_zero, Act.put, List.setIfInBounds_toArray, List.set_cons_zero, List.set_cons_succ]
      refine wpT_oneL rfl rfl (by kernel_rfl) (fun K hK => ?_)
      go_simp
      refine hK _ _ ?_
      clear hK K
      try simp only [List.getElem_toArray, List.getElem_cons_succ, List.getElem_cons_zero, Act.put, List.setIfInBounds_toArray, List.set_cons_zero, List.set_cons_succ]
      refine wpT_done ⟨rfl, rfl, rfl, ⟨rfl, rfl, rfl, rfl, rfl, rfl⟩, (by have h := HFINB.out; simp only [List.set_set] at h; exact h), fun j => ?_⟩
      exact (cell_other_off (.inl hcm)).trans ((cell_other_off (.inl hcm)).trans (kmB.out j))
  · go_simp
    refine hK _ _ (fun _ _ => ⟨l1A (.cells #[.slice ax xd.length cx] 22) _ _ _ hbl1 s1, l1A (.cells #[.slice ax xd.length cx] 22) _ _ _ hbl1 s2, l1A (.cells #[.slice ax xd.length cx] 22) _ _ _ hbl2 s3, l1A (.cells #[.slice ax xd.length cx] 22) _ _ _ hbl2 s4⟩) ?_
    clear hK K
    try simp only [List.getElem_toArray, List.getElem_cons_succ, List.getElem_cons_zero, Act.put, List.setIfInBounds_toArray, List.set_cons_zero, List.set_cons_succ]
    refine wpT_one rfl rfl (fun K hK => ?_)
    go_simp
    refine hK _ _ (fun _ _ => ⟨l2A (.cells #[.slice ax xd.length cx] 22) (.cells #[.int .u16 (xg : Nat)] 23) _ _ _ hbl1 s1, l2A (.cells #[.slice ax xd.length cx] 22) (.cells #[.int .u16 (xg : Nat)] 23) _ _ _ hbl1 s2, l2A (.cells #[.slice ax xd.length cx] 22) (.cells #[.int .u16 (xg : Nat)] 23) _ _ _ hbl2 s3, l2A (.cells #[.slice ax xd.length cx] 22) (.cells #[.int .u16 (xg : Nat)] 23) _ _ _ hbl2 s4⟩) ?_
    clear hK K
    try simp only [List.getElem_toArray, List.getElem_cons_succ, List.getElem_cons_zero, Act.put, List.setIfInBounds_toArray, List.set_cons_zero, List.set_cons_succ]
    refine wpT_one rfl rfl (fun K hK => ?_)
    refine wp_append_run (.tmp 136) (.tmp 139) 24 rfl _ _ rfl rfl HRXC.out ?_
    refine hK _ _ (fun _ _ => ⟨sC0.out, sC1.out, sC2.out, sC3.out⟩) ?_
    clear hK K
    simp only [List.getElem_toArray, List.getElem_cons_succ, List.getElem_cons_zero, Act.put, List.setIfInBounds_toArray, List.set_cons_zero, List.set_cons_succ]
    (refine wpT_free rfl rfl ?_; apply Exists.intro; refine ⟨fun w' => ?_, ?_⟩; (· (first | (go_simp; done) | (go_simp; with_reducible rfl))); simp only [List.getElem_toArray, List.getElem_cons_succ, List.getElem_cons_zero, Act.put, List.setIfInBounds_toArray, List.set_cons_zero, List.set_cons_succ])
    have c1 := c1C.out
    have c2 := c2C.out
    have z1 := z1C.out
    have z2 := z2C.out
    refine wpT_oneL rfl rfl (by kernel_rfl) (fun K hK => ?_)
    refine wp_append_run (.tmp 142) (.tmp 145) 26 rfl _ _ rfl rfl HRYC.out ?_
    refine hK _ _ ?_
    clear hK K
    simp only [List.getElem_toArray, List.getElem_cons_succ, List.getElem_cons_zero, Act.put, List.setIfInBounds_toArray, List.set_cons_zero, List.set_cons_succ]
    refine wpT_oneL rfl rfl (by kernel_rfl) (fun K hK => ?_)
    go_simp
    refine hK _ _ ?_
    clear hK K
    try simp only [List.getElem_toArray, List.getElem_cons_succ, List.getElem_cons_zero, Act.put, List.setIfInBounds_toArray, List.set_cons_zero, List.set_cons_succ]
    refine wpT_oneL rfl rfl (by kernel_rfl) (fun K hK => ?_)
    go_simp
    refine hK _ _ ?_
    clear hK K
    try simp only [List.getElem_toArray, List.getElem_cons_succ, List.getElem_cons_zero, Act.put, List.setIfInBounds_toArray, List.set_cons_zero, List.set_cons_succ]
    refine wpT_oneL rfl rfl (by kernel_rfl) (fun K hK => ?_)
    go_simp
    refine hK _ _ ?_
    clear hK K
    try simp only [List.getElem_toArray, List.getElem_cons_succ, List.getElem_cons_zero, Act.put, List.setIfInBounds_toArray, List.set_cons_zero, List.set_cons_succ]
    refine wpT_done ⟨rfl, rfl, rfl, ⟨rfl, rfl, rfl, rfl, rfl, rfl⟩, (by have h := HFINC.out; simp only [List.set_set] at h; exact h), fun j => ?_⟩
    exact (cell_other_off (.inl hcm)).trans ((cell_other_off (.inl hcm)).trans (kmC.out j))

/-- Two fields have grown by one element each. -/
def unReg2Post (W : World) (C : Array Value) (g m cB kB : Nat) (F0 F1 : List FD) (FK : List FD) (w : World) (s : Array Value) (e : Exit) (a' : Act) (w' : World) : Prop :=
  e = .normal ∧ a'.defers = [] ∧ a'.tmps.size = 175 ∧ (a'.tmps[2]? = s[2]? ∧ a'.tmps[4]? = s[4]? ∧ a'.tmps[5]? = s[5]? ∧ a'.tmps[153]? = s[153]? ∧ a'.tmps[154]? = s[154]? ∧ a'.tmps[155]? = s[155]?) ∧ Bn W C g m [(m, F0), (cB, F1), (kB, FK)] none w' ∧ ∀ j, w'.cell? ⟨m, j, none⟩ = w.cell? ⟨m, j, none⟩

set_option maxRecDepth 100000 in
set_option maxHeartbeats 8000000 in
theorem unReg2_ok {W wk : World} {C : Array Value} {g m cB kB : Nat} {F0 F1 : List FD} {s : Array Value} {G : List Nat} {D : List (List UInt8)} {xg cx : Nat} {ax : Option Addr} {xd : List UInt8} (hX3 : VN C g (.slice ax xd.length cx) xd)
    (hs : s.size = 175) (h5 : s[5]? = some (.pointer (some ⟨cB, 0, none⟩))) (h7 : s[9]? = some (.pointer (some ⟨kB, 0, none⟩)))
    (hi1 : F1[24]? = some (.own 22 1 D.length (ShowL C g D))) (hi2 : F1[25]? = some (.own 57 1 G.length (ShowU4 G))) (hl1 : D.length ≤ 4294967296) (hl2 : G.length ≤ 4294967296)
    (hbk : Bn W C g m [(m, F0), (cB, F1), (kB, [.val (.slice ax xd.length cx), .val (.int .u32 (xg : Nat))])] none wk) :
    Code.wp Tryz.prog unReg2 (unReg2Post W C g m cB kB F0 ((F1.set 24 (.own 22 1 (D.length + 1) (ShowL C g (D ++ [xd])))).set 25 (.own 57 1 (G.length + 1) (ShowU4 (G ++ [xg])))) [.val (.slice ax xd.length cx), .val (.int .u32 (xg : Nat))] wk s) ⟨s, []⟩ wk := by
  obtain ⟨z, rfl⟩ := arr175 s hs
  have e5 : z 5 = .pointer (some ⟨cB, 0, none⟩) := Option.some.inj h5
  have e7 : z 9 = .pointer (some ⟨kB, 0, none⟩) := Option.some.inj h7
  rw [e5, e7]
  clear hs h5 h7 e5 e7
  have s3 := hbk.val (b := 2) (i := 0) rfl rfl
  have s4 := hbk.val (b := 2) (i := 1) rfl rfl
  obtain ⟨y1, uy1, s1, hy1, _⟩ := hbk.own (b := 1) (i := 24) rfl hi1
  obtain ⟨ao1, co1, rfl⟩ := row_slice hy1
  obtain ⟨y2, uy2, s2, hy2, _⟩ := hbk.own (b := 1) (i := 25) rfl hi2
  obtain ⟨ao2, co2, rfl⟩ := row_slice hy2
  obtain ⟨i1, hii1, hy0, hy1', hy2'⟩ := info_parts Tryz.info22c
  obtain ⟨i2, hii2, hz0, hz1, hz2⟩ := info_parts Tryz.info57b
  have hbl0 := hbk.lt (b := 0) rfl
  have hbl1 := hbk.lt (b := 1) rfl
  have hbl2 := hbk.lt (b := 2) rfl
  have hcm : cB ≠ m := hbk.ne (b := 1) (c := 0) rfl rfl (by decide)
  have hlt1 : ∀ k ∈ ownList (.slice ao1 D.length co1), k < wk.heap.size := by
    obtain ⟨vx, usx, hvx, hox, _⟩ := hbk.own (b := 1) (i := 24) rfl hi1
    rw [s1] at hvx
    cases hvx
    intro k hk
    unfold ownList at hk
    cases hob : (Value.ownBlock (.slice ao1 D.length co1)) with
    | none => rw [hob] at hk; cases hk
    | some k0 => rw [hob] at hk; simp only [List.mem_singleton] at hk; subst hk; exact (hox.lt _ hob).2
  have l1A : ∀ (A : Obj) (p i : Nat) (v : Value), p < wk.heap.size → wk.cell? ⟨p, i, none⟩ = some v → (wk.alloc A).cell? ⟨p, i, none⟩ = some v := fun A p i v hp h => (World.cell?_alloc_lt wk A _ hp).trans h
  have l2A : ∀ (A B : Obj) (p i : Nat) (v : Value), p < wk.heap.size → wk.cell? ⟨p, i, none⟩ = some v → ((wk.alloc A).alloc B).cell? ⟨p, i, none⟩ = some v := fun A B p i v hp h => (World.cell?_alloc_lt (wk.alloc A) B _ (by rw [World.size_alloc]; exact Nat.lt_succ_of_lt hp)).trans (l1A A p i v hp h)
  have hil1 : 24 < F1.length := (List.getElem?_eq_some_iff.1 hi1).1
  have hil2 : 25 < F1.length := (List.getElem?_eq_some_iff.1 hi2).1

  obtain ⟨voA, us1A, v1A, W1A, hvoA, _, hR1A, hrun1A, ⟨apA, cpA, rfl⟩, hB1A, hH1A, hc1A, hF1A, _, _⟩ := ((hbk.push (.cells #[.slice ax xd.length cx] 22)).drew).app (b := 1) (i := 24) rfl hi1 26 26 i1 (.slice none 0 0) 24 Tryz.underlying26 hii1 hy0 hy1' hy2' rfl (by decide) ⟨wk.heap.size, 0, none⟩ 1 1 [.slice ax xd.length cx] rfl
    (fun j u hu => by
      match j, hu with
      | 0, hu => simp at hu; subst hu; exact World.cell?_alloc_new wk _ _ _) (fun u hu => by simp at hu; subst hu; rfl) (by show D.length + 1 ≤ maxLen; unfold maxLen; omega) (by show (D.length + 1) * 24 ≤ 140737488355328; omega)
  have hvo2A : ((wk.alloc (.cells #[.slice ax xd.length cx] 22)).drew).cell? ⟨cB, 24, none⟩ = some (.slice ao1 D.length co1) := l1A (.cells #[.slice ax xd.length cx] 22) _ _ _ hbl1 s1
  rw [hvo2A] at hvoA
  cases hvoA
  have sA0 : W1A.cell? ⟨cB, 24, none⟩ = some (.slice ao1 D.length co1) := (hc1A 1 _ _ 24 rfl).trans (l1A (.cells #[.slice ax xd.length cx] 22) _ _ _ hbl1 s1)
  have sA1 : W1A.cell? ⟨cB, 25, none⟩ = some (.slice ao2 G.length co2) := (hc1A 1 _ _ 25 rfl).trans (l1A (.cells #[.slice ax xd.length cx] 22) _ _ _ hbl1 s2)
  have sA2 : W1A.cell? ⟨kB, 0, none⟩ = some (.slice ax xd.length cx) := (hc1A 2 _ _ 0 rfl).trans (l1A (.cells #[.slice ax xd.length cx] 22) _ _ _ hbl2 s3)
  have sA3 : W1A.cell? ⟨kB, 1, none⟩ = some (.int .u32 (xg : Nat)) := (hc1A 2 _ _ 1 rfl).trans (l1A (.cells #[.slice ax xd.length cx] 22) _ _ _ hbl2 s4)

  obtain ⟨vqA, us2A, v2A, W2A, hvqA, hR2A, hrun2A, ⟨aqA, cqA, rfl⟩, hc2A, hz2A, hfinA⟩ := (hB1A.push (.cells #[.int .u32 (xg : Nat)] 57)).second (b := 1) (i1 := 24) (i := 25) rfl (List.getElem?_set_self hil1) ((List.getElem?_set_ne (by decide)).trans hi2) (hH1A.push hB1A (.cells #[.int .u32 (xg : Nat)] 57)) 27 27 i2 (.int .u32 0) 4 Tryz.underlying27 hii2 hz0 hz1 hz2 rfl (by decide) ⟨W1A.heap.size, 0, none⟩ 1 1 [.int .u32 (xg : Nat)] rfl
    (fun j u hu => by
      match j, hu with
      | 0, hu => simp at hu; subst hu; exact World.cell?_alloc_new _ _ _ _) (fun u hu => by simp at hu; subst hu; rfl) (by show G.length + 1 ≤ maxLen; unfold maxLen; omega) (by show (G.length + 1) * 4 ≤ 140737488355328; omega)
  have hm1A := hB1A.lt (b := 1) rfl
  have hm2A := hB1A.lt (b := 2) rfl
  have eA : (W1A.alloc (.cells #[.int .u32 (xg : Nat)] 57)).cell? ⟨cB, 25, none⟩ = some (.slice ao2 G.length co2) := (World.cell?_alloc_lt _ _ _ hm1A).trans sA1
  rw [eA] at hvqA
  cases hvqA
  have kmA : Hid (∀ j, W2A.cell? ⟨m, j, none⟩ = wk.cell? ⟨m, j, none⟩) := Lib.hid fun j => ((hc2A 0 _ _ j rfl).trans (World.cell?_alloc_lt _ _ _ (hB1A.lt (b := 0) rfl))).trans ((hc1A 0 _ _ j rfl).trans (World.cell?_alloc_lt wk _ _ hbl0))

  obtain ⟨voB, us1B, v1B, W1B, hvoB, _, hR1B, hrun1B, ⟨apB, cpB, rfl⟩, hB1B, hH1B, hc1B, hF1B, _, _⟩ := (((hbk.push (.cells #[.slice ax xd.length cx] 22)).push (.cells #[.int .u32 (xg : Nat)] 57)).drew).app (b := 1) (i := 24) rfl hi1 26 26 i1 (.slice none 0 0) 24 Tryz.underlying26 hii1 hy0 hy1' hy2' rfl (by decide) ⟨wk.heap.size, 0, none⟩ 1 1 [.slice ax xd.length cx] rfl
    (fun j u hu => by
      match j, hu with
      | 0, hu => simp at hu; subst hu; exact (World.cell?_alloc_lt (wk.alloc (.cells #[.slice ax xd.length cx] 22)) _ _ (by rw [World.size_alloc]; exact Nat.lt_succ_self _)).trans (World.cell?_alloc_new wk _ _ _)) (fun u hu => by simp at hu; subst hu; rfl) (by show D.length + 1 ≤ maxLen; unfold maxLen; omega) (by show (D.length + 1) * 24 ≤ 140737488355328; omega)
  have hvo2B : (((wk.alloc (.cells #[.slice ax xd.length cx] 22)).alloc (.cells #[.int .u32 (xg : Nat)] 57)).drew).cell? ⟨cB, 24, none⟩ = some (.slice ao1 D.length co1) := l2A (.cells #[.slice ax xd.length cx] 22) (.cells #[.int .u32 (xg : Nat)] 57) _ _ _ hbl1 s1
  rw [hvo2B] at hvoB
  cases hvoB
  have sB0 : W1B.cell? ⟨cB, 24, none⟩ = some (.slice ao1 D.length co1) := (hc1B 1 _ _ 24 rfl).trans (l2A (.cells #[.slice ax xd.length cx] 22) (.cells #[.int .u32 (xg : Nat)] 57) _ _ _ hbl1 s1)
  have sB1 : W1B.cell? ⟨cB, 25, none⟩ = some (.slice ao2 G.length co2) := (hc1B 1 _ _ 25 rfl).trans (l2A (.cells #[.slice ax xd.length cx] 22) (.cells #[.int .u32 (xg : Nat)] 57) _ _ _ hbl1 s2)
  have sB2 : W1B.cell? ⟨kB, 0, none⟩ = some (.slice ax xd.length cx) := (hc1B 2 _ _ 0 rfl).trans (l2A (.cells #[.slice ax xd.length cx] 22) (.cells #[.int .u32 (xg : Nat)] 57) _ _ _ hbl2 s3)
  have sB3 : W1B.cell? ⟨kB, 1, none⟩ = some (.int .u32 (xg : Nat)) := (hc1B 2 _ _ 1 rfl).trans (l2A (.cells #[.slice ax xd.length cx] 22) (.cells #[.int .u32 (xg : Nat)] 57) _ _ _ hbl2 s4)

  obtain ⟨vqB, us2B, v2B, W2B, hvqB, hR2B, hrun2B, ⟨aqB, cqB, rfl⟩, hc2B, hz2B, hfinB⟩ := (hB1B).second (b := 1) (i1 := 24) (i := 25) rfl (List.getElem?_set_self hil1) ((List.getElem?_set_ne (by decide)).trans hi2) (hH1B) 27 27 i2 (.int .u32 0) 4 Tryz.underlying27 hii2 hz0 hz1 hz2 rfl (by decide) ⟨(wk.alloc (.cells #[.slice ax xd.length cx] 22)).heap.size, 0, none⟩ 1 1 [.int .u32 (xg : Nat)] rfl
    (fun j u hu => by
      match j, hu with
      | 0, hu => simp at hu; subst hu; exact ((World.cell?_of_block (hF1B.keep (wk.alloc (.cells #[.slice ax xd.length cx] 22)).heap.size (by show _ < (((wk.alloc (.cells #[.slice ax xd.length cx] 22)).alloc (.cells #[.int .u32 (xg : Nat)] 57))).heap.size; simp) (fun hm => by have := hlt1 _ hm; rw [World.size_alloc] at this; omega))).trans (World.cell?_alloc_new (wk.alloc (.cells #[.slice ax xd.length cx] 22)) _ _ _))) (fun u hu => by simp at hu; subst hu; rfl) (by show G.length + 1 ≤ maxLen; unfold maxLen; omega) (by show (G.length + 1) * 4 ≤ 140737488355328; omega)
  rw [sB1] at hvqB
  cases hvqB
  have kmB : Hid (∀ j, W2B.cell? ⟨m, j, none⟩ = wk.cell? ⟨m, j, none⟩) := Lib.hid fun j => (hc2B 0 _ _ j rfl).trans ((hc1B 0 _ _ j rfl).trans ((World.cell?_alloc_lt (wk.alloc (.cells #[.slice ax xd.length cx] 22)) _ _ (by rw [World.size_alloc]; exact Nat.lt_succ_of_lt hbl0)).trans (World.cell?_alloc_lt wk _ _ hbl0)))

  obtain ⟨voC, us1C, v1C, W1C, hvoC, _, hR1C, hrun1C, ⟨apC, cpC, rfl⟩, hB1C, hH1C, hc1C, hF1C, _, _⟩ := (((hbk.push (.cells #[.int .u32 (xg : Nat)] 57)).push (.cells #[.slice ax xd.length cx] 22)).drew).app (b := 1) (i := 24) rfl hi1 26 26 i1 (.slice none 0 0) 24 Tryz.underlying26 hii1 hy0 hy1' hy2' rfl (by decide) ⟨(wk.alloc (.cells #[.int .u32 (xg : Nat)] 57)).heap.size, 0, none⟩ 1 1 [.slice ax xd.length cx] rfl
    (fun j u hu => by
      match j, hu with
      | 0, hu => simp at hu; subst hu; exact World.cell?_alloc_new (wk.alloc (.cells #[.int .u32 (xg : Nat)] 57)) _ _ _) (fun u hu => by simp at hu; subst hu; rfl) (by show D.length + 1 ≤ maxLen; unfold maxLen; omega) (by show (D.length + 1) * 24 ≤ 140737488355328; omega)
  have hvo2C : (((wk.alloc (.cells #[.int .u32 (xg : Nat)] 57)).alloc (.cells #[.slice ax xd.length cx] 22)).drew).cell? ⟨cB, 24, none⟩ = some (.slice ao1 D.length co1) := l2A (.cells #[.int .u32 (xg : Nat)] 57) (.cells #[.slice ax xd.length cx] 22) _ _ _ hbl1 s1
  rw [hvo2C] at hvoC
  cases hvoC
  have sC0 : W1C.cell? ⟨cB, 24, none⟩ = some (.slice ao1 D.length co1) := (hc1C 1 _ _ 24 rfl).trans (l2A (.cells #[.int .u32 (xg : Nat)] 57) (.cells #[.slice ax xd.length cx] 22) _ _ _ hbl1 s1)
  have sC1 : W1C.cell? ⟨cB, 25, none⟩ = some (.slice ao2 G.length co2) := (hc1C 1 _ _ 25 rfl).trans (l2A (.cells #[.int .u32 (xg : Nat)] 57) (.cells #[.slice ax xd.length cx] 22) _ _ _ hbl1 s2)
  have sC2 : W1C.cell? ⟨kB, 0, none⟩ = some (.slice ax xd.length cx) := (hc1C 2 _ _ 0 rfl).trans (l2A (.cells #[.int .u32 (xg : Nat)] 57) (.cells #[.slice ax xd.length cx] 22) _ _ _ hbl2 s3)
  have sC3 : W1C.cell? ⟨kB, 1, none⟩ = some (.int .u32 (xg : Nat)) := (hc1C 2 _ _ 1 rfl).trans (l2A (.cells #[.int .u32 (xg : Nat)] 57) (.cells #[.slice ax xd.length cx] 22) _ _ _ hbl2 s4)

  obtain ⟨vqC, us2C, v2C, W2C, hvqC, hR2C, hrun2C, ⟨aqC, cqC, rfl⟩, hc2C, hz2C, hfinC⟩ := (hB1C).second (b := 1) (i1 := 24) (i := 25) rfl (List.getElem?_set_self hil1) ((List.getElem?_set_ne (by decide)).trans hi2) (hH1C) 27 27 i2 (.int .u32 0) 4 Tryz.underlying27 hii2 hz0 hz1 hz2 rfl (by decide) ⟨wk.heap.size, 0, none⟩ 1 1 [.int .u32 (xg : Nat)] rfl
    (fun j u hu => by
      match j, hu with
      | 0, hu => simp at hu; subst hu; exact ((World.cell?_of_block (hF1C.keep wk.heap.size (by show _ < (((wk.alloc (.cells #[.int .u32 (xg : Nat)] 57)).alloc (.cells #[.slice ax xd.length cx] 22))).heap.size; simp; omega) (fun hm => by have := hlt1 _ hm; omega))).trans ((World.cell?_alloc_lt (wk.alloc (.cells #[.int .u32 (xg : Nat)] 57)) _ _ (by rw [World.size_alloc]; exact Nat.lt_succ_self _)).trans (World.cell?_alloc_new wk _ _ _)))) (fun u hu => by simp at hu; subst hu; rfl) (by show G.length + 1 ≤ maxLen; unfold maxLen; omega) (by show (G.length + 1) * 4 ≤ 140737488355328; omega)
  rw [sC1] at hvqC
  cases hvqC
  have kmC : Hid (∀ j, W2C.cell? ⟨m, j, none⟩ = wk.cell? ⟨m, j, none⟩) := Lib.hid fun j => (hc2C 0 _ _ j rfl).trans ((hc1C 0 _ _ j rfl).trans ((World.cell?_alloc_lt (wk.alloc (.cells #[.int .u32 (xg : Nat)] 57)) _ _ (by rw [World.size_alloc]; exact Nat.lt_succ_of_lt hbl0)).trans (World.cell?_alloc_lt wk _ _ hbl0)))
  rw [World.size_alloc] at hrun2B hrun1C
  have c1A := Lib.hid ((hc2A 1 _ _ 24 rfl).trans ((World.cell?_alloc_lt _ _ _ hm1A).trans sA0))
  have c2A := Lib.hid ((hc2A 1 _ _ 25 rfl).trans (eA))
  have z1A := Lib.hid (hz2A 24)
  have z2A := Lib.hid (hz2A 25)
  have HFINA := Lib.hid (hfinA (ShowL C g (D ++ [xd])) (ShowU4 (G ++ [xg])) (G.length + 1) (rfl) (hR1A.1.snoc (by simpa using hR1A.2) hX3) (hR2A.1.snoc))
  have HRXA := Lib.hid hrun1A
  have HRYA := Lib.hid hrun2A
  replace sA0 := Lib.hid sA0
  replace sA1 := Lib.hid sA1
  replace sA2 := Lib.hid sA2
  replace sA3 := Lib.hid sA3
  have c1B := Lib.hid ((hc2B 1 _ _ 24 rfl).trans (sB0))
  have c2B := Lib.hid ((hc2B 1 _ _ 25 rfl).trans (sB1))
  have z1B := Lib.hid (hz2B 24)
  have z2B := Lib.hid (hz2B 25)
  have HFINB := Lib.hid (hfinB (ShowL C g (D ++ [xd])) (ShowU4 (G ++ [xg])) (G.length + 1) (rfl) (hR1B.1.snoc (by simpa using hR1B.2) hX3) (hR2B.1.snoc))
  have HRXB := Lib.hid hrun1B
  have HRYB := Lib.hid hrun2B
  replace sB0 := Lib.hid sB0
  replace sB1 := Lib.hid sB1
  replace sB2 := Lib.hid sB2
  replace sB3 := Lib.hid sB3
  have c1C := Lib.hid ((hc2C 1 _ _ 24 rfl).trans (sC0))
  have c2C := Lib.hid ((hc2C 1 _ _ 25 rfl).trans (sC1))
  have z1C := Lib.hid (hz2C 24)
  have z2C := Lib.hid (hz2C 25)
  have HFINC := Lib.hid (hfinC (ShowL C g (D ++ [xd])) (ShowU4 (G ++ [xg])) (G.length + 1) (rfl) (hR1C.1.snoc (by simpa using hR1C.2) hX3) (hR2C.1.snoc))
  have HRXC := Lib.hid hrun1C
  have HRYC := Lib.hid hrun2C
  replace sC0 := Lib.hid sC0
  replace sC1 := Lib.hid sC1
  replace sC2 := Lib.hid sC2
  replace sC3 := Lib.hid sC3
  clear eA hlt1 hfinA hrun1A hrun2A hz2A hc2A hc1A hB1A hH1A hF1A hR1A hR2A hvo2A hfinB hrun1B hrun2B hz2B hc2B hc1B hB1B hH1B hF1B hR1B hR2B hvo2B hfinC hrun1C hrun2C hz2C hc2C hc1C hB1C hH1C hF1C hR1C hR2C hvo2C hy1 hy2 hi1 hi2 hbk
  conv => arg 2; whnf
  refine region_tree (.free 0 (.read 1 (.free 2 (.read 3 (.free 6 (.read 7 (.free 8 (.read 9 (.two 4 (.two 5 (.free 12 (.one 10 (.one 11 (.one 13 (.one 14 (.one 15 .done)))))) 10 (.one 5 (.free 12 (.one 11 (.one 13 (.one 14 (.one 15 .done))))))) 10 (.one 4 (.one 5 (.free 12 (.one 11 (.one 13 (.one 14 (.one 15 .done)))))))))))))))) [1, 3, 7, 9] (fun w' => w'.cell? ⟨cB, 24, none⟩ = some (.slice ao1 D.length co1) ∧ w'.cell? ⟨cB, 25, none⟩ = some (.slice ao2 G.length co2) ∧ w'.cell? ⟨kB, 0, none⟩ = some (.slice ax xd.length cx) ∧ w'.cell? ⟨kB, 1, none⟩ = some (.int .u32 (xg : Nat))) mixed (by kernel_rfl) (by kernel_rfl) rfl (by rintro c a d v w ⟨h, _⟩; cases h) ?_
  (refine wpT_free rfl rfl ?_; apply Exists.intro; refine ⟨fun w' => ?_, ?_⟩; (· (first | (go_simp; done) | (go_simp; with_reducible rfl))); simp only [List.getElem_toArray, List.getElem_cons_succ, List.getElem_cons_zero, Act.put, List.setIfInBounds_toArray, List.set_cons_zero, List.set_cons_succ])
  (refine wpT_read ⟨s1, s2, s3, s4⟩ rfl rfl ?_; apply Exists.intro; refine ⟨fun w' hS => ?_, ?_⟩; (· (have hS1 := hS.1; have hS2 := hS.2.1; have hS3 := hS.2.2.1; have hS4 := hS.2.2.2; clear hS; first | (go_simp; done) | (go_simp; with_reducible rfl))); simp only [List.getElem_toArray, List.getElem_cons_succ, List.getElem_cons_zero, Act.put, List.setIfInBounds_toArray, List.set_cons_zero, List.set_cons_succ])
  (refine wpT_free rfl rfl ?_; apply Exists.intro; refine ⟨fun w' => ?_, ?_⟩; (· (first | (go_simp; done) | (go_simp; with_reducible rfl))); simp only [List.getElem_toArray, List.getElem_cons_succ, List.getElem_cons_zero, Act.put, List.setIfInBounds_toArray, List.set_cons_zero, List.set_cons_succ])
  (refine wpT_read ⟨s1, s2, s3, s4⟩ rfl rfl ?_; apply Exists.intro; refine ⟨fun w' hS => ?_, ?_⟩; (· (have hS1 := hS.1; have hS2 := hS.2.1; have hS3 := hS.2.2.1; have hS4 := hS.2.2.2; clear hS; first | (go_simp; done) | (go_simp; with_reducible rfl))); simp only [List.getElem_toArray, List.getElem_cons_succ, List.getElem_cons_zero, Act.put, List.setIfInBounds_toArray, List.set_cons_zero, List.set_cons_succ])
  (refine wpT_free rfl rfl ?_; apply Exists.intro; refine ⟨fun w' => ?_, ?_⟩; (· (first | (go_simp; done) | (go_simp; with_reducible rfl))); simp only [List.getElem_toArray, List.getElem_cons_succ, List.getElem_cons_zero, Act.put, List.setIfInBounds_toArray, List.set_cons_zero, List.set_cons_succ])
  (refine wpT_read ⟨s1, s2, s3, s4⟩ rfl rfl ?_; apply Exists.intro; refine ⟨fun w' hS => ?_, ?_⟩; (· (have hS1 := hS.1; have hS2 := hS.2.1; have hS3 := hS.2.2.1; have hS4 := hS.2.2.2; clear hS; first | (go_simp; done) | (go_simp; with_reducible rfl))); simp only [List.getElem_toArray, List.getElem_cons_succ, List.getElem_cons_zero, Act.put, List.setIfInBounds_toArray, List.set_cons_zero, List.set_cons_succ])
  (refine wpT_free rfl rfl ?_; apply Exists.intro; refine ⟨fun w' => ?_, ?_⟩; (· (first | (go_simp; done) | (go_simp; with_reducible rfl))); simp only [List.getElem_toArray, List.getElem_cons_succ, List.getElem_cons_zero, Act.put, List.setIfInBounds_toArray, List.set_cons_zero, List.set_cons_succ])
  (refine wpT_read ⟨s1, s2, s3, s4⟩ rfl rfl ?_; apply Exists.intro; refine ⟨fun w' hS => ?_, ?_⟩; (· (have hS1 := hS.1; have hS2 := hS.2.1; have hS3 := hS.2.2.1; have hS4 := hS.2.2.2; clear hS; first | (go_simp; done) | (go_simp; with_reducible rfl))); simp only [List.getElem_toArray, List.getElem_cons_succ, List.getElem_cons_zero, Act.put, List.setIfInBounds_toArray, List.set_cons_zero, List.set_cons_succ])
  refine wpT_two rfl rfl rfl rfl (fun K hK => ?_) (fun K hK => ?_)
  · go_simp
    refine hK _ _ (fun _ _ => ⟨l1A (.cells #[.slice ax xd.length cx] 22) _ _ _ hbl1 s1, l1A (.cells #[.slice ax xd.length cx] 22) _ _ _ hbl1 s2, l1A (.cells #[.slice ax xd.length cx] 22) _ _ _ hbl2 s3, l1A (.cells #[.slice ax xd.length cx] 22) _ _ _ hbl2 s4⟩) ?_
    clear hK K
    try simp only [List.getElem_toArray, List.getElem_cons_succ, List.getElem_cons_zero, Act.put, List.setIfInBounds_toArray, List.set_cons_zero, List.set_cons_succ]
    refine wpT_two rfl rfl rfl rfl (fun K hK => ?_) (fun K hK => ?_)
    · refine wp_append_run (.tmp 160) (.tmp 163) 26 rfl _ _ rfl rfl HRXA.out ?_
      refine hK _ _ (fun _ _ => ⟨sA0.out, sA1.out, sA2.out, sA3.out⟩) ?_
      clear hK K
      simp only [List.getElem_toArray, List.getElem_cons_succ, List.getElem_cons_zero, Act.put, List.setIfInBounds_toArray, List.set_cons_zero, List.set_cons_succ]
      (refine wpT_free rfl rfl ?_; apply Exists.intro; refine ⟨fun w' => ?_, ?_⟩; (· (first | (go_simp; done) | (go_simp; with_reducible rfl))); simp only [List.getElem_toArray, List.getElem_cons_succ, List.getElem_cons_zero, Act.put, List.setIfInBounds_toArray, List.set_cons_zero, List.set_cons_succ])
      refine wpT_one rfl rfl (fun K hK => ?_)
      go_simp
      refine hK _ _ (fun _ _ => ⟨(World.cell?_alloc_lt _ _ _ hm1A).trans sA0.out, (World.cell?_alloc_lt _ _ _ hm1A).trans sA1.out, (World.cell?_alloc_lt _ _ _ hm2A).trans sA2.out, (World.cell?_alloc_lt _ _ _ hm2A).trans sA3.out⟩) ?_
      clear hK K
      try simp only [List.getElem_toArray, List.getElem_cons_succ, List.getElem_cons_zero, Act.put, List.setIfInBounds_toArray, List.set_cons_zero, List.set_cons_succ]
      have c1 := c1A.out
      have c2 := c2A.out
      have z1 := z1A.out
      have z2 := z2A.out
      refine wpT_oneL rfl rfl (by kernel_rfl) (fun K hK => ?_)
      refine wp_append_run (.tmp 166) (.tmp 169) 27 rfl _ _ rfl rfl HRYA.out ?_
      refine hK _ _ ?_
      clear hK K
      simp only [List.getElem_toArray, List.getElem_cons_succ, List.getElem_cons_zero, Act.put, List.setIfInBounds_toArray, List.set_cons_zero, List.set_cons_succ]
      refine wpT_oneL rfl rfl (by kernel_rfl) (fun K hK => ?_)
      go_simp
      refine hK _ _ ?_
      clear hK K
      try simp only [List.getElem_toArray, List.getElem_cons_succ, List.getElem_cons_zero, Act.put, List.setIfInBounds_toArray, List.set_cons_zero, List.set_cons_succ]
      refine wpT_oneL rfl rfl (by kernel_rfl) (fun K hK => ?_)
      go_simp
      refine hK _ _ ?_
      clear hK K
      try simp only [List.getElem_toArray, List.getElem_cons_succ, List.getElem_cons_zero, Act.put, List.setIfInBounds_toArray, List.set_cons_zero, List.set_cons_succ]
      refine wpT_oneL rfl rfl (by kernel_rfl) (fun K hK => ?_)
      go_simp
      refine hK _ _ ?_
      clear hK K
      try simp only [List.getElem_toArray, List.getElem_cons_succ, List.getElem_cons_zero, Act.put, List.setIfInBounds_toArray, List.set_cons_zero, List.set_cons_succ]
      refine wpT_done ⟨rfl, rfl, rfl, ⟨rfl, rfl, rfl, rfl, rfl, rfl⟩, (by have h := HFINA.out; simp only [List.set_set] at h; exact h), fun j => ?_⟩
      exact (cell_other_off (.inl hcm)).trans ((cell_other_off (.inl hcm)).trans (kmA.out j))
    · go_simp
      refine hK _ _ (fun _ _ => ⟨l2A (.cells #[.slice ax xd.length cx] 22) (.cells #[.int .u32 (xg : Nat)] 57) _ _ _ hbl1 s1, l2A (.cells #[.slice ax xd.length cx] 22) (.cells #[.int .u32 (xg : Nat)] 57) _ _ _ hbl1 s2, l2A (.cells #[.slice ax xd.length cx] 22) (.cells #[.int .u32 (xg : Nat)] 57) _ _ _ hbl2 s3, l2A (.cells #[.slice ax xd.length cx] 22) (.cells #[.int .u32 (xg : Nat)] 57) _ _ _ hbl2 s4⟩) ?_
      clear hK K
      try simp only [List.getElem_toArray, List.getElem_cons_succ, List.getElem_cons_zero, Act.put, List.setIfInBounds_toArray, List.set_cons_zero, List.set_cons_succ]
      refine wpT_one rfl rfl (fun K hK => ?_)
      refine wp_append_run (.tmp 160) (.tmp 163) 26 rfl _ _ rfl rfl HRXB.out ?_
      refine hK _ _ (fun _ _ => ⟨sB0.out, sB1.out, sB2.out, sB3.out⟩) ?_
      clear hK K
      simp only [List.getElem_toArray, List.getElem_cons_succ, List.getElem_cons_zero, Act.put, List.setIfInBounds_toArray, List.set_cons_zero, List.set_cons_succ]
      (refine wpT_free rfl rfl ?_; apply Exists.intro; refine ⟨fun w' => ?_, ?_⟩; (· (first | (go_simp; done) | (go_simp; with_reducible rfl))); simp only [List.getElem_toArray, List.getElem_cons_succ, List.getElem_cons_zero, Act.put, List.setIfInBounds_toArray, List.set_cons_zero, List.set_cons_succ])
      have c1 := c1B.out
      have c2 := c2B.out
      have z1 := z1B.out
      have z2 := z2B.out
      refine wpT_oneL rfl rfl (by kernel_rfl) (fun K hK => ?_)
      refine wp_append_run (.tmp 166) (.tmp 169) 27 rfl _ _ rfl rfl HRYB.out ?_
      refine hK _ _ ?_
      clear hK K
      simp only [List.getElem_toArray, List.getElem_cons_succ, List.getElem_cons_zero, Act.put, List.setIfInBounds_toArray, List.set_cons_zero, List.set_cons_succ]
      refine wpT_oneL rfl rfl (by kernel_rfl) (fun K hK => ?_)
      go_simp
      refine hK _ _ ?_
      clear hK K
      try simp only [List.getElem_toArray, List.getElem_cons_succ, List.getElem_cons_zero, Act.put, List.setIfInBounds_toArray, List.set_cons_zero, List.set_cons_succ]
      refine wpT_oneL rfl rfl (by kernel_rfl) (fun K hK => ?_)
      go_simp
      refine hK _ _ ?_
      clear hK K
      try simp only [List.getElem_toArray, List.getElem_cons_succ, List.getElem_cons_zero, Act.put, List.setIfInBounds_toArray, List.set_cons_zero, List.set_cons_succ]
      refine wpT_oneL rfl rfl (by kernel_rfl) (fun K hK => ?_)
      go_simp
      refine hK _ _ ?_
      clear hK K
      try simp only [List.getElem_toArray, List.getElem_cons_succ, List.getElem_cons_zero, Act.put, List.setIfInBounds_toArray, List.set_cons_zero, List.set_cons_succ]
      refine wpT_done ⟨rfl, rfl, rfl, ⟨rfl, rfl, rfl, rfl, rfl, rfl⟩, (by have h := HFINB.out; simp only [List.set_set] at h; exact h), fun j => ?_⟩
      exact (cell_other_off (.inl hcm)).trans ((cell_other_off (.inl hcm)).trans (kmB.out j))
  · go_simp
    refine hK _ _ (fun _ _ => ⟨l1A (.cells #[.int .u32 (xg : Nat)] 57) _ _ _ hbl1 s1, l1A (.cells #[.int .u32 (xg : Nat)] 57) _ _ _ hbl1 s2, l1A (.cells #[.int .u32 (xg : Nat)] 57) _ _ _ hbl2 s3, l1A (.cells #[.int .u32 (xg : Nat)] 57) _ _ _ hbl2 s4⟩) ?_
    clear hK K
    try simp only [List.getElem_toArray, List.getElem_cons_succ, List.getElem_cons_zero, Act.put, List.setIfInBounds_toArray, List.set_cons_zero, List.set_cons_succ]
    refine wpT_one rfl rfl (fun K hK => ?_)
    go_simp
    refine hK _ _ (fun _ _ => ⟨l2A (.cells #[.int .u32 (xg : Nat)] 57) (.cells #[.slice ax xd.length cx] 22) _ _ _ hbl1 s1, l2A (.cells #[.int .u32 (xg : Nat)] 57) (.cells #[.slice ax xd.length cx] 22) _ _ _ hbl1 s2, l2A (.cells #[.int .u32 (xg : Nat)] 57) (.cells #[.slice ax xd.length cx] 22) _ _ _ hbl2 s3, l2A (.cells #[.int .u32 (xg : Nat)] 57) (.cells #[.slice ax xd.length cx] 22) _ _ _ hbl2 s4⟩) ?_
    clear hK K
    try simp only [List.getElem_toArray, List.getElem_cons_succ, List.getElem_cons_zero, Act.put, List.setIfInBounds_toArray, List.set_cons_zero, List.set_cons_succ]
    refine wpT_one rfl rfl (fun K hK => ?_)
    refine wp_append_run (.tmp 160) (.tmp 163) 26 rfl _ _ rfl rfl HRXC.out ?_
    refine hK _ _ (fun _ _ => ⟨sC0.out, sC1.out, sC2.out, sC3.out⟩) ?_
    clear hK K
    simp only [List.getElem_toArray, List.getElem_cons_succ, List.getElem_cons_zero, Act.put, List.setIfInBounds_toArray, List.set_cons_zero, List.set_cons_succ]
    (refine wpT_free rfl rfl ?_; apply Exists.intro; refine ⟨fun w' => ?_, ?_⟩; (· (first | (go_simp; done) | (go_simp; with_reducible rfl))); simp only [List.getElem_toArray, List.getElem_cons_succ, List.getElem_cons_zero, Act.put, List.setIfInBounds_toArray, List.set_cons_zero, List.set_cons_succ])
    have c1 := c1C.out
    have c2 := c2C.out
    have z1 := z1C.out
    have z2 := z2C.out
    refine wpT_oneL rfl rfl (by kernel_rfl) (fun K hK => ?_)
    refine wp_append_run (.tmp 166) (.tmp 169) 27 rfl _ _ rfl rfl HRYC.out ?_
    refine hK _ _ ?_
    clear hK K
    simp only [List.getElem_toArray, List.getElem_cons_succ, List.getElem_cons_zero, Act.put, List.setIfInBounds_toArray, List.set_cons_zero, List.set_cons_succ]
    refine wpT_oneL rfl rfl (by kernel_rfl) (fun K hK => ?_)
    go_simp
    refine hK _ _ ?_
    clear hK K
    try simp only [List.getElem_toArray, List.getElem_cons_succ, List.getElem_cons_zero, Act.put, List.setIfInBounds_toArray, List.set_cons_zero, List.set_cons_succ]
    refine wpT_oneL rfl rfl (by kernel_rfl) (fun K hK => ?_)
    go_simp
    refine hK _ _ ?_
    clear hK K
    try simp only [List.getElem_toArray, List.getElem_cons_succ, List.getElem_cons_zero, Act.put, List.setIfInBounds_toArray, List.set_cons_zero, List.set_cons_succ]
    refine wpT_oneL rfl rfl (by kernel_rfl) (fun K hK => ?_)
    go_simp
    refine hK _ _ ?_
    clear hK K
    try simp only [List.getElem_toArray, List.getElem_cons_succ, List.getElem_cons_zero, Act.put, List.setIfInBounds_toArray, List.set_cons_zero, List.set_cons_succ]
    refine wpT_done ⟨rfl, rfl, rfl, ⟨rfl, rfl, rfl, rfl, rfl, rfl⟩, (by have h := HFINC.out; simp only [List.set_set] at h; exact h), fun j => ?_⟩
    exact (cell_other_off (.inl hcm)).trans ((cell_other_off (.inl hcm)).trans (kmC.out j))

end Go.Proofs.YtopcljikkdlffaaGreat
