/- The reference finds two ClientHellos the same that show the same: all fields. No statement of the seat is proved here. -/
import Derived.Test.YtopcljikkdlffaaGreatX33
namespace Go.Proofs.YtopcljikkdlffaaGreat
open Go.RowKit

/-- The rank of an operation: the two lists of names are read ahead of the first call. -/
def smRk (i : Nat) : Nat := if i = 113 then 115 else if i = 114 then 113 else if i = 115 then 114 else i
def smOrd : List Nat := List.range 113 ++ [114, 115, 113] ++ List.range' 116 79
def smImp : List Nat := [10, 17, 24, 31, 52, 59, 73, 80, 87, 101, 113, 116, 117, 131, 138, 145, 152, 166, 171, 185, 192]
def smF1 : List Bool := [true, true, true, true, true, true, true, true, true, true, false, true, true, true, true, true, true, false, true, true, true, true, true, true, false, true, true, true, true, true, true, false, true, true, true, true, true, true, true, true, true, true, true, true, true, true, true, true, true, true, true, true, false, true, true, true, true, true, true, false, true, true, true, true, true, true, true, true, true, true, true, true, true, false, true, true, true, true, true, true, false, true, true, true, true, true, true, false, true, true, true, true, true, true, true, true, true, true, true, true, true, false, true, true, true, true, true, true, true, true, true, true, true]
def smF2 : List Bool := [false, false, true, true, true, true, true, true, true, true, true, true, true, true, true, false, true, true, true, true, true, true, false, true, true, true, true, true, true, false, true, true, true, true, true, true, false, true, true, true, true, true, true, true, true, true, true, true, true, true, false, true, true, true, true, false, true, true, true, true, true, true, true, true, true, true, true, true, true, false, true, true, true, true, true, true, false, true, true]

set_option maxRecDepth 100000 in
set_option maxHeartbeats 16000000 in
theorem sameHello_ok {f : CH} {D E : Array Value} {base : Nat} (w : World) (hb : base ≤ w.heap.size) (hD : ChS w base f D) (hE : ChS w base f E) (hf : f.fine 0) (hm : f.most 0) :
    Calls Tryz.prog 7 #[.agg D, .agg E] w fun e w' => e = .returned (.bool true) ∧ Below w.heap.size w w' := by
  obtain ⟨W, hW⟩ : ∃ W, W = (w.alloc (.cells D 29)).alloc (.cells E 29) := ⟨_, rfl⟩
  have hsz : W.heap.size = w.heap.size + 2 := by rw [hW]; simp
  have hk : ∀ k, k < base → W.heap[k]? = w.heap[k]? := fun k hk => by
    rw [hW]; exact (Below.heap_alloc _ _ _ (by simp; omega)).trans (Below.heap_alloc _ _ _ (by omega))
  have HBE : Hid (Below w.heap.size w W) := Lib.hid (by rw [hW]; exact ((Below.refl _ w).alloc (Nat.le_refl _) _).alloc (by simp) _)
  obtain ⟨p, hp⟩ : ∃ p, p = w.heap.size := ⟨_, rfl⟩
  have xheap : W.heap[p]? = some (.cells D 29 (0, 0)) := by rw [hW, hp]; exact heap_push (heap_alloc_new _ _)
  have yheap : W.heap[p + 1]? = some (.cells E 29 (0, 0)) := by
    have h := heap_alloc_new (w.alloc (.cells D 29)) (.cells E 29)
    rw [World.size_alloc, ← hp] at h
    rw [hW]; exact h
  have hpl : p < W.heap.size := by omega
  have hpl2 : p + 1 < W.heap.size := by omega
  have hiD : (Tryz.prog.info? 29).map (·.size) = some D.size := by rw [hD.size]; kernel_rfl
  have hiE : (Tryz.prog.info? 29).map (·.size) = some E.size := by rw [hE.size]; kernel_rfl
  have DX := Lib.hid (hD.keep (base' := W.heap.size) (by omega) hk)
  have EX := Lib.hid (hE.keep (base' := W.heap.size) (by omega) hk)
  have HB0 : Hid (Below W.heap.size W W.drew) := Lib.hid (fs_bel ((Fs.refl [] W).drew) (by simp))
  obtain ⟨f1, f2, f3, f4, f5, f6, f7, f8⟩ := hf
  obtain ⟨m1, m2, m3, m4, m5, m6, m7, m8, m9, m10⟩ := hm
  obtain ⟨_, xd0, xh0⟩ := DX.out.rel 0 _ rfl
  cases xh0
  have xq0 : W.cell? ⟨p, 0, none⟩ = some (.int .u16 (f.vers : Nat)) := by rw [cell_of_heap xheap]; exact xd0
  obtain ⟨_, xd1, xh1⟩ := DX.out.rel 1 _ rfl
  obtain ⟨xa1, xc1, rfl⟩ := SrcB.len xh1
  have xP1 := Lib.hid xh1
  have xq1 : W.cell? ⟨p, 1, none⟩ = some (.slice xa1 f.random.length xc1) := by rw [cell_of_heap xheap]; exact xd1
  obtain ⟨_, xd2, xh2⟩ := DX.out.rel 2 _ rfl
  obtain ⟨xa2, xc2, rfl⟩ := SrcB.len xh2
  have xP2 := Lib.hid xh2
  have xq2 : W.cell? ⟨p, 2, none⟩ = some (.slice xa2 f.session.length xc2) := by rw [cell_of_heap xheap]; exact xd2
  obtain ⟨_, xd3, xh3⟩ := DX.out.rel 3 _ rfl
  obtain ⟨xa3, xc3, rfl, _⟩ := RowS.len xh3
  rw [List.length_map] at xd3 xh3
  have xP3 := Lib.hid xh3
  have xq3 : W.cell? ⟨p, 3, none⟩ = some (.slice xa3 f.suites.length xc3) := by rw [cell_of_heap xheap]; exact xd3
  obtain ⟨_, xd4, xh4⟩ := DX.out.rel 4 _ rfl
  obtain ⟨xa4, xc4, rfl⟩ := SrcB.len xh4
  have xP4 := Lib.hid xh4
  have xq4 : W.cell? ⟨p, 4, none⟩ = some (.slice xa4 f.comps.length xc4) := by rw [cell_of_heap xheap]; exact xd4
  obtain ⟨_, xd5, xh5⟩ := DX.out.rel 5 _ rfl
  cases xh5
  have xq5 : W.cell? ⟨p, 5, none⟩ = some (.string ⟨f.name.toArray⟩) := by rw [cell_of_heap xheap]; exact xd5
  obtain ⟨_, xd6, xh6⟩ := DX.out.rel 6 _ rfl
  cases xh6
  have xq6 : W.cell? ⟨p, 6, none⟩ = some (.bool f.ocsp) := by rw [cell_of_heap xheap]; exact xd6
  obtain ⟨_, xd7, xh7⟩ := DX.out.rel 7 _ rfl
  obtain ⟨xa7, xc7, rfl, _⟩ := RowS.len xh7
  rw [List.length_map] at xd7 xh7
  have xP7 := Lib.hid xh7
  have xq7 : W.cell? ⟨p, 7, none⟩ = some (.slice xa7 f.curves.length xc7) := by rw [cell_of_heap xheap]; exact xd7
  obtain ⟨_, xd8, xh8⟩ := DX.out.rel 8 _ rfl
  obtain ⟨xa8, xc8, rfl⟩ := SrcB.len xh8
  have xP8 := Lib.hid xh8
  have xq8 : W.cell? ⟨p, 8, none⟩ = some (.slice xa8 f.points.length xc8) := by rw [cell_of_heap xheap]; exact xd8
  obtain ⟨_, xd9, xh9⟩ := DX.out.rel 9 _ rfl
  cases xh9
  have xq9 : W.cell? ⟨p, 9, none⟩ = some (.bool f.ticket) := by rw [cell_of_heap xheap]; exact xd9
  obtain ⟨_, xd10, xh10⟩ := DX.out.rel 10 _ rfl
  obtain ⟨xa10, xc10, rfl⟩ := SrcB.len xh10
  have xP10 := Lib.hid xh10
  have xq10 : W.cell? ⟨p, 10, none⟩ = some (.slice xa10 f.tickets.length xc10) := by rw [cell_of_heap xheap]; exact xd10
  obtain ⟨_, xd11, xh11⟩ := DX.out.rel 11 _ rfl
  obtain ⟨xa11, xc11, rfl, _⟩ := RowS.len xh11
  rw [List.length_map] at xd11 xh11
  have xP11 := Lib.hid xh11
  have xq11 : W.cell? ⟨p, 11, none⟩ = some (.slice xa11 f.sigs.length xc11) := by rw [cell_of_heap xheap]; exact xd11
  obtain ⟨_, xd12, xh12⟩ := DX.out.rel 12 _ rfl
  obtain ⟨xa12, xc12, rfl, _⟩ := RowS.len xh12
  rw [List.length_map] at xd12 xh12
  have xP12 := Lib.hid xh12
  have xq12 : W.cell? ⟨p, 12, none⟩ = some (.slice xa12 f.sigsC.length xc12) := by rw [cell_of_heap xheap]; exact xd12
  obtain ⟨_, xd13, xh13⟩ := DX.out.rel 13 _ rfl
  cases xh13
  have xq13 : W.cell? ⟨p, 13, none⟩ = some (.bool f.srs) := by rw [cell_of_heap xheap]; exact xd13
  obtain ⟨_, xd14, xh14⟩ := DX.out.rel 14 _ rfl
  obtain ⟨xa14, xc14, rfl⟩ := SrcB.len xh14
  have xP14 := Lib.hid xh14
  have xq14 : W.cell? ⟨p, 14, none⟩ = some (.slice xa14 f.sr.length xc14) := by rw [cell_of_heap xheap]; exact xd14
  obtain ⟨_, xd15, xh15⟩ := DX.out.rel 15 _ rfl
  cases xh15
  have xq15 : W.cell? ⟨p, 15, none⟩ = some (.bool f.ems) := by rw [cell_of_heap xheap]; exact xd15
  obtain ⟨_, xd16, xh16⟩ := DX.out.rel 16 _ rfl
  obtain ⟨xa16, xc16, rfl, _⟩ := RowS.len xh16
  rw [List.length_map] at xd16 xh16
  have xP16 := Lib.hid xh16
  have xq16 : W.cell? ⟨p, 16, none⟩ = some (.slice xa16 f.alpn.length xc16) := by rw [cell_of_heap xheap]; exact xd16
  obtain ⟨_, xd17, xh17⟩ := DX.out.rel 17 _ rfl
  cases xh17
  have xq17 : W.cell? ⟨p, 17, none⟩ = some (.bool f.scts) := by rw [cell_of_heap xheap]; exact xd17
  obtain ⟨_, xd18, xh18⟩ := DX.out.rel 18 _ rfl
  obtain ⟨xa18, xc18, rfl, _⟩ := RowS.len xh18
  rw [List.length_map] at xd18 xh18
  have xP18 := Lib.hid xh18
  have xq18 : W.cell? ⟨p, 18, none⟩ = some (.slice xa18 f.vers13.length xc18) := by rw [cell_of_heap xheap]; exact xd18
  obtain ⟨_, xd19, xh19⟩ := DX.out.rel 19 _ rfl
  obtain ⟨xa19, xc19, rfl⟩ := SrcB.len xh19
  have xP19 := Lib.hid xh19
  have xq19 : W.cell? ⟨p, 19, none⟩ = some (.slice xa19 f.cookie.length xc19) := by rw [cell_of_heap xheap]; exact xd19
  obtain ⟨_, xd20, xh20⟩ := DX.out.rel 20 _ rfl
  obtain ⟨xa20, xc20, rfl, _⟩ := RowS.len xh20
  rw [List.length_map] at xd20 xh20
  rw [List.length_map] at xd20 xh20
  have xP20 := Lib.hid xh20
  have xq20 : W.cell? ⟨p, 20, none⟩ = some (.slice xa20 f.shares.length xc20) := by rw [cell_of_heap xheap]; exact xd20
  obtain ⟨_, xd21, xh21⟩ := DX.out.rel 21 _ rfl
  obtain ⟨xa21, xc21, rfl, _⟩ := SrcL.len xh21
  rw [List.length_map] at xd21 xh21
  have xP21 := Lib.hid xh21
  have xq21 : W.cell? ⟨p, 21, none⟩ = some (.slice xa21 f.shares.length xc21) := by rw [cell_of_heap xheap]; exact xd21
  obtain ⟨_, xd22, xh22⟩ := DX.out.rel 22 _ rfl
  cases xh22
  have xq22 : W.cell? ⟨p, 22, none⟩ = some (.bool f.early) := by rw [cell_of_heap xheap]; exact xd22
  obtain ⟨_, xd23, xh23⟩ := DX.out.rel 23 _ rfl
  obtain ⟨xa23, xc23, rfl⟩ := SrcB.len xh23
  have xP23 := Lib.hid xh23
  have xq23 : W.cell? ⟨p, 23, none⟩ = some (.slice xa23 f.modes.length xc23) := by rw [cell_of_heap xheap]; exact xd23
  obtain ⟨_, xd27, xh27⟩ := DX.out.rel 27 _ rfl
  cases xh27
  have xq27 : W.cell? ⟨p, 27, none⟩ = some (.bool f.quic.isSome) := by rw [cell_of_heap xheap]; exact xd27
  obtain ⟨_, xd28, xh28⟩ := DX.out.rel 28 _ rfl
  obtain ⟨xa28, xc28, rfl⟩ := SrcB.len xh28
  have xP28 := Lib.hid xh28
  have xq28 : W.cell? ⟨p, 28, none⟩ = some (.slice xa28 (f.quic.getD []).length xc28) := by rw [cell_of_heap xheap]; exact xd28
  obtain ⟨_, xd29, xh29⟩ := DX.out.rel 29 _ rfl
  obtain ⟨xa29, xc29, rfl⟩ := SrcB.len xh29
  have xP29 := Lib.hid xh29
  have xq29 : W.cell? ⟨p, 29, none⟩ = some (.slice xa29 f.ech.length xc29) := by rw [cell_of_heap xheap]; exact xd29
  clear xd0 xd1 xh1 xd2 xh2 xd3 xh3 xd4 xh4 xd5 xd6 xd7 xh7 xd8 xh8 xd9 xd10 xh10 xd11 xh11 xd12 xh12 xd13 xd14 xh14 xd15 xd16 xh16 xd17 xd18 xh18 xd19 xh19 xd20 xh20 xd21 xh21 xd22 xd23 xh23 xd27 xd28 xh28 xd29 xh29
  obtain ⟨_, yd0, yh0⟩ := EX.out.rel 0 _ rfl
  cases yh0
  have yq0 : W.cell? ⟨p + 1, 0, none⟩ = some (.int .u16 (f.vers : Nat)) := by rw [cell_of_heap yheap]; exact yd0
  obtain ⟨_, yd1, yh1⟩ := EX.out.rel 1 _ rfl
  obtain ⟨ya1, yc1, rfl⟩ := SrcB.len yh1
  have yP1 := Lib.hid yh1
  have yq1 : W.cell? ⟨p + 1, 1, none⟩ = some (.slice ya1 f.random.length yc1) := by rw [cell_of_heap yheap]; exact yd1
  obtain ⟨_, yd2, yh2⟩ := EX.out.rel 2 _ rfl
  obtain ⟨ya2, yc2, rfl⟩ := SrcB.len yh2
  have yP2 := Lib.hid yh2
  have yq2 : W.cell? ⟨p + 1, 2, none⟩ = some (.slice ya2 f.session.length yc2) := by rw [cell_of_heap yheap]; exact yd2
  obtain ⟨_, yd3, yh3⟩ := EX.out.rel 3 _ rfl
  obtain ⟨ya3, yc3, rfl, _⟩ := RowS.len yh3
  rw [List.length_map] at yd3 yh3
  have yP3 := Lib.hid yh3
  have yq3 : W.cell? ⟨p + 1, 3, none⟩ = some (.slice ya3 f.suites.length yc3) := by rw [cell_of_heap yheap]; exact yd3
  obtain ⟨_, yd4, yh4⟩ := EX.out.rel 4 _ rfl
  obtain ⟨ya4, yc4, rfl⟩ := SrcB.len yh4
  have yP4 := Lib.hid yh4
  have yq4 : W.cell? ⟨p + 1, 4, none⟩ = some (.slice ya4 f.comps.length yc4) := by rw [cell_of_heap yheap]; exact yd4
  obtain ⟨_, yd5, yh5⟩ := EX.out.rel 5 _ rfl
  cases yh5
  have yq5 : W.cell? ⟨p + 1, 5, none⟩ = some (.string ⟨f.name.toArray⟩) := by rw [cell_of_heap yheap]; exact yd5
  obtain ⟨_, yd6, yh6⟩ := EX.out.rel 6 _ rfl
  cases yh6
  have yq6 : W.cell? ⟨p + 1, 6, none⟩ = some (.bool f.ocsp) := by rw [cell_of_heap yheap]; exact yd6
  obtain ⟨_, yd7, yh7⟩ := EX.out.rel 7 _ rfl
  obtain ⟨ya7, yc7, rfl, _⟩ := RowS.len yh7
  rw [List.length_map] at yd7 yh7
  have yP7 := Lib.hid yh7
  have yq7 : W.cell? ⟨p + 1, 7, none⟩ = some (.slice ya7 f.curves.length yc7) := by rw [cell_of_heap yheap]; exact yd7
  obtain ⟨_, yd8, yh8⟩ := EX.out.rel 8 _ rfl
  obtain ⟨ya8, yc8, rfl⟩ := SrcB.len yh8
  have yP8 := Lib.hid yh8
  have yq8 : W.cell? ⟨p + 1, 8, none⟩ = some (.slice ya8 f.points.length yc8) := by rw [cell_of_heap yheap]; exact yd8
  obtain ⟨_, yd9, yh9⟩ := EX.out.rel 9 _ rfl
  cases yh9
  have yq9 : W.cell? ⟨p + 1, 9, none⟩ = some (.bool f.ticket) := by rw [cell_of_heap yheap]; exact yd9
  obtain ⟨_, yd10, yh10⟩ := EX.out.rel 10 _ rfl
  obtain ⟨ya10, yc10, rfl⟩ := SrcB.len yh10
  have yP10 := Lib.hid yh10
  have yq10 : W.cell? ⟨p + 1, 10, none⟩ = some (.slice ya10 f.tickets.length yc10) := by rw [cell_of_heap yheap]; exact yd10
  obtain ⟨_, yd11, yh11⟩ := EX.out.rel 11 _ rfl
  obtain ⟨ya11, yc11, rfl, _⟩ := RowS.len yh11
  rw [List.length_map] at yd11 yh11
  have yP11 := Lib.hid yh11
  have yq11 : W.cell? ⟨p + 1, 11, none⟩ = some (.slice ya11 f.sigs.length yc11) := by rw [cell_of_heap yheap]; exact yd11
  obtain ⟨_, yd12, yh12⟩ := EX.out.rel 12 _ rfl
  obtain ⟨ya12, yc12, rfl, _⟩ := RowS.len yh12
  rw [List.length_map] at yd12 yh12
  have yP12 := Lib.hid yh12
  have yq12 : W.cell? ⟨p + 1, 12, none⟩ = some (.slice ya12 f.sigsC.length yc12) := by rw [cell_of_heap yheap]; exact yd12
  obtain ⟨_, yd13, yh13⟩ := EX.out.rel 13 _ rfl
  cases yh13
  have yq13 : W.cell? ⟨p + 1, 13, none⟩ = some (.bool f.srs) := by rw [cell_of_heap yheap]; exact yd13
  obtain ⟨_, yd14, yh14⟩ := EX.out.rel 14 _ rfl
  obtain ⟨ya14, yc14, rfl⟩ := SrcB.len yh14
  have yP14 := Lib.hid yh14
  have yq14 : W.cell? ⟨p + 1, 14, none⟩ = some (.slice ya14 f.sr.length yc14) := by rw [cell_of_heap yheap]; exact yd14
  obtain ⟨_, yd15, yh15⟩ := EX.out.rel 15 _ rfl
  cases yh15
  have yq15 : W.cell? ⟨p + 1, 15, none⟩ = some (.bool f.ems) := by rw [cell_of_heap yheap]; exact yd15
  obtain ⟨_, yd16, yh16⟩ := EX.out.rel 16 _ rfl
  obtain ⟨ya16, yc16, rfl, _⟩ := RowS.len yh16
  rw [List.length_map] at yd16 yh16
  have yP16 := Lib.hid yh16
  have yq16 : W.cell? ⟨p + 1, 16, none⟩ = some (.slice ya16 f.alpn.length yc16) := by rw [cell_of_heap yheap]; exact yd16
  obtain ⟨_, yd17, yh17⟩ := EX.out.rel 17 _ rfl
  cases yh17
  have yq17 : W.cell? ⟨p + 1, 17, none⟩ = some (.bool f.scts) := by rw [cell_of_heap yheap]; exact yd17
  obtain ⟨_, yd18, yh18⟩ := EX.out.rel 18 _ rfl
  obtain ⟨ya18, yc18, rfl, _⟩ := RowS.len yh18
  rw [List.length_map] at yd18 yh18
  have yP18 := Lib.hid yh18
  have yq18 : W.cell? ⟨p + 1, 18, none⟩ = some (.slice ya18 f.vers13.length yc18) := by rw [cell_of_heap yheap]; exact yd18
  obtain ⟨_, yd19, yh19⟩ := EX.out.rel 19 _ rfl
  obtain ⟨ya19, yc19, rfl⟩ := SrcB.len yh19
  have yP19 := Lib.hid yh19
  have yq19 : W.cell? ⟨p + 1, 19, none⟩ = some (.slice ya19 f.cookie.length yc19) := by rw [cell_of_heap yheap]; exact yd19
  obtain ⟨_, yd20, yh20⟩ := EX.out.rel 20 _ rfl
  obtain ⟨ya20, yc20, rfl, _⟩ := RowS.len yh20
  rw [List.length_map] at yd20 yh20
  rw [List.length_map] at yd20 yh20
  have yP20 := Lib.hid yh20
  have yq20 : W.cell? ⟨p + 1, 20, none⟩ = some (.slice ya20 f.shares.length yc20) := by rw [cell_of_heap yheap]; exact yd20
  obtain ⟨_, yd21, yh21⟩ := EX.out.rel 21 _ rfl
  obtain ⟨ya21, yc21, rfl, _⟩ := SrcL.len yh21
  rw [List.length_map] at yd21 yh21
  have yP21 := Lib.hid yh21
  have yq21 : W.cell? ⟨p + 1, 21, none⟩ = some (.slice ya21 f.shares.length yc21) := by rw [cell_of_heap yheap]; exact yd21
  obtain ⟨_, yd22, yh22⟩ := EX.out.rel 22 _ rfl
  cases yh22
  have yq22 : W.cell? ⟨p + 1, 22, none⟩ = some (.bool f.early) := by rw [cell_of_heap yheap]; exact yd22
  obtain ⟨_, yd23, yh23⟩ := EX.out.rel 23 _ rfl
  obtain ⟨ya23, yc23, rfl⟩ := SrcB.len yh23
  have yP23 := Lib.hid yh23
  have yq23 : W.cell? ⟨p + 1, 23, none⟩ = some (.slice ya23 f.modes.length yc23) := by rw [cell_of_heap yheap]; exact yd23
  obtain ⟨_, yd27, yh27⟩ := EX.out.rel 27 _ rfl
  cases yh27
  have yq27 : W.cell? ⟨p + 1, 27, none⟩ = some (.bool f.quic.isSome) := by rw [cell_of_heap yheap]; exact yd27
  obtain ⟨_, yd28, yh28⟩ := EX.out.rel 28 _ rfl
  obtain ⟨ya28, yc28, rfl⟩ := SrcB.len yh28
  have yP28 := Lib.hid yh28
  have yq28 : W.cell? ⟨p + 1, 28, none⟩ = some (.slice ya28 (f.quic.getD []).length yc28) := by rw [cell_of_heap yheap]; exact yd28
  obtain ⟨_, yd29, yh29⟩ := EX.out.rel 29 _ rfl
  obtain ⟨ya29, yc29, rfl⟩ := SrcB.len yh29
  have yP29 := Lib.hid yh29
  have yq29 : W.cell? ⟨p + 1, 29, none⟩ = some (.slice ya29 f.ech.length yc29) := by rw [cell_of_heap yheap]; exact yd29
  clear yd0 yd1 yh1 yd2 yh2 yd3 yh3 yd4 yh4 yd5 yd6 yd7 yh7 yd8 yh8 yd9 yd10 yh10 yd11 yh11 yd12 yh12 yd13 yd14 yh14 yd15 yd16 yh16 yd17 yd18 yh18 yd19 yh19 yd20 yh20 yd21 yh21 yd22 yd23 yh23 yd27 yd28 yh28 yd29 yh29
  have hSk : ∀ w', Below W.heap.size W w' → (w'.heap[p]? = some (.cells D 29 (0, 0)) ∧ w'.heap[p + 1]? = some (.cells E 29 (0, 0)) ∧ w'.cell? ⟨p, 0, none⟩ = some (.int .u16 (f.vers : Nat)) ∧ w'.cell? ⟨p + 1, 0, none⟩ = some (.int .u16 (f.vers : Nat)) ∧ w'.cell? ⟨p, 1, none⟩ = some (.slice xa1 f.random.length xc1) ∧ w'.cell? ⟨p + 1, 1, none⟩ = some (.slice ya1 f.random.length yc1) ∧ w'.cell? ⟨p, 2, none⟩ = some (.slice xa2 f.session.length xc2) ∧ w'.cell? ⟨p + 1, 2, none⟩ = some (.slice ya2 f.session.length yc2) ∧ w'.cell? ⟨p, 3, none⟩ = some (.slice xa3 f.suites.length xc3) ∧ w'.cell? ⟨p + 1, 3, none⟩ = some (.slice ya3 f.suites.length yc3) ∧ w'.cell? ⟨p, 4, none⟩ = some (.slice xa4 f.comps.length xc4) ∧ w'.cell? ⟨p + 1, 4, none⟩ = some (.slice ya4 f.comps.length yc4) ∧ w'.cell? ⟨p, 5, none⟩ = some (.string ⟨f.name.toArray⟩) ∧ w'.cell? ⟨p + 1, 5, none⟩ = some (.string ⟨f.name.toArray⟩) ∧ w'.cell? ⟨p, 6, none⟩ = some (.bool f.ocsp) ∧ w'.cell? ⟨p + 1, 6, none⟩ = some (.bool f.ocsp) ∧ w'.cell? ⟨p, 7, none⟩ = some (.slice xa7 f.curves.length xc7) ∧ w'.cell? ⟨p + 1, 7, none⟩ = some (.slice ya7 f.curves.length yc7) ∧ w'.cell? ⟨p, 8, none⟩ = some (.slice xa8 f.points.length xc8) ∧ w'.cell? ⟨p + 1, 8, none⟩ = some (.slice ya8 f.points.length yc8) ∧ w'.cell? ⟨p, 9, none⟩ = some (.bool f.ticket) ∧ w'.cell? ⟨p + 1, 9, none⟩ = some (.bool f.ticket) ∧ w'.cell? ⟨p, 10, none⟩ = some (.slice xa10 f.tickets.length xc10) ∧ w'.cell? ⟨p + 1, 10, none⟩ = some (.slice ya10 f.tickets.length yc10) ∧ w'.cell? ⟨p, 11, none⟩ = some (.slice xa11 f.sigs.length xc11) ∧ w'.cell? ⟨p + 1, 11, none⟩ = some (.slice ya11 f.sigs.length yc11) ∧ w'.cell? ⟨p, 12, none⟩ = some (.slice xa12 f.sigsC.length xc12) ∧ w'.cell? ⟨p + 1, 12, none⟩ = some (.slice ya12 f.sigsC.length yc12) ∧ w'.cell? ⟨p, 13, none⟩ = some (.bool f.srs) ∧ w'.cell? ⟨p + 1, 13, none⟩ = some (.bool f.srs) ∧ w'.cell? ⟨p, 14, none⟩ = some (.slice xa14 f.sr.length xc14) ∧ w'.cell? ⟨p + 1, 14, none⟩ = some (.slice ya14 f.sr.length yc14) ∧ w'.cell? ⟨p, 15, none⟩ = some (.bool f.ems) ∧ w'.cell? ⟨p + 1, 15, none⟩ = some (.bool f.ems) ∧ w'.cell? ⟨p, 16, none⟩ = some (.slice xa16 f.alpn.length xc16) ∧ w'.cell? ⟨p + 1, 16, none⟩ = some (.slice ya16 f.alpn.length yc16) ∧ w'.cell? ⟨p, 17, none⟩ = some (.bool f.scts) ∧ w'.cell? ⟨p + 1, 17, none⟩ = some (.bool f.scts) ∧ w'.cell? ⟨p, 18, none⟩ = some (.slice xa18 f.vers13.length xc18) ∧ w'.cell? ⟨p + 1, 18, none⟩ = some (.slice ya18 f.vers13.length yc18) ∧ w'.cell? ⟨p, 19, none⟩ = some (.slice xa19 f.cookie.length xc19) ∧ w'.cell? ⟨p + 1, 19, none⟩ = some (.slice ya19 f.cookie.length yc19) ∧ w'.cell? ⟨p, 20, none⟩ = some (.slice xa20 f.shares.length xc20) ∧ w'.cell? ⟨p + 1, 20, none⟩ = some (.slice ya20 f.shares.length yc20) ∧ w'.cell? ⟨p, 21, none⟩ = some (.slice xa21 f.shares.length xc21) ∧ w'.cell? ⟨p + 1, 21, none⟩ = some (.slice ya21 f.shares.length yc21) ∧ w'.cell? ⟨p, 22, none⟩ = some (.bool f.early) ∧ w'.cell? ⟨p + 1, 22, none⟩ = some (.bool f.early) ∧ w'.cell? ⟨p, 23, none⟩ = some (.slice xa23 f.modes.length xc23) ∧ w'.cell? ⟨p + 1, 23, none⟩ = some (.slice ya23 f.modes.length yc23) ∧ w'.cell? ⟨p, 27, none⟩ = some (.bool f.quic.isSome) ∧ w'.cell? ⟨p + 1, 27, none⟩ = some (.bool f.quic.isSome) ∧ w'.cell? ⟨p, 28, none⟩ = some (.slice xa28 (f.quic.getD []).length xc28) ∧ w'.cell? ⟨p + 1, 28, none⟩ = some (.slice ya28 (f.quic.getD []).length yc28) ∧ w'.cell? ⟨p, 29, none⟩ = some (.slice xa29 f.ech.length xc29) ∧ w'.cell? ⟨p + 1, 29, none⟩ = some (.slice ya29 f.ech.length yc29)) := fun w' hb => ⟨(hb.block p hpl).trans xheap, (hb.block (p + 1) hpl2).trans yheap, (World.cell?_of_block (hb.block p hpl)).trans xq0, (World.cell?_of_block (hb.block (p + 1) hpl2)).trans yq0, (World.cell?_of_block (hb.block p hpl)).trans xq1, (World.cell?_of_block (hb.block (p + 1) hpl2)).trans yq1, (World.cell?_of_block (hb.block p hpl)).trans xq2, (World.cell?_of_block (hb.block (p + 1) hpl2)).trans yq2, (World.cell?_of_block (hb.block p hpl)).trans xq3, (World.cell?_of_block (hb.block (p + 1) hpl2)).trans yq3, (World.cell?_of_block (hb.block p hpl)).trans xq4, (World.cell?_of_block (hb.block (p + 1) hpl2)).trans yq4, (World.cell?_of_block (hb.block p hpl)).trans xq5, (World.cell?_of_block (hb.block (p + 1) hpl2)).trans yq5, (World.cell?_of_block (hb.block p hpl)).trans xq6, (World.cell?_of_block (hb.block (p + 1) hpl2)).trans yq6, (World.cell?_of_block (hb.block p hpl)).trans xq7, (World.cell?_of_block (hb.block (p + 1) hpl2)).trans yq7, (World.cell?_of_block (hb.block p hpl)).trans xq8, (World.cell?_of_block (hb.block (p + 1) hpl2)).trans yq8, (World.cell?_of_block (hb.block p hpl)).trans xq9, (World.cell?_of_block (hb.block (p + 1) hpl2)).trans yq9, (World.cell?_of_block (hb.block p hpl)).trans xq10, (World.cell?_of_block (hb.block (p + 1) hpl2)).trans yq10, (World.cell?_of_block (hb.block p hpl)).trans xq11, (World.cell?_of_block (hb.block (p + 1) hpl2)).trans yq11, (World.cell?_of_block (hb.block p hpl)).trans xq12, (World.cell?_of_block (hb.block (p + 1) hpl2)).trans yq12, (World.cell?_of_block (hb.block p hpl)).trans xq13, (World.cell?_of_block (hb.block (p + 1) hpl2)).trans yq13, (World.cell?_of_block (hb.block p hpl)).trans xq14, (World.cell?_of_block (hb.block (p + 1) hpl2)).trans yq14, (World.cell?_of_block (hb.block p hpl)).trans xq15, (World.cell?_of_block (hb.block (p + 1) hpl2)).trans yq15, (World.cell?_of_block (hb.block p hpl)).trans xq16, (World.cell?_of_block (hb.block (p + 1) hpl2)).trans yq16, (World.cell?_of_block (hb.block p hpl)).trans xq17, (World.cell?_of_block (hb.block (p + 1) hpl2)).trans yq17, (World.cell?_of_block (hb.block p hpl)).trans xq18, (World.cell?_of_block (hb.block (p + 1) hpl2)).trans yq18, (World.cell?_of_block (hb.block p hpl)).trans xq19, (World.cell?_of_block (hb.block (p + 1) hpl2)).trans yq19, (World.cell?_of_block (hb.block p hpl)).trans xq20, (World.cell?_of_block (hb.block (p + 1) hpl2)).trans yq20, (World.cell?_of_block (hb.block p hpl)).trans xq21, (World.cell?_of_block (hb.block (p + 1) hpl2)).trans yq21, (World.cell?_of_block (hb.block p hpl)).trans xq22, (World.cell?_of_block (hb.block (p + 1) hpl2)).trans yq22, (World.cell?_of_block (hb.block p hpl)).trans xq23, (World.cell?_of_block (hb.block (p + 1) hpl2)).trans yq23, (World.cell?_of_block (hb.block p hpl)).trans xq27, (World.cell?_of_block (hb.block (p + 1) hpl2)).trans yq27, (World.cell?_of_block (hb.block p hpl)).trans xq28, (World.cell?_of_block (hb.block (p + 1) hpl2)).trans yq28, (World.cell?_of_block (hb.block p hpl)).trans xq29, (World.cell?_of_block (hb.block (p + 1) hpl2)).trans yq29⟩
  have HW := Lib.hid hW
  have HP := Lib.hid hp
  have hSD := Lib.hid (hSk _ HB0.out)
  clear hD hE hW hp hk xq0 yq0 xq1 yq1 xq2 yq2 xq3 yq3 xq4 yq4 xq5 yq5 xq6 yq6 xq7 yq7 xq8 yq8 xq9 yq9 xq10 yq10 xq11 yq11 xq12 yq12 xq13 yq13 xq14 yq14 xq15 yq15 xq16 yq16 xq17 yq17 xq18 yq18 xq19 yq19 xq20 yq20 xq21 yq21 xq22 yq22 xq23 yq23 xq27 yq27 xq28 yq28 xq29 yq29 xheap yheap
  clear hsz hb
  go_enter Tryz.func7, Tryz.ntmps7
  go_upto_region 1 with fail
  rw [← HW.out, ← HP.out]
  try simp only [List.append_eq, List.cons_append, List.nil_append]
  refine region_runs smRk smOrd smImp 5 113 smF1 ([(114, true), (115, true), (113, false)] ++ (List.range' 116 79).zip smF2) (fun w' => w'.heap[p]? = some (.cells D 29 (0, 0)) ∧ w'.heap[p + 1]? = some (.cells E 29 (0, 0)) ∧ w'.cell? ⟨p, 0, none⟩ = some (.int .u16 (f.vers : Nat)) ∧ w'.cell? ⟨p + 1, 0, none⟩ = some (.int .u16 (f.vers : Nat)) ∧ w'.cell? ⟨p, 1, none⟩ = some (.slice xa1 f.random.length xc1) ∧ w'.cell? ⟨p + 1, 1, none⟩ = some (.slice ya1 f.random.length yc1) ∧ w'.cell? ⟨p, 2, none⟩ = some (.slice xa2 f.session.length xc2) ∧ w'.cell? ⟨p + 1, 2, none⟩ = some (.slice ya2 f.session.length yc2) ∧ w'.cell? ⟨p, 3, none⟩ = some (.slice xa3 f.suites.length xc3) ∧ w'.cell? ⟨p + 1, 3, none⟩ = some (.slice ya3 f.suites.length yc3) ∧ w'.cell? ⟨p, 4, none⟩ = some (.slice xa4 f.comps.length xc4) ∧ w'.cell? ⟨p + 1, 4, none⟩ = some (.slice ya4 f.comps.length yc4) ∧ w'.cell? ⟨p, 5, none⟩ = some (.string ⟨f.name.toArray⟩) ∧ w'.cell? ⟨p + 1, 5, none⟩ = some (.string ⟨f.name.toArray⟩) ∧ w'.cell? ⟨p, 6, none⟩ = some (.bool f.ocsp) ∧ w'.cell? ⟨p + 1, 6, none⟩ = some (.bool f.ocsp) ∧ w'.cell? ⟨p, 7, none⟩ = some (.slice xa7 f.curves.length xc7) ∧ w'.cell? ⟨p + 1, 7, none⟩ = some (.slice ya7 f.curves.length yc7) ∧ w'.cell? ⟨p, 8, none⟩ = some (.slice xa8 f.points.length xc8) ∧ w'.cell? ⟨p + 1, 8, none⟩ = some (.slice ya8 f.points.length yc8) ∧ w'.cell? ⟨p, 9, none⟩ = some (.bool f.ticket) ∧ w'.cell? ⟨p + 1, 9, none⟩ = some (.bool f.ticket) ∧ w'.cell? ⟨p, 10, none⟩ = some (.slice xa10 f.tickets.length xc10) ∧ w'.cell? ⟨p + 1, 10, none⟩ = some (.slice ya10 f.tickets.length yc10) ∧ w'.cell? ⟨p, 11, none⟩ = some (.slice xa11 f.sigs.length xc11) ∧ w'.cell? ⟨p + 1, 11, none⟩ = some (.slice ya11 f.sigs.length yc11) ∧ w'.cell? ⟨p, 12, none⟩ = some (.slice xa12 f.sigsC.length xc12) ∧ w'.cell? ⟨p + 1, 12, none⟩ = some (.slice ya12 f.sigsC.length yc12) ∧ w'.cell? ⟨p, 13, none⟩ = some (.bool f.srs) ∧ w'.cell? ⟨p + 1, 13, none⟩ = some (.bool f.srs) ∧ w'.cell? ⟨p, 14, none⟩ = some (.slice xa14 f.sr.length xc14) ∧ w'.cell? ⟨p + 1, 14, none⟩ = some (.slice ya14 f.sr.length yc14) ∧ w'.cell? ⟨p, 15, none⟩ = some (.bool f.ems) ∧ w'.cell? ⟨p + 1, 15, none⟩ = some (.bool f.ems) ∧ w'.cell? ⟨p, 16, none⟩ = some (.slice xa16 f.alpn.length xc16) ∧ w'.cell? ⟨p + 1, 16, none⟩ = some (.slice ya16 f.alpn.length yc16) ∧ w'.cell? ⟨p, 17, none⟩ = some (.bool f.scts) ∧ w'.cell? ⟨p + 1, 17, none⟩ = some (.bool f.scts) ∧ w'.cell? ⟨p, 18, none⟩ = some (.slice xa18 f.vers13.length xc18) ∧ w'.cell? ⟨p + 1, 18, none⟩ = some (.slice ya18 f.vers13.length yc18) ∧ w'.cell? ⟨p, 19, none⟩ = some (.slice xa19 f.cookie.length xc19) ∧ w'.cell? ⟨p + 1, 19, none⟩ = some (.slice ya19 f.cookie.length yc19) ∧ w'.cell? ⟨p, 20, none⟩ = some (.slice xa20 f.shares.length xc20) ∧ w'.cell? ⟨p + 1, 20, none⟩ = some (.slice ya20 f.shares.length yc20) ∧ w'.cell? ⟨p, 21, none⟩ = some (.slice xa21 f.shares.length xc21) ∧ w'.cell? ⟨p + 1, 21, none⟩ = some (.slice ya21 f.shares.length yc21) ∧ w'.cell? ⟨p, 22, none⟩ = some (.bool f.early) ∧ w'.cell? ⟨p + 1, 22, none⟩ = some (.bool f.early) ∧ w'.cell? ⟨p, 23, none⟩ = some (.slice xa23 f.modes.length xc23) ∧ w'.cell? ⟨p + 1, 23, none⟩ = some (.slice ya23 f.modes.length yc23) ∧ w'.cell? ⟨p, 27, none⟩ = some (.bool f.quic.isSome) ∧ w'.cell? ⟨p + 1, 27, none⟩ = some (.bool f.quic.isSome) ∧ w'.cell? ⟨p, 28, none⟩ = some (.slice xa28 (f.quic.getD []).length xc28) ∧ w'.cell? ⟨p + 1, 28, none⟩ = some (.slice ya28 (f.quic.getD []).length yc28) ∧ w'.cell? ⟨p, 29, none⟩ = some (.slice xa29 f.ech.length xc29) ∧ w'.cell? ⟨p + 1, 29, none⟩ = some (.slice ya29 f.ech.length yc29)) mixed (by kernel_rfl) (by kernel_rfl) (by intro c a d v w h; cases d <;> exact h) (by decide) rfl (by kernel_rfl) hSD.out ?_
  simp only [List.take_succ_cons, List.take_zero]
  unfold smF1
  (refine run_pure (by rfl) ?_; apply Exists.intro; refine ⟨fun w' hS => ?_, ?_⟩; (· (clear hS; first | (go_simp; done) | (go_simp; with_reducible rfl))); simp only [Act.put, List.setIfInBounds_toArray, List.set_cons_zero, List.set_cons_succ])
  (refine run_pure (by rfl) ?_; apply Exists.intro; refine ⟨fun w' hS => ?_, ?_⟩; (· (have hc := hS.2.2.1; clear hS; first | (go_simp; done) | (go_simp; with_reducible rfl))); simp only [Act.put, List.setIfInBounds_toArray, List.set_cons_zero, List.set_cons_succ])
  (refine run_pure (by rfl) ?_; apply Exists.intro; refine ⟨fun w' hS => ?_, ?_⟩; (· (clear hS; first | (go_simp; done) | (go_simp; with_reducible rfl))); simp only [Act.put, List.setIfInBounds_toArray, List.set_cons_zero, List.set_cons_succ])
  (refine run_pure (by rfl) ?_; apply Exists.intro; refine ⟨fun w' hS => ?_, ?_⟩; (· (have hc := hS.2.2.2.1; clear hS; first | (go_simp; done) | (go_simp; with_reducible rfl))); simp only [Act.put, List.setIfInBounds_toArray, List.set_cons_zero, List.set_cons_succ])
  (refine run_pure (by rfl) ?_; apply Exists.intro; refine ⟨fun w' hS => ?_, ?_⟩; (· (clear hS; first | (go_simp; done) | (go_simp; with_reducible rfl))); simp only [Act.put, List.setIfInBounds_toArray, List.set_cons_zero, List.set_cons_succ])
  (refine run_pure (by rfl) ?_; apply Exists.intro; refine ⟨fun w' hS => ?_, ?_⟩; (· (clear hS; first | (go_simp; done) | (go_simp; with_reducible rfl))); simp only [Act.put, List.setIfInBounds_toArray, List.set_cons_zero, List.set_cons_succ])
  (refine run_pure (by rfl) ?_; apply Exists.intro; refine ⟨fun w' hS => ?_, ?_⟩; (· (clear hS; first | (go_simp; done) | (go_simp; with_reducible rfl))); simp only [Act.put, List.setIfInBounds_toArray, List.set_cons_zero, List.set_cons_succ])
  (refine run_pure (by rfl) ?_; apply Exists.intro; refine ⟨fun w' hS => ?_, ?_⟩; (· (have hc := hS.2.2.2.2.1; clear hS; first | (go_simp; done) | (go_simp; with_reducible rfl))); simp only [Act.put, List.setIfInBounds_toArray, List.set_cons_zero, List.set_cons_succ])
  (refine run_pure (by rfl) ?_; apply Exists.intro; refine ⟨fun w' hS => ?_, ?_⟩; (· (clear hS; first | (go_simp; done) | (go_simp; with_reducible rfl))); simp only [Act.put, List.setIfInBounds_toArray, List.set_cons_zero, List.set_cons_succ])
  (refine run_pure (by rfl) ?_; apply Exists.intro; refine ⟨fun w' hS => ?_, ?_⟩; (· (have hc := hS.2.2.2.2.2.1; clear hS; first | (go_simp; done) | (go_simp; with_reducible rfl))); simp only [Act.put, List.setIfInBounds_toArray, List.set_cons_zero, List.set_cons_succ])
  refine run_run (by rfl) (fun K hK => ?_)
  go_simp
  refine (same_ok W.drew (xP1.out.keep HB0.out.size HB0.out.block).src (yP1.out.keep HB0.out.size HB0.out.block).src).mono ?_
  rintro e w1 ⟨rfl, hw⟩
  rw [hw]
  clear hw
  rw [decide_eq_true rfl]
  refine hK _ _ (hSk _ HB0.out) ?_
  clear hK K
  try simp only [Act.put, List.setIfInBounds_toArray, List.set_cons_zero, List.set_cons_succ]
  (refine run_pure (by rfl) ?_; apply Exists.intro; refine ⟨fun w' hS => ?_, ?_⟩; (· (clear hS; first | (go_simp; done) | (go_simp; with_reducible rfl))); simp only [Act.put, List.setIfInBounds_toArray, List.set_cons_zero, List.set_cons_succ])
  (refine run_pure (by rfl) ?_; apply Exists.intro; refine ⟨fun w' hS => ?_, ?_⟩; (· (clear hS; first | (go_simp; done) | (go_simp; with_reducible rfl))); simp only [Act.put, List.setIfInBounds_toArray, List.set_cons_zero, List.set_cons_succ])
  (refine run_pure (by rfl) ?_; apply Exists.intro; refine ⟨fun w' hS => ?_, ?_⟩; (· (clear hS; first | (go_simp; done) | (go_simp; with_reducible rfl))); simp only [Act.put, List.setIfInBounds_toArray, List.set_cons_zero, List.set_cons_succ])
  (refine run_pure (by rfl) ?_; apply Exists.intro; refine ⟨fun w' hS => ?_, ?_⟩; (· (have hc := hS.2.2.2.2.2.2.1; clear hS; first | (go_simp; done) | (go_simp; with_reducible rfl))); simp only [Act.put, List.setIfInBounds_toArray, List.set_cons_zero, List.set_cons_succ])
  (refine run_pure (by rfl) ?_; apply Exists.intro; refine ⟨fun w' hS => ?_, ?_⟩; (· (clear hS; first | (go_simp; done) | (go_simp; with_reducible rfl))); simp only [Act.put, List.setIfInBounds_toArray, List.set_cons_zero, List.set_cons_succ])
  (refine run_pure (by rfl) ?_; apply Exists.intro; refine ⟨fun w' hS => ?_, ?_⟩; (· (have hc := hS.2.2.2.2.2.2.2.1; clear hS; first | (go_simp; done) | (go_simp; with_reducible rfl))); simp only [Act.put, List.setIfInBounds_toArray, List.set_cons_zero, List.set_cons_succ])
  refine run_run (by rfl) (fun K hK => ?_)
  go_simp
  refine (same_ok W.drew (xP2.out.keep HB0.out.size HB0.out.block).src (yP2.out.keep HB0.out.size HB0.out.block).src).mono ?_
  rintro e w2 ⟨rfl, hw⟩
  rw [hw]
  clear hw
  rw [decide_eq_true rfl]
  refine hK _ _ (hSk _ HB0.out) ?_
  clear hK K
  try simp only [Act.put, List.setIfInBounds_toArray, List.set_cons_zero, List.set_cons_succ]
  (refine run_pure (by rfl) ?_; apply Exists.intro; refine ⟨fun w' hS => ?_, ?_⟩; (· (clear hS; first | (go_simp; done) | (go_simp; with_reducible rfl))); simp only [Act.put, List.setIfInBounds_toArray, List.set_cons_zero, List.set_cons_succ])
  (refine run_pure (by rfl) ?_; apply Exists.intro; refine ⟨fun w' hS => ?_, ?_⟩; (· (clear hS; first | (go_simp; done) | (go_simp; with_reducible rfl))); simp only [Act.put, List.setIfInBounds_toArray, List.set_cons_zero, List.set_cons_succ])
  (refine run_pure (by rfl) ?_; apply Exists.intro; refine ⟨fun w' hS => ?_, ?_⟩; (· (clear hS; first | (go_simp; done) | (go_simp; with_reducible rfl))); simp only [Act.put, List.setIfInBounds_toArray, List.set_cons_zero, List.set_cons_succ])
  (refine run_pure (by rfl) ?_; apply Exists.intro; refine ⟨fun w' hS => ?_, ?_⟩; (· (have hc := hS.2.2.2.2.2.2.2.2.1; clear hS; first | (go_simp; done) | (go_simp; with_reducible rfl))); simp only [Act.put, List.setIfInBounds_toArray, List.set_cons_zero, List.set_cons_succ])
  (refine run_pure (by rfl) ?_; apply Exists.intro; refine ⟨fun w' hS => ?_, ?_⟩; (· (clear hS; first | (go_simp; done) | (go_simp; with_reducible rfl))); simp only [Act.put, List.setIfInBounds_toArray, List.set_cons_zero, List.set_cons_succ])
  (refine run_pure (by rfl) ?_; apply Exists.intro; refine ⟨fun w' hS => ?_, ?_⟩; (· (have hc := hS.2.2.2.2.2.2.2.2.2.1; clear hS; first | (go_simp; done) | (go_simp; with_reducible rfl))); simp only [Act.put, List.setIfInBounds_toArray, List.set_cons_zero, List.set_cons_succ])
  refine run_run (by rfl) (fun K hK => ?_)
  go_simp
  refine (sameWords_ok W.drew (xP3.out.keep HB0.out.size HB0.out.block) (yP3.out.keep HB0.out.size HB0.out.block) m1 f1).mono ?_
  rintro e w3 ⟨rfl, hb⟩
  have HB3 : Hid (Below W.heap.size W w3) := Lib.hid (HB0.out.trans (hb.mono HB0.out.size))
  refine hK _ _ (hSk _ HB3.out) ?_
  clear hK K hb
  try simp only [Act.put, List.setIfInBounds_toArray, List.set_cons_zero, List.set_cons_succ]
  (refine run_pure (by rfl) ?_; apply Exists.intro; refine ⟨fun w' hS => ?_, ?_⟩; (· (clear hS; first | (go_simp; done) | (go_simp; with_reducible rfl))); simp only [Act.put, List.setIfInBounds_toArray, List.set_cons_zero, List.set_cons_succ])
  (refine run_pure (by rfl) ?_; apply Exists.intro; refine ⟨fun w' hS => ?_, ?_⟩; (· (clear hS; first | (go_simp; done) | (go_simp; with_reducible rfl))); simp only [Act.put, List.setIfInBounds_toArray, List.set_cons_zero, List.set_cons_succ])
  (refine run_pure (by rfl) ?_; apply Exists.intro; refine ⟨fun w' hS => ?_, ?_⟩; (· (clear hS; first | (go_simp; done) | (go_simp; with_reducible rfl))); simp only [Act.put, List.setIfInBounds_toArray, List.set_cons_zero, List.set_cons_succ])
  (refine run_pure (by rfl) ?_; apply Exists.intro; refine ⟨fun w' hS => ?_, ?_⟩; (· (have hc := hS.2.2.2.2.2.2.2.2.2.2.1; clear hS; first | (go_simp; done) | (go_simp; with_reducible rfl))); simp only [Act.put, List.setIfInBounds_toArray, List.set_cons_zero, List.set_cons_succ])
  (refine run_pure (by rfl) ?_; apply Exists.intro; refine ⟨fun w' hS => ?_, ?_⟩; (· (clear hS; first | (go_simp; done) | (go_simp; with_reducible rfl))); simp only [Act.put, List.setIfInBounds_toArray, List.set_cons_zero, List.set_cons_succ])
  (refine run_pure (by rfl) ?_; apply Exists.intro; refine ⟨fun w' hS => ?_, ?_⟩; (· (have hc := hS.2.2.2.2.2.2.2.2.2.2.2.1; clear hS; first | (go_simp; done) | (go_simp; with_reducible rfl))); simp only [Act.put, List.setIfInBounds_toArray, List.set_cons_zero, List.set_cons_succ])
  refine run_run (by rfl) (fun K hK => ?_)
  go_simp
  refine (same_ok w3 (xP4.out.keep HB3.out.size HB3.out.block).src (yP4.out.keep HB3.out.size HB3.out.block).src).mono ?_
  rintro e w4 ⟨rfl, hw⟩
  rw [hw]
  clear hw
  rw [decide_eq_true rfl]
  refine hK _ _ (hSk _ HB3.out) ?_
  clear hK K
  try simp only [Act.put, List.setIfInBounds_toArray, List.set_cons_zero, List.set_cons_succ]
  (refine run_pure (by rfl) ?_; apply Exists.intro; refine ⟨fun w' hS => ?_, ?_⟩; (· (clear hS; first | (go_simp; done) | (go_simp; with_reducible rfl))); simp only [Act.put, List.setIfInBounds_toArray, List.set_cons_zero, List.set_cons_succ])
  (refine run_pure (by rfl) ?_; apply Exists.intro; refine ⟨fun w' hS => ?_, ?_⟩; (· (clear hS; first | (go_simp; done) | (go_simp; with_reducible rfl))); simp only [Act.put, List.setIfInBounds_toArray, List.set_cons_zero, List.set_cons_succ])
  (refine run_pure (by rfl) ?_; apply Exists.intro; refine ⟨fun w' hS => ?_, ?_⟩; (· (clear hS; first | (go_simp; done) | (go_simp; with_reducible rfl))); simp only [Act.put, List.setIfInBounds_toArray, List.set_cons_zero, List.set_cons_succ])
  (refine run_pure (by rfl) ?_; apply Exists.intro; refine ⟨fun w' hS => ?_, ?_⟩; (· (have hc := hS.2.2.2.2.2.2.2.2.2.2.2.2.1; clear hS; first | (go_simp; done) | (go_simp; with_reducible rfl))); simp only [Act.put, List.setIfInBounds_toArray, List.set_cons_zero, List.set_cons_succ])
  (refine run_pure (by rfl) ?_; apply Exists.intro; refine ⟨fun w' hS => ?_, ?_⟩; (· (clear hS; first | (go_simp; done) | (go_simp; with_reducible rfl))); simp only [Act.put, List.setIfInBounds_toArray, List.set_cons_zero, List.set_cons_succ])
  (refine run_pure (by rfl) ?_; apply Exists.intro; refine ⟨fun w' hS => ?_, ?_⟩; (· (have hc := hS.2.2.2.2.2.2.2.2.2.2.2.2.2.1; clear hS; first | (go_simp; done) | (go_simp; with_reducible rfl))); simp only [Act.put, List.setIfInBounds_toArray, List.set_cons_zero, List.set_cons_succ])
  (refine run_pure (by rfl) ?_; apply Exists.intro; refine ⟨fun w' hS => ?_, ?_⟩; (· (clear hS; first | (go_simp; done) | (go_simp; with_reducible rfl))); simp only [Act.put, List.setIfInBounds_toArray, List.set_cons_zero, List.set_cons_succ])
  (refine run_pure (by rfl) ?_; apply Exists.intro; refine ⟨fun w' hS => ?_, ?_⟩; (· (clear hS; first | (go_simp; done) | (go_simp; with_reducible rfl))); simp only [Act.put, List.setIfInBounds_toArray, List.set_cons_zero, List.set_cons_succ])
  (refine run_pure (by rfl) ?_; apply Exists.intro; refine ⟨fun w' hS => ?_, ?_⟩; (· (clear hS; first | (go_simp; done) | (go_simp; with_reducible rfl))); simp only [Act.put, List.setIfInBounds_toArray, List.set_cons_zero, List.set_cons_succ])
  (refine run_pure (by rfl) ?_; apply Exists.intro; refine ⟨fun w' hS => ?_, ?_⟩; (· (clear hS; first | (go_simp; done) | (go_simp; with_reducible rfl))); simp only [Act.put, List.setIfInBounds_toArray, List.set_cons_zero, List.set_cons_succ])
  (refine run_pure (by rfl) ?_; apply Exists.intro; refine ⟨fun w' hS => ?_, ?_⟩; (· (have hc := hS.2.2.2.2.2.2.2.2.2.2.2.2.2.2.1; clear hS; first | (go_simp; done) | (go_simp; with_reducible rfl))); simp only [Act.put, List.setIfInBounds_toArray, List.set_cons_zero, List.set_cons_succ])
  (refine run_pure (by rfl) ?_; apply Exists.intro; refine ⟨fun w' hS => ?_, ?_⟩; (· (clear hS; first | (go_simp; done) | (go_simp; with_reducible rfl))); simp only [Act.put, List.setIfInBounds_toArray, List.set_cons_zero, List.set_cons_succ])
  (refine run_pure (by rfl) ?_; apply Exists.intro; refine ⟨fun w' hS => ?_, ?_⟩; (· (have hc := hS.2.2.2.2.2.2.2.2.2.2.2.2.2.2.2.1; clear hS; first | (go_simp; done) | (go_simp; with_reducible rfl))); simp only [Act.put, List.setIfInBounds_toArray, List.set_cons_zero, List.set_cons_succ])
  (refine run_pure (by rfl) ?_; apply Exists.intro; refine ⟨fun w' hS => ?_, ?_⟩; (· (clear hS; first | (go_simp; done) | (go_simp; with_reducible rfl))); simp only [Act.put, List.setIfInBounds_toArray, List.set_cons_zero, List.set_cons_succ])
  (refine run_pure (by rfl) ?_; apply Exists.intro; refine ⟨fun w' hS => ?_, ?_⟩; (· (clear hS; first | (go_simp; done) | (go_simp; with_reducible rfl))); simp only [Act.put, List.setIfInBounds_toArray, List.set_cons_zero, List.set_cons_succ])
  (refine run_pure (by rfl) ?_; apply Exists.intro; refine ⟨fun w' hS => ?_, ?_⟩; (· (clear hS; first | (go_simp; done) | (go_simp; with_reducible rfl))); simp only [Act.put, List.setIfInBounds_toArray, List.set_cons_zero, List.set_cons_succ])
  (refine run_pure (by rfl) ?_; apply Exists.intro; refine ⟨fun w' hS => ?_, ?_⟩; (· (clear hS; first | (go_simp; done) | (go_simp; with_reducible rfl))); simp only [Act.put, List.setIfInBounds_toArray, List.set_cons_zero, List.set_cons_succ])
  (refine run_pure (by rfl) ?_; apply Exists.intro; refine ⟨fun w' hS => ?_, ?_⟩; (· (have hc := hS.2.2.2.2.2.2.2.2.2.2.2.2.2.2.2.2.1; clear hS; first | (go_simp; done) | (go_simp; with_reducible rfl))); simp only [Act.put, List.setIfInBounds_toArray, List.set_cons_zero, List.set_cons_succ])
  (refine run_pure (by rfl) ?_; apply Exists.intro; refine ⟨fun w' hS => ?_, ?_⟩; (· (clear hS; first | (go_simp; done) | (go_simp; with_reducible rfl))); simp only [Act.put, List.setIfInBounds_toArray, List.set_cons_zero, List.set_cons_succ])
  (refine run_pure (by rfl) ?_; apply Exists.intro; refine ⟨fun w' hS => ?_, ?_⟩; (· (have hc := hS.2.2.2.2.2.2.2.2.2.2.2.2.2.2.2.2.2.1; clear hS; first | (go_simp; done) | (go_simp; with_reducible rfl))); simp only [Act.put, List.setIfInBounds_toArray, List.set_cons_zero, List.set_cons_succ])
  refine run_run (by rfl) (fun K hK => ?_)
  go_simp
  refine (sameWords_ok w3 (xP7.out.keep HB3.out.size HB3.out.block) (yP7.out.keep HB3.out.size HB3.out.block) m2 f2).mono ?_
  rintro e w5 ⟨rfl, hb⟩
  have HB5 : Hid (Below W.heap.size W w5) := Lib.hid (HB3.out.trans (hb.mono HB3.out.size))
  refine hK _ _ (hSk _ HB5.out) ?_
  clear hK K hb
  try simp only [Act.put, List.setIfInBounds_toArray, List.set_cons_zero, List.set_cons_succ]
  (refine run_pure (by rfl) ?_; apply Exists.intro; refine ⟨fun w' hS => ?_, ?_⟩; (· (clear hS; first | (go_simp; done) | (go_simp; with_reducible rfl))); simp only [Act.put, List.setIfInBounds_toArray, List.set_cons_zero, List.set_cons_succ])
  (refine run_pure (by rfl) ?_; apply Exists.intro; refine ⟨fun w' hS => ?_, ?_⟩; (· (clear hS; first | (go_simp; done) | (go_simp; with_reducible rfl))); simp only [Act.put, List.setIfInBounds_toArray, List.set_cons_zero, List.set_cons_succ])
  (refine run_pure (by rfl) ?_; apply Exists.intro; refine ⟨fun w' hS => ?_, ?_⟩; (· (clear hS; first | (go_simp; done) | (go_simp; with_reducible rfl))); simp only [Act.put, List.setIfInBounds_toArray, List.set_cons_zero, List.set_cons_succ])
  (refine run_pure (by rfl) ?_; apply Exists.intro; refine ⟨fun w' hS => ?_, ?_⟩; (· (have hc := hS.2.2.2.2.2.2.2.2.2.2.2.2.2.2.2.2.2.2.1; clear hS; first | (go_simp; done) | (go_simp; with_reducible rfl))); simp only [Act.put, List.setIfInBounds_toArray, List.set_cons_zero, List.set_cons_succ])
  (refine run_pure (by rfl) ?_; apply Exists.intro; refine ⟨fun w' hS => ?_, ?_⟩; (· (clear hS; first | (go_simp; done) | (go_simp; with_reducible rfl))); simp only [Act.put, List.setIfInBounds_toArray, List.set_cons_zero, List.set_cons_succ])
  (refine run_pure (by rfl) ?_; apply Exists.intro; refine ⟨fun w' hS => ?_, ?_⟩; (· (have hc := hS.2.2.2.2.2.2.2.2.2.2.2.2.2.2.2.2.2.2.2.1; clear hS; first | (go_simp; done) | (go_simp; with_reducible rfl))); simp only [Act.put, List.setIfInBounds_toArray, List.set_cons_zero, List.set_cons_succ])
  refine run_run (by rfl) (fun K hK => ?_)
  go_simp
  refine (same_ok w5 (xP8.out.keep HB5.out.size HB5.out.block).src (yP8.out.keep HB5.out.size HB5.out.block).src).mono ?_
  rintro e w6 ⟨rfl, hw⟩
  rw [hw]
  clear hw
  rw [decide_eq_true rfl]
  refine hK _ _ (hSk _ HB5.out) ?_
  clear hK K
  try simp only [Act.put, List.setIfInBounds_toArray, List.set_cons_zero, List.set_cons_succ]
  (refine run_pure (by rfl) ?_; apply Exists.intro; refine ⟨fun w' hS => ?_, ?_⟩; (· (clear hS; first | (go_simp; done) | (go_simp; with_reducible rfl))); simp only [Act.put, List.setIfInBounds_toArray, List.set_cons_zero, List.set_cons_succ])
  (refine run_pure (by rfl) ?_; apply Exists.intro; refine ⟨fun w' hS => ?_, ?_⟩; (· (clear hS; first | (go_simp; done) | (go_simp; with_reducible rfl))); simp only [Act.put, List.setIfInBounds_toArray, List.set_cons_zero, List.set_cons_succ])
  (refine run_pure (by rfl) ?_; apply Exists.intro; refine ⟨fun w' hS => ?_, ?_⟩; (· (clear hS; first | (go_simp; done) | (go_simp; with_reducible rfl))); simp only [Act.put, List.setIfInBounds_toArray, List.set_cons_zero, List.set_cons_succ])
  (refine run_pure (by rfl) ?_; apply Exists.intro; refine ⟨fun w' hS => ?_, ?_⟩; (· (have hc := hS.2.2.2.2.2.2.2.2.2.2.2.2.2.2.2.2.2.2.2.2.1; clear hS; first | (go_simp; done) | (go_simp; with_reducible rfl))); simp only [Act.put, List.setIfInBounds_toArray, List.set_cons_zero, List.set_cons_succ])
  (refine run_pure (by rfl) ?_; apply Exists.intro; refine ⟨fun w' hS => ?_, ?_⟩; (· (clear hS; first | (go_simp; done) | (go_simp; with_reducible rfl))); simp only [Act.put, List.setIfInBounds_toArray, List.set_cons_zero, List.set_cons_succ])
  (refine run_pure (by rfl) ?_; apply Exists.intro; refine ⟨fun w' hS => ?_, ?_⟩; (· (have hc := hS.2.2.2.2.2.2.2.2.2.2.2.2.2.2.2.2.2.2.2.2.2.1; clear hS; first | (go_simp; done) | (go_simp; with_reducible rfl))); simp only [Act.put, List.setIfInBounds_toArray, List.set_cons_zero, List.set_cons_succ])
  (refine run_pure (by rfl) ?_; apply Exists.intro; refine ⟨fun w' hS => ?_, ?_⟩; (· (clear hS; first | (go_simp; done) | (go_simp; with_reducible rfl))); simp only [Act.put, List.setIfInBounds_toArray, List.set_cons_zero, List.set_cons_succ])
  (refine run_pure (by rfl) ?_; apply Exists.intro; refine ⟨fun w' hS => ?_, ?_⟩; (· (clear hS; first | (go_simp; done) | (go_simp; with_reducible rfl))); simp only [Act.put, List.setIfInBounds_toArray, List.set_cons_zero, List.set_cons_succ])
  (refine run_pure (by rfl) ?_; apply Exists.intro; refine ⟨fun w' hS => ?_, ?_⟩; (· (clear hS; first | (go_simp; done) | (go_simp; with_reducible rfl))); simp only [Act.put, List.setIfInBounds_toArray, List.set_cons_zero, List.set_cons_succ])
  (refine run_pure (by rfl) ?_; apply Exists.intro; refine ⟨fun w' hS => ?_, ?_⟩; (· (clear hS; first | (go_simp; done) | (go_simp; with_reducible rfl))); simp only [Act.put, List.setIfInBounds_toArray, List.set_cons_zero, List.set_cons_succ])
  (refine run_pure (by rfl) ?_; apply Exists.intro; refine ⟨fun w' hS => ?_, ?_⟩; (· (have hc := hS.2.2.2.2.2.2.2.2.2.2.2.2.2.2.2.2.2.2.2.2.2.2.1; clear hS; first | (go_simp; done) | (go_simp; with_reducible rfl))); simp only [Act.put, List.setIfInBounds_toArray, List.set_cons_zero, List.set_cons_succ])
  (refine run_pure (by rfl) ?_; apply Exists.intro; refine ⟨fun w' hS => ?_, ?_⟩; (· (clear hS; first | (go_simp; done) | (go_simp; with_reducible rfl))); simp only [Act.put, List.setIfInBounds_toArray, List.set_cons_zero, List.set_cons_succ])
  (refine run_pure (by rfl) ?_; apply Exists.intro; refine ⟨fun w' hS => ?_, ?_⟩; (· (have hc := hS.2.2.2.2.2.2.2.2.2.2.2.2.2.2.2.2.2.2.2.2.2.2.2.1; clear hS; first | (go_simp; done) | (go_simp; with_reducible rfl))); simp only [Act.put, List.setIfInBounds_toArray, List.set_cons_zero, List.set_cons_succ])
  refine run_run (by rfl) (fun K hK => ?_)
  go_simp
  refine (same_ok w5 (xP10.out.keep HB5.out.size HB5.out.block).src (yP10.out.keep HB5.out.size HB5.out.block).src).mono ?_
  rintro e w7 ⟨rfl, hw⟩
  rw [hw]
  clear hw
  rw [decide_eq_true rfl]
  refine hK _ _ (hSk _ HB5.out) ?_
  clear hK K
  try simp only [Act.put, List.setIfInBounds_toArray, List.set_cons_zero, List.set_cons_succ]
  (refine run_pure (by rfl) ?_; apply Exists.intro; refine ⟨fun w' hS => ?_, ?_⟩; (· (clear hS; first | (go_simp; done) | (go_simp; with_reducible rfl))); simp only [Act.put, List.setIfInBounds_toArray, List.set_cons_zero, List.set_cons_succ])
  (refine run_pure (by rfl) ?_; apply Exists.intro; refine ⟨fun w' hS => ?_, ?_⟩; (· (clear hS; first | (go_simp; done) | (go_simp; with_reducible rfl))); simp only [Act.put, List.setIfInBounds_toArray, List.set_cons_zero, List.set_cons_succ])
  (refine run_pure (by rfl) ?_; apply Exists.intro; refine ⟨fun w' hS => ?_, ?_⟩; (· (clear hS; first | (go_simp; done) | (go_simp; with_reducible rfl))); simp only [Act.put, List.setIfInBounds_toArray, List.set_cons_zero, List.set_cons_succ])
  (refine run_pure (by rfl) ?_; apply Exists.intro; refine ⟨fun w' hS => ?_, ?_⟩; (· (have hc := hS.2.2.2.2.2.2.2.2.2.2.2.2.2.2.2.2.2.2.2.2.2.2.2.2.1; clear hS; first | (go_simp; done) | (go_simp; with_reducible rfl))); simp only [Act.put, List.setIfInBounds_toArray, List.set_cons_zero, List.set_cons_succ])
  (refine run_pure (by rfl) ?_; apply Exists.intro; refine ⟨fun w' hS => ?_, ?_⟩; (· (clear hS; first | (go_simp; done) | (go_simp; with_reducible rfl))); simp only [Act.put, List.setIfInBounds_toArray, List.set_cons_zero, List.set_cons_succ])
  (refine run_pure (by rfl) ?_; apply Exists.intro; refine ⟨fun w' hS => ?_, ?_⟩; (· (have hc := hS.2.2.2.2.2.2.2.2.2.2.2.2.2.2.2.2.2.2.2.2.2.2.2.2.2.1; clear hS; first | (go_simp; done) | (go_simp; with_reducible rfl))); simp only [Act.put, List.setIfInBounds_toArray, List.set_cons_zero, List.set_cons_succ])
  refine run_run (by rfl) (fun K hK => ?_)
  go_simp
  refine (sameWords_ok w5 (xP11.out.keep HB5.out.size HB5.out.block) (yP11.out.keep HB5.out.size HB5.out.block) m3 f3).mono ?_
  rintro e w8 ⟨rfl, hb⟩
  have HB8 : Hid (Below W.heap.size W w8) := Lib.hid (HB5.out.trans (hb.mono HB5.out.size))
  refine hK _ _ (hSk _ HB8.out) ?_
  clear hK K hb
  try simp only [Act.put, List.setIfInBounds_toArray, List.set_cons_zero, List.set_cons_succ]
  (refine run_pure (by rfl) ?_; apply Exists.intro; refine ⟨fun w' hS => ?_, ?_⟩; (· (clear hS; first | (go_simp; done) | (go_simp; with_reducible rfl))); simp only [Act.put, List.setIfInBounds_toArray, List.set_cons_zero, List.set_cons_succ])
  (refine run_pure (by rfl) ?_; apply Exists.intro; refine ⟨fun w' hS => ?_, ?_⟩; (· (clear hS; first | (go_simp; done) | (go_simp; with_reducible rfl))); simp only [Act.put, List.setIfInBounds_toArray, List.set_cons_zero, List.set_cons_succ])
  (refine run_pure (by rfl) ?_; apply Exists.intro; refine ⟨fun w' hS => ?_, ?_⟩; (· (clear hS; first | (go_simp; done) | (go_simp; with_reducible rfl))); simp only [Act.put, List.setIfInBounds_toArray, List.set_cons_zero, List.set_cons_succ])
  (refine run_pure (by rfl) ?_; apply Exists.intro; refine ⟨fun w' hS => ?_, ?_⟩; (· (have hc := hS.2.2.2.2.2.2.2.2.2.2.2.2.2.2.2.2.2.2.2.2.2.2.2.2.2.2.1; clear hS; first | (go_simp; done) | (go_simp; with_reducible rfl))); simp only [Act.put, List.setIfInBounds_toArray, List.set_cons_zero, List.set_cons_succ])
  (refine run_pure (by rfl) ?_; apply Exists.intro; refine ⟨fun w' hS => ?_, ?_⟩; (· (clear hS; first | (go_simp; done) | (go_simp; with_reducible rfl))); simp only [Act.put, List.setIfInBounds_toArray, List.set_cons_zero, List.set_cons_succ])
  (refine run_pure (by rfl) ?_; apply Exists.intro; refine ⟨fun w' hS => ?_, ?_⟩; (· (have hc := hS.2.2.2.2.2.2.2.2.2.2.2.2.2.2.2.2.2.2.2.2.2.2.2.2.2.2.2.1; clear hS; first | (go_simp; done) | (go_simp; with_reducible rfl))); simp only [Act.put, List.setIfInBounds_toArray, List.set_cons_zero, List.set_cons_succ])
  refine run_run (by rfl) (fun K hK => ?_)
  go_simp
  refine (sameWords_ok w8 (xP12.out.keep HB8.out.size HB8.out.block) (yP12.out.keep HB8.out.size HB8.out.block) m4 f4).mono ?_
  rintro e w9 ⟨rfl, hb⟩
  have HB9 : Hid (Below W.heap.size W w9) := Lib.hid (HB8.out.trans (hb.mono HB8.out.size))
  refine hK _ _ (hSk _ HB9.out) ?_
  clear hK K hb
  try simp only [Act.put, List.setIfInBounds_toArray, List.set_cons_zero, List.set_cons_succ]
  (refine run_pure (by rfl) ?_; apply Exists.intro; refine ⟨fun w' hS => ?_, ?_⟩; (· (clear hS; first | (go_simp; done) | (go_simp; with_reducible rfl))); simp only [Act.put, List.setIfInBounds_toArray, List.set_cons_zero, List.set_cons_succ])
  (refine run_pure (by rfl) ?_; apply Exists.intro; refine ⟨fun w' hS => ?_, ?_⟩; (· (clear hS; first | (go_simp; done) | (go_simp; with_reducible rfl))); simp only [Act.put, List.setIfInBounds_toArray, List.set_cons_zero, List.set_cons_succ])
  (refine run_pure (by rfl) ?_; apply Exists.intro; refine ⟨fun w' hS => ?_, ?_⟩; (· (clear hS; first | (go_simp; done) | (go_simp; with_reducible rfl))); simp only [Act.put, List.setIfInBounds_toArray, List.set_cons_zero, List.set_cons_succ])
  (refine run_pure (by rfl) ?_; apply Exists.intro; refine ⟨fun w' hS => ?_, ?_⟩; (· (have hc := hS.2.2.2.2.2.2.2.2.2.2.2.2.2.2.2.2.2.2.2.2.2.2.2.2.2.2.2.2.1; clear hS; first | (go_simp; done) | (go_simp; with_reducible rfl))); simp only [Act.put, List.setIfInBounds_toArray, List.set_cons_zero, List.set_cons_succ])
  (refine run_pure (by rfl) ?_; apply Exists.intro; refine ⟨fun w' hS => ?_, ?_⟩; (· (clear hS; first | (go_simp; done) | (go_simp; with_reducible rfl))); simp only [Act.put, List.setIfInBounds_toArray, List.set_cons_zero, List.set_cons_succ])
  (refine run_pure (by rfl) ?_; apply Exists.intro; refine ⟨fun w' hS => ?_, ?_⟩; (· (have hc := hS.2.2.2.2.2.2.2.2.2.2.2.2.2.2.2.2.2.2.2.2.2.2.2.2.2.2.2.2.2.1; clear hS; first | (go_simp; done) | (go_simp; with_reducible rfl))); simp only [Act.put, List.setIfInBounds_toArray, List.set_cons_zero, List.set_cons_succ])
  (refine run_pure (by rfl) ?_; apply Exists.intro; refine ⟨fun w' hS => ?_, ?_⟩; (· (clear hS; first | (go_simp; done) | (go_simp; with_reducible rfl))); simp only [Act.put, List.setIfInBounds_toArray, List.set_cons_zero, List.set_cons_succ])
  (refine run_pure (by rfl) ?_; apply Exists.intro; refine ⟨fun w' hS => ?_, ?_⟩; (· (clear hS; first | (go_simp; done) | (go_simp; with_reducible rfl))); simp only [Act.put, List.setIfInBounds_toArray, List.set_cons_zero, List.set_cons_succ])
  (refine run_pure (by rfl) ?_; apply Exists.intro; refine ⟨fun w' hS => ?_, ?_⟩; (· (clear hS; first | (go_simp; done) | (go_simp; with_reducible rfl))); simp only [Act.put, List.setIfInBounds_toArray, List.set_cons_zero, List.set_cons_succ])
  (refine run_pure (by rfl) ?_; apply Exists.intro; refine ⟨fun w' hS => ?_, ?_⟩; (· (clear hS; first | (go_simp; done) | (go_simp; with_reducible rfl))); simp only [Act.put, List.setIfInBounds_toArray, List.set_cons_zero, List.set_cons_succ])
  (refine run_pure (by rfl) ?_; apply Exists.intro; refine ⟨fun w' hS => ?_, ?_⟩; (· (have hc := hS.2.2.2.2.2.2.2.2.2.2.2.2.2.2.2.2.2.2.2.2.2.2.2.2.2.2.2.2.2.2.1; clear hS; first | (go_simp; done) | (go_simp; with_reducible rfl))); simp only [Act.put, List.setIfInBounds_toArray, List.set_cons_zero, List.set_cons_succ])
  (refine run_pure (by rfl) ?_; apply Exists.intro; refine ⟨fun w' hS => ?_, ?_⟩; (· (clear hS; first | (go_simp; done) | (go_simp; with_reducible rfl))); simp only [Act.put, List.setIfInBounds_toArray, List.set_cons_zero, List.set_cons_succ])
  (refine run_pure (by rfl) ?_; apply Exists.intro; refine ⟨fun w' hS => ?_, ?_⟩; (· (have hc := hS.2.2.2.2.2.2.2.2.2.2.2.2.2.2.2.2.2.2.2.2.2.2.2.2.2.2.2.2.2.2.2.1; clear hS; first | (go_simp; done) | (go_simp; with_reducible rfl))); simp only [Act.put, List.setIfInBounds_toArray, List.set_cons_zero, List.set_cons_succ])
  refine run_run (by rfl) (fun K hK => ?_)
  go_simp
  refine (same_ok w9 (xP14.out.keep HB9.out.size HB9.out.block).src (yP14.out.keep HB9.out.size HB9.out.block).src).mono ?_
  rintro e w10 ⟨rfl, hw⟩
  rw [hw]
  clear hw
  rw [decide_eq_true rfl]
  refine hK _ _ (hSk _ HB9.out) ?_
  clear hK K
  try simp only [Act.put, List.setIfInBounds_toArray, List.set_cons_zero, List.set_cons_succ]
  (refine run_pure (by rfl) ?_; apply Exists.intro; refine ⟨fun w' hS => ?_, ?_⟩; (· (clear hS; first | (go_simp; done) | (go_simp; with_reducible rfl))); simp only [Act.put, List.setIfInBounds_toArray, List.set_cons_zero, List.set_cons_succ])
  (refine run_pure (by rfl) ?_; apply Exists.intro; refine ⟨fun w' hS => ?_, ?_⟩; (· (clear hS; first | (go_simp; done) | (go_simp; with_reducible rfl))); simp only [Act.put, List.setIfInBounds_toArray, List.set_cons_zero, List.set_cons_succ])
  (refine run_pure (by rfl) ?_; apply Exists.intro; refine ⟨fun w' hS => ?_, ?_⟩; (· (clear hS; first | (go_simp; done) | (go_simp; with_reducible rfl))); simp only [Act.put, List.setIfInBounds_toArray, List.set_cons_zero, List.set_cons_succ])
  (refine run_pure (by rfl) ?_; apply Exists.intro; refine ⟨fun w' hS => ?_, ?_⟩; (· (have hc := hS.2.2.2.2.2.2.2.2.2.2.2.2.2.2.2.2.2.2.2.2.2.2.2.2.2.2.2.2.2.2.2.2.1; clear hS; first | (go_simp; done) | (go_simp; with_reducible rfl))); simp only [Act.put, List.setIfInBounds_toArray, List.set_cons_zero, List.set_cons_succ])
  (refine run_pure (by rfl) ?_; apply Exists.intro; refine ⟨fun w' hS => ?_, ?_⟩; (· (clear hS; first | (go_simp; done) | (go_simp; with_reducible rfl))); simp only [Act.put, List.setIfInBounds_toArray, List.set_cons_zero, List.set_cons_succ])
  (refine run_pure (by rfl) ?_; apply Exists.intro; refine ⟨fun w' hS => ?_, ?_⟩; (· (have hc := hS.2.2.2.2.2.2.2.2.2.2.2.2.2.2.2.2.2.2.2.2.2.2.2.2.2.2.2.2.2.2.2.2.2.1; clear hS; first | (go_simp; done) | (go_simp; with_reducible rfl))); simp only [Act.put, List.setIfInBounds_toArray, List.set_cons_zero, List.set_cons_succ])
  (refine run_pure (by rfl) ?_; apply Exists.intro; refine ⟨fun w' hS => ?_, ?_⟩; (· (clear hS; first | (go_simp; done) | (go_simp; with_reducible rfl))); simp only [Act.put, List.setIfInBounds_toArray, List.set_cons_zero, List.set_cons_succ])
  (refine run_pure (by rfl) ?_; apply Exists.intro; refine ⟨fun w' hS => ?_, ?_⟩; (· (clear hS; first | (go_simp; done) | (go_simp; with_reducible rfl))); simp only [Act.put, List.setIfInBounds_toArray, List.set_cons_zero, List.set_cons_succ])
  (refine run_pure (by rfl) ?_; apply Exists.intro; refine ⟨fun w' hS => ?_, ?_⟩; (· (clear hS; first | (go_simp; done) | (go_simp; with_reducible rfl))); simp only [Act.put, List.setIfInBounds_toArray, List.set_cons_zero, List.set_cons_succ])
  (refine run_pure (by rfl) ?_; apply Exists.intro; refine ⟨fun w' hS => ?_, ?_⟩; (· (clear hS; first | (go_simp; done) | (go_simp; with_reducible rfl))); simp only [Act.put, List.setIfInBounds_toArray, List.set_cons_zero, List.set_cons_succ])
  (refine run_pure (by rfl) ?_; apply Exists.intro; refine ⟨fun w' hS => ?_, ?_⟩; (· (have hc := hS.2.2.2.2.2.2.2.2.2.2.2.2.2.2.2.2.2.2.2.2.2.2.2.2.2.2.2.2.2.2.2.2.2.2.1; clear hS; first | (go_simp; done) | (go_simp; with_reducible rfl))); simp only [Act.put, List.setIfInBounds_toArray, List.set_cons_zero, List.set_cons_succ])
  show wpOrd _ _ _ _ _ _ _
  simp only [List.cons_append, List.nil_append]
  (refine wpOrd_pureG rfl (by rfl) ?_; apply Exists.intro; refine ⟨fun w' hS => ?_, ?_⟩; (· (clear hS; first | (go_simp; done) | (go_simp; with_reducible rfl))); simp only [List.getElem_toArray, List.getElem_cons_succ, List.getElem_cons_zero, Act.put, List.setIfInBounds_toArray, List.set_cons_zero, List.set_cons_succ])
  (refine wpOrd_pureG rfl (by rfl) ?_; apply Exists.intro; refine ⟨fun w' hS => ?_, ?_⟩; (· (have hc := hS.2.2.2.2.2.2.2.2.2.2.2.2.2.2.2.2.2.2.2.2.2.2.2.2.2.2.2.2.2.2.2.2.2.2.2.1; clear hS; first | (go_simp; done) | (go_simp; with_reducible rfl))); simp only [List.getElem_toArray, List.getElem_cons_succ, List.getElem_cons_zero, Act.put, List.setIfInBounds_toArray, List.set_cons_zero, List.set_cons_succ])
  refine wpOrd_runG rfl (by rfl) (fun K hK => ?_)
  go_simp
  refine (octets_ok w9 (xP16.out.keep HB9.out.size HB9.out.block) m5).mono ?_
  rintro e w11 ⟨o11, rfl, ho11, hfo⟩
  obtain ⟨ao11, co11, rfl, _⟩ := ho11.len
  have hb := fs_bel hfo (by simp)
  have LO11 := Lib.hid ho11
  clear ho11 hfo
  have HB11 : Hid (Below W.heap.size W w11) := Lib.hid (HB9.out.trans (hb.mono HB9.out.size))
  refine hK _ _ (hSk _ HB11.out) ?_
  clear hK K hb
  try simp only [List.getElem_toArray, List.getElem_cons_succ, List.getElem_cons_zero, Act.put, List.setIfInBounds_toArray, List.set_cons_zero, List.set_cons_succ]
  refine wpOrd_drop 116 79 smF2 (by rfl) rfl ?_
  simp only [List.drop_succ_cons, List.drop_zero]
  unfold smF2
  refine run_run (by rfl) (fun K hK => ?_)
  go_simp
  refine (octets_ok w11 (yP16.out.keep HB11.out.size HB11.out.block) m5).mono ?_
  rintro e w12 ⟨o12, rfl, ho12, hfo⟩
  obtain ⟨ao12, co12, rfl, _⟩ := ho12.len
  have hb := fs_bel hfo (by simp)
  have LO12 := Lib.hid ho12
  clear ho12 hfo
  have LO11 := Lib.hid (LO11.out.keep hb.size hb.block)
  have HB12 : Hid (Below W.heap.size W w12) := Lib.hid (HB11.out.trans (hb.mono HB11.out.size))
  refine hK _ _ (hSk _ HB12.out) ?_
  clear hK K hb
  try simp only [Act.put, List.setIfInBounds_toArray, List.set_cons_zero, List.set_cons_succ]
  refine run_run (by rfl) (fun K hK => ?_)
  go_simp
  refine (sameL_ok w12 LO11.out LO12.out m5).mono ?_
  rintro e w13 ⟨rfl, hw⟩
  rw [hw]
  clear hw
  refine hK _ _ (hSk _ HB12.out) ?_
  clear hK K
  try simp only [Act.put, List.setIfInBounds_toArray, List.set_cons_zero, List.set_cons_succ]
  (refine run_pure (by rfl) ?_; apply Exists.intro; refine ⟨fun w' hS => ?_, ?_⟩; (· (clear hS; first | (go_simp; done) | (go_simp; with_reducible rfl))); simp only [Act.put, List.setIfInBounds_toArray, List.set_cons_zero, List.set_cons_succ])
  (refine run_pure (by rfl) ?_; apply Exists.intro; refine ⟨fun w' hS => ?_, ?_⟩; (· (clear hS; first | (go_simp; done) | (go_simp; with_reducible rfl))); simp only [Act.put, List.setIfInBounds_toArray, List.set_cons_zero, List.set_cons_succ])
  (refine run_pure (by rfl) ?_; apply Exists.intro; refine ⟨fun w' hS => ?_, ?_⟩; (· (clear hS; first | (go_simp; done) | (go_simp; with_reducible rfl))); simp only [Act.put, List.setIfInBounds_toArray, List.set_cons_zero, List.set_cons_succ])
  (refine run_pure (by rfl) ?_; apply Exists.intro; refine ⟨fun w' hS => ?_, ?_⟩; (· (have hc := hS.2.2.2.2.2.2.2.2.2.2.2.2.2.2.2.2.2.2.2.2.2.2.2.2.2.2.2.2.2.2.2.2.2.2.2.2.1; clear hS; first | (go_simp; done) | (go_simp; with_reducible rfl))); simp only [Act.put, List.setIfInBounds_toArray, List.set_cons_zero, List.set_cons_succ])
  (refine run_pure (by rfl) ?_; apply Exists.intro; refine ⟨fun w' hS => ?_, ?_⟩; (· (clear hS; first | (go_simp; done) | (go_simp; with_reducible rfl))); simp only [Act.put, List.setIfInBounds_toArray, List.set_cons_zero, List.set_cons_succ])
  (refine run_pure (by rfl) ?_; apply Exists.intro; refine ⟨fun w' hS => ?_, ?_⟩; (· (have hc := hS.2.2.2.2.2.2.2.2.2.2.2.2.2.2.2.2.2.2.2.2.2.2.2.2.2.2.2.2.2.2.2.2.2.2.2.2.2.1; clear hS; first | (go_simp; done) | (go_simp; with_reducible rfl))); simp only [Act.put, List.setIfInBounds_toArray, List.set_cons_zero, List.set_cons_succ])
  (refine run_pure (by rfl) ?_; apply Exists.intro; refine ⟨fun w' hS => ?_, ?_⟩; (· (clear hS; first | (go_simp; done) | (go_simp; with_reducible rfl))); simp only [Act.put, List.setIfInBounds_toArray, List.set_cons_zero, List.set_cons_succ])
  (refine run_pure (by rfl) ?_; apply Exists.intro; refine ⟨fun w' hS => ?_, ?_⟩; (· (clear hS; first | (go_simp; done) | (go_simp; with_reducible rfl))); simp only [Act.put, List.setIfInBounds_toArray, List.set_cons_zero, List.set_cons_succ])
  (refine run_pure (by rfl) ?_; apply Exists.intro; refine ⟨fun w' hS => ?_, ?_⟩; (· (clear hS; first | (go_simp; done) | (go_simp; with_reducible rfl))); simp only [Act.put, List.setIfInBounds_toArray, List.set_cons_zero, List.set_cons_succ])
  (refine run_pure (by rfl) ?_; apply Exists.intro; refine ⟨fun w' hS => ?_, ?_⟩; (· (clear hS; first | (go_simp; done) | (go_simp; with_reducible rfl))); simp only [Act.put, List.setIfInBounds_toArray, List.set_cons_zero, List.set_cons_succ])
  (refine run_pure (by rfl) ?_; apply Exists.intro; refine ⟨fun w' hS => ?_, ?_⟩; (· (have hc := hS.2.2.2.2.2.2.2.2.2.2.2.2.2.2.2.2.2.2.2.2.2.2.2.2.2.2.2.2.2.2.2.2.2.2.2.2.2.2.1; clear hS; first | (go_simp; done) | (go_simp; with_reducible rfl))); simp only [Act.put, List.setIfInBounds_toArray, List.set_cons_zero, List.set_cons_succ])
  (refine run_pure (by rfl) ?_; apply Exists.intro; refine ⟨fun w' hS => ?_, ?_⟩; (· (clear hS; first | (go_simp; done) | (go_simp; with_reducible rfl))); simp only [Act.put, List.setIfInBounds_toArray, List.set_cons_zero, List.set_cons_succ])
  (refine run_pure (by rfl) ?_; apply Exists.intro; refine ⟨fun w' hS => ?_, ?_⟩; (· (have hc := hS.2.2.2.2.2.2.2.2.2.2.2.2.2.2.2.2.2.2.2.2.2.2.2.2.2.2.2.2.2.2.2.2.2.2.2.2.2.2.2.1; clear hS; first | (go_simp; done) | (go_simp; with_reducible rfl))); simp only [Act.put, List.setIfInBounds_toArray, List.set_cons_zero, List.set_cons_succ])
  refine run_run (by rfl) (fun K hK => ?_)
  go_simp
  refine (sameWords_ok w12 (xP18.out.keep HB12.out.size HB12.out.block) (yP18.out.keep HB12.out.size HB12.out.block) m6 f5).mono ?_
  rintro e w14 ⟨rfl, hb⟩
  have HB14 : Hid (Below W.heap.size W w14) := Lib.hid (HB12.out.trans (hb.mono HB12.out.size))
  refine hK _ _ (hSk _ HB14.out) ?_
  clear hK K hb
  try simp only [Act.put, List.setIfInBounds_toArray, List.set_cons_zero, List.set_cons_succ]
  (refine run_pure (by rfl) ?_; apply Exists.intro; refine ⟨fun w' hS => ?_, ?_⟩; (· (clear hS; first | (go_simp; done) | (go_simp; with_reducible rfl))); simp only [Act.put, List.setIfInBounds_toArray, List.set_cons_zero, List.set_cons_succ])
  (refine run_pure (by rfl) ?_; apply Exists.intro; refine ⟨fun w' hS => ?_, ?_⟩; (· (clear hS; first | (go_simp; done) | (go_simp; with_reducible rfl))); simp only [Act.put, List.setIfInBounds_toArray, List.set_cons_zero, List.set_cons_succ])
  (refine run_pure (by rfl) ?_; apply Exists.intro; refine ⟨fun w' hS => ?_, ?_⟩; (· (clear hS; first | (go_simp; done) | (go_simp; with_reducible rfl))); simp only [Act.put, List.setIfInBounds_toArray, List.set_cons_zero, List.set_cons_succ])
  (refine run_pure (by rfl) ?_; apply Exists.intro; refine ⟨fun w' hS => ?_, ?_⟩; (· (have hc := hS.2.2.2.2.2.2.2.2.2.2.2.2.2.2.2.2.2.2.2.2.2.2.2.2.2.2.2.2.2.2.2.2.2.2.2.2.2.2.2.2.1; clear hS; first | (go_simp; done) | (go_simp; with_reducible rfl))); simp only [Act.put, List.setIfInBounds_toArray, List.set_cons_zero, List.set_cons_succ])
  (refine run_pure (by rfl) ?_; apply Exists.intro; refine ⟨fun w' hS => ?_, ?_⟩; (· (clear hS; first | (go_simp; done) | (go_simp; with_reducible rfl))); simp only [Act.put, List.setIfInBounds_toArray, List.set_cons_zero, List.set_cons_succ])
  (refine run_pure (by rfl) ?_; apply Exists.intro; refine ⟨fun w' hS => ?_, ?_⟩; (· (have hc := hS.2.2.2.2.2.2.2.2.2.2.2.2.2.2.2.2.2.2.2.2.2.2.2.2.2.2.2.2.2.2.2.2.2.2.2.2.2.2.2.2.2.1; clear hS; first | (go_simp; done) | (go_simp; with_reducible rfl))); simp only [Act.put, List.setIfInBounds_toArray, List.set_cons_zero, List.set_cons_succ])
  refine run_run (by rfl) (fun K hK => ?_)
  go_simp
  refine (same_ok w14 (xP19.out.keep HB14.out.size HB14.out.block).src (yP19.out.keep HB14.out.size HB14.out.block).src).mono ?_
  rintro e w15 ⟨rfl, hw⟩
  rw [hw]
  clear hw
  rw [decide_eq_true rfl]
  refine hK _ _ (hSk _ HB14.out) ?_
  clear hK K
  try simp only [Act.put, List.setIfInBounds_toArray, List.set_cons_zero, List.set_cons_succ]
  (refine run_pure (by rfl) ?_; apply Exists.intro; refine ⟨fun w' hS => ?_, ?_⟩; (· (clear hS; first | (go_simp; done) | (go_simp; with_reducible rfl))); simp only [Act.put, List.setIfInBounds_toArray, List.set_cons_zero, List.set_cons_succ])
  (refine run_pure (by rfl) ?_; apply Exists.intro; refine ⟨fun w' hS => ?_, ?_⟩; (· (clear hS; first | (go_simp; done) | (go_simp; with_reducible rfl))); simp only [Act.put, List.setIfInBounds_toArray, List.set_cons_zero, List.set_cons_succ])
  (refine run_pure (by rfl) ?_; apply Exists.intro; refine ⟨fun w' hS => ?_, ?_⟩; (· (clear hS; first | (go_simp; done) | (go_simp; with_reducible rfl))); simp only [Act.put, List.setIfInBounds_toArray, List.set_cons_zero, List.set_cons_succ])
  (refine run_pure (by rfl) ?_; apply Exists.intro; refine ⟨fun w' hS => ?_, ?_⟩; (· (have hc := hS.2.2.2.2.2.2.2.2.2.2.2.2.2.2.2.2.2.2.2.2.2.2.2.2.2.2.2.2.2.2.2.2.2.2.2.2.2.2.2.2.2.2.1; clear hS; first | (go_simp; done) | (go_simp; with_reducible rfl))); simp only [Act.put, List.setIfInBounds_toArray, List.set_cons_zero, List.set_cons_succ])
  (refine run_pure (by rfl) ?_; apply Exists.intro; refine ⟨fun w' hS => ?_, ?_⟩; (· (clear hS; first | (go_simp; done) | (go_simp; with_reducible rfl))); simp only [Act.put, List.setIfInBounds_toArray, List.set_cons_zero, List.set_cons_succ])
  (refine run_pure (by rfl) ?_; apply Exists.intro; refine ⟨fun w' hS => ?_, ?_⟩; (· (have hc := hS.2.2.2.2.2.2.2.2.2.2.2.2.2.2.2.2.2.2.2.2.2.2.2.2.2.2.2.2.2.2.2.2.2.2.2.2.2.2.2.2.2.2.2.1; clear hS; first | (go_simp; done) | (go_simp; with_reducible rfl))); simp only [Act.put, List.setIfInBounds_toArray, List.set_cons_zero, List.set_cons_succ])
  refine run_run (by rfl) (fun K hK => ?_)
  go_simp
  refine (sameWords_ok w14 (xP20.out.keep HB14.out.size HB14.out.block) (yP20.out.keep HB14.out.size HB14.out.block) (by rw [List.length_map]; exact m7) (by intro n hn; obtain ⟨y, hy, rfl⟩ := List.mem_map.1 hn; exact f6 y hy)).mono ?_
  rintro e w16 ⟨rfl, hb⟩
  have HB16 : Hid (Below W.heap.size W w16) := Lib.hid (HB14.out.trans (hb.mono HB14.out.size))
  refine hK _ _ (hSk _ HB16.out) ?_
  clear hK K hb
  try simp only [Act.put, List.setIfInBounds_toArray, List.set_cons_zero, List.set_cons_succ]
  (refine run_pure (by rfl) ?_; apply Exists.intro; refine ⟨fun w' hS => ?_, ?_⟩; (· (clear hS; first | (go_simp; done) | (go_simp; with_reducible rfl))); simp only [Act.put, List.setIfInBounds_toArray, List.set_cons_zero, List.set_cons_succ])
  (refine run_pure (by rfl) ?_; apply Exists.intro; refine ⟨fun w' hS => ?_, ?_⟩; (· (clear hS; first | (go_simp; done) | (go_simp; with_reducible rfl))); simp only [Act.put, List.setIfInBounds_toArray, List.set_cons_zero, List.set_cons_succ])
  (refine run_pure (by rfl) ?_; apply Exists.intro; refine ⟨fun w' hS => ?_, ?_⟩; (· (clear hS; first | (go_simp; done) | (go_simp; with_reducible rfl))); simp only [Act.put, List.setIfInBounds_toArray, List.set_cons_zero, List.set_cons_succ])
  (refine run_pure (by rfl) ?_; apply Exists.intro; refine ⟨fun w' hS => ?_, ?_⟩; (· (have hc := hS.2.2.2.2.2.2.2.2.2.2.2.2.2.2.2.2.2.2.2.2.2.2.2.2.2.2.2.2.2.2.2.2.2.2.2.2.2.2.2.2.2.2.2.2.1; clear hS; first | (go_simp; done) | (go_simp; with_reducible rfl))); simp only [Act.put, List.setIfInBounds_toArray, List.set_cons_zero, List.set_cons_succ])
  (refine run_pure (by rfl) ?_; apply Exists.intro; refine ⟨fun w' hS => ?_, ?_⟩; (· (clear hS; first | (go_simp; done) | (go_simp; with_reducible rfl))); simp only [Act.put, List.setIfInBounds_toArray, List.set_cons_zero, List.set_cons_succ])
  (refine run_pure (by rfl) ?_; apply Exists.intro; refine ⟨fun w' hS => ?_, ?_⟩; (· (have hc := hS.2.2.2.2.2.2.2.2.2.2.2.2.2.2.2.2.2.2.2.2.2.2.2.2.2.2.2.2.2.2.2.2.2.2.2.2.2.2.2.2.2.2.2.2.2.1; clear hS; first | (go_simp; done) | (go_simp; with_reducible rfl))); simp only [Act.put, List.setIfInBounds_toArray, List.set_cons_zero, List.set_cons_succ])
  refine run_run (by rfl) (fun K hK => ?_)
  go_simp
  refine (sameL_ok w16 (xP21.out.keep HB16.out.size HB16.out.block).lst (yP21.out.keep HB16.out.size HB16.out.block).lst (by rw [List.length_map]; exact m7)).mono ?_
  rintro e w17 ⟨rfl, hw⟩
  rw [hw]
  clear hw
  refine hK _ _ (hSk _ HB16.out) ?_
  clear hK K
  try simp only [Act.put, List.setIfInBounds_toArray, List.set_cons_zero, List.set_cons_succ]
  (refine run_pure (by rfl) ?_; apply Exists.intro; refine ⟨fun w' hS => ?_, ?_⟩; (· (clear hS; first | (go_simp; done) | (go_simp; with_reducible rfl))); simp only [Act.put, List.setIfInBounds_toArray, List.set_cons_zero, List.set_cons_succ])
  (refine run_pure (by rfl) ?_; apply Exists.intro; refine ⟨fun w' hS => ?_, ?_⟩; (· (clear hS; first | (go_simp; done) | (go_simp; with_reducible rfl))); simp only [Act.put, List.setIfInBounds_toArray, List.set_cons_zero, List.set_cons_succ])
  (refine run_pure (by rfl) ?_; apply Exists.intro; refine ⟨fun w' hS => ?_, ?_⟩; (· (clear hS; first | (go_simp; done) | (go_simp; with_reducible rfl))); simp only [Act.put, List.setIfInBounds_toArray, List.set_cons_zero, List.set_cons_succ])
  (refine run_pure (by rfl) ?_; apply Exists.intro; refine ⟨fun w' hS => ?_, ?_⟩; (· (have hc := hS.2.2.2.2.2.2.2.2.2.2.2.2.2.2.2.2.2.2.2.2.2.2.2.2.2.2.2.2.2.2.2.2.2.2.2.2.2.2.2.2.2.2.2.2.2.2.1; clear hS; first | (go_simp; done) | (go_simp; with_reducible rfl))); simp only [Act.put, List.setIfInBounds_toArray, List.set_cons_zero, List.set_cons_succ])
  (refine run_pure (by rfl) ?_; apply Exists.intro; refine ⟨fun w' hS => ?_, ?_⟩; (· (clear hS; first | (go_simp; done) | (go_simp; with_reducible rfl))); simp only [Act.put, List.setIfInBounds_toArray, List.set_cons_zero, List.set_cons_succ])
  (refine run_pure (by rfl) ?_; apply Exists.intro; refine ⟨fun w' hS => ?_, ?_⟩; (· (have hc := hS.2.2.2.2.2.2.2.2.2.2.2.2.2.2.2.2.2.2.2.2.2.2.2.2.2.2.2.2.2.2.2.2.2.2.2.2.2.2.2.2.2.2.2.2.2.2.2.1; clear hS; first | (go_simp; done) | (go_simp; with_reducible rfl))); simp only [Act.put, List.setIfInBounds_toArray, List.set_cons_zero, List.set_cons_succ])
  (refine run_pure (by rfl) ?_; apply Exists.intro; refine ⟨fun w' hS => ?_, ?_⟩; (· (clear hS; first | (go_simp; done) | (go_simp; with_reducible rfl))); simp only [Act.put, List.setIfInBounds_toArray, List.set_cons_zero, List.set_cons_succ])
  (refine run_pure (by rfl) ?_; apply Exists.intro; refine ⟨fun w' hS => ?_, ?_⟩; (· (clear hS; first | (go_simp; done) | (go_simp; with_reducible rfl))); simp only [Act.put, List.setIfInBounds_toArray, List.set_cons_zero, List.set_cons_succ])
  (refine run_pure (by rfl) ?_; apply Exists.intro; refine ⟨fun w' hS => ?_, ?_⟩; (· (clear hS; first | (go_simp; done) | (go_simp; with_reducible rfl))); simp only [Act.put, List.setIfInBounds_toArray, List.set_cons_zero, List.set_cons_succ])
  (refine run_pure (by rfl) ?_; apply Exists.intro; refine ⟨fun w' hS => ?_, ?_⟩; (· (clear hS; first | (go_simp; done) | (go_simp; with_reducible rfl))); simp only [Act.put, List.setIfInBounds_toArray, List.set_cons_zero, List.set_cons_succ])
  (refine run_pure (by rfl) ?_; apply Exists.intro; refine ⟨fun w' hS => ?_, ?_⟩; (· (have hc := hS.2.2.2.2.2.2.2.2.2.2.2.2.2.2.2.2.2.2.2.2.2.2.2.2.2.2.2.2.2.2.2.2.2.2.2.2.2.2.2.2.2.2.2.2.2.2.2.2.1; clear hS; first | (go_simp; done) | (go_simp; with_reducible rfl))); simp only [Act.put, List.setIfInBounds_toArray, List.set_cons_zero, List.set_cons_succ])
  (refine run_pure (by rfl) ?_; apply Exists.intro; refine ⟨fun w' hS => ?_, ?_⟩; (· (clear hS; first | (go_simp; done) | (go_simp; with_reducible rfl))); simp only [Act.put, List.setIfInBounds_toArray, List.set_cons_zero, List.set_cons_succ])
  (refine run_pure (by rfl) ?_; apply Exists.intro; refine ⟨fun w' hS => ?_, ?_⟩; (· (have hc := hS.2.2.2.2.2.2.2.2.2.2.2.2.2.2.2.2.2.2.2.2.2.2.2.2.2.2.2.2.2.2.2.2.2.2.2.2.2.2.2.2.2.2.2.2.2.2.2.2.2.1; clear hS; first | (go_simp; done) | (go_simp; with_reducible rfl))); simp only [Act.put, List.setIfInBounds_toArray, List.set_cons_zero, List.set_cons_succ])
  refine run_run (by rfl) (fun K hK => ?_)
  go_simp
  refine (same_ok w16 (xP23.out.keep HB16.out.size HB16.out.block).src (yP23.out.keep HB16.out.size HB16.out.block).src).mono ?_
  rintro e w18 ⟨rfl, hw⟩
  rw [hw]
  clear hw
  rw [decide_eq_true rfl]
  refine hK _ _ (hSk _ HB16.out) ?_
  clear hK K
  try simp only [Act.put, List.setIfInBounds_toArray, List.set_cons_zero, List.set_cons_succ]
  (refine run_pure (by rfl) ?_; apply Exists.intro; refine ⟨fun w' hS => ?_, ?_⟩; (· (clear hS; first | (go_simp; done) | (go_simp; with_reducible rfl))); simp only [Act.put, List.setIfInBounds_toArray, List.set_cons_zero, List.set_cons_succ])
  (refine run_pure (by rfl) ?_; apply Exists.intro; refine ⟨fun w' hS => ?_, ?_⟩; (· (clear hS; first | (go_simp; done) | (go_simp; with_reducible rfl))); simp only [Act.put, List.setIfInBounds_toArray, List.set_cons_zero, List.set_cons_succ])
  refine run_pure (by rfl) ?_
  refine ⟨.agg D, fun w' hS => exec_load_row 29 (.tmp 2) rfl p rfl 29 D (0, 0) _ hS.1 Tryz.underlying29 rfl hiD, ?_⟩
  simp only [Act.put, List.setIfInBounds_toArray, List.set_cons_zero, List.set_cons_succ]
  refine run_pure (by rfl) ?_
  refine ⟨.agg E, fun w' hS => exec_load_row 29 (.tmp 3) rfl (p + 1) rfl 29 E (0, 0) _ hS.2.1 Tryz.underlying29 rfl hiE, ?_⟩
  simp only [Act.put, List.setIfInBounds_toArray, List.set_cons_zero, List.set_cons_succ]
  refine run_run (by rfl) (fun K hK => ?_)
  go_simp
  refine (sameKeys_ok w16 (Nat.le_refl _) (DX.out.keep HB16.out.size HB16.out.block) (EX.out.keep HB16.out.size HB16.out.block) ⟨f1, f2, f3, f4, f5, f6, f7, f8⟩ ⟨m1, m2, m3, m4, m5, m6, m7, m8, m9, m10⟩).mono ?_
  rintro e w19 ⟨rfl, hb⟩
  have HB19 : Hid (Below W.heap.size W w19) := Lib.hid (HB16.out.trans (hb.mono HB16.out.size))
  refine hK _ _ (hSk _ HB19.out) ?_
  clear hK K hb
  try simp only [Act.put, List.setIfInBounds_toArray, List.set_cons_zero, List.set_cons_succ]
  (refine run_pure (by rfl) ?_; apply Exists.intro; refine ⟨fun w' hS => ?_, ?_⟩; (· (clear hS; first | (go_simp; done) | (go_simp; with_reducible rfl))); simp only [Act.put, List.setIfInBounds_toArray, List.set_cons_zero, List.set_cons_succ])
  (refine run_pure (by rfl) ?_; apply Exists.intro; refine ⟨fun w' hS => ?_, ?_⟩; (· (clear hS; first | (go_simp; done) | (go_simp; with_reducible rfl))); simp only [Act.put, List.setIfInBounds_toArray, List.set_cons_zero, List.set_cons_succ])
  (refine run_pure (by rfl) ?_; apply Exists.intro; refine ⟨fun w' hS => ?_, ?_⟩; (· (clear hS; first | (go_simp; done) | (go_simp; with_reducible rfl))); simp only [Act.put, List.setIfInBounds_toArray, List.set_cons_zero, List.set_cons_succ])
  (refine run_pure (by rfl) ?_; apply Exists.intro; refine ⟨fun w' hS => ?_, ?_⟩; (· (have hc := hS.2.2.2.2.2.2.2.2.2.2.2.2.2.2.2.2.2.2.2.2.2.2.2.2.2.2.2.2.2.2.2.2.2.2.2.2.2.2.2.2.2.2.2.2.2.2.2.2.2.2.1; clear hS; first | (go_simp; done) | (go_simp; with_reducible rfl))); simp only [Act.put, List.setIfInBounds_toArray, List.set_cons_zero, List.set_cons_succ])
  (refine run_pure (by rfl) ?_; apply Exists.intro; refine ⟨fun w' hS => ?_, ?_⟩; (· (clear hS; first | (go_simp; done) | (go_simp; with_reducible rfl))); simp only [Act.put, List.setIfInBounds_toArray, List.set_cons_zero, List.set_cons_succ])
  (refine run_pure (by rfl) ?_; apply Exists.intro; refine ⟨fun w' hS => ?_, ?_⟩; (· (have hc := hS.2.2.2.2.2.2.2.2.2.2.2.2.2.2.2.2.2.2.2.2.2.2.2.2.2.2.2.2.2.2.2.2.2.2.2.2.2.2.2.2.2.2.2.2.2.2.2.2.2.2.2.1; clear hS; first | (go_simp; done) | (go_simp; with_reducible rfl))); simp only [Act.put, List.setIfInBounds_toArray, List.set_cons_zero, List.set_cons_succ])
  (refine run_pure (by rfl) ?_; apply Exists.intro; refine ⟨fun w' hS => ?_, ?_⟩; (· (clear hS; first | (go_simp; done) | (go_simp; with_reducible rfl))); simp only [Act.put, List.setIfInBounds_toArray, List.set_cons_zero, List.set_cons_succ])
  (refine run_pure (by rfl) ?_; apply Exists.intro; refine ⟨fun w' hS => ?_, ?_⟩; (· (clear hS; first | (go_simp; done) | (go_simp; with_reducible rfl))); simp only [Act.put, List.setIfInBounds_toArray, List.set_cons_zero, List.set_cons_succ])
  (refine run_pure (by rfl) ?_; apply Exists.intro; refine ⟨fun w' hS => ?_, ?_⟩; (· (clear hS; first | (go_simp; done) | (go_simp; with_reducible rfl))); simp only [Act.put, List.setIfInBounds_toArray, List.set_cons_zero, List.set_cons_succ])
  (refine run_pure (by rfl) ?_; apply Exists.intro; refine ⟨fun w' hS => ?_, ?_⟩; (· (clear hS; first | (go_simp; done) | (go_simp; with_reducible rfl))); simp only [Act.put, List.setIfInBounds_toArray, List.set_cons_zero, List.set_cons_succ])
  (refine run_pure (by rfl) ?_; apply Exists.intro; refine ⟨fun w' hS => ?_, ?_⟩; (· (have hc := hS.2.2.2.2.2.2.2.2.2.2.2.2.2.2.2.2.2.2.2.2.2.2.2.2.2.2.2.2.2.2.2.2.2.2.2.2.2.2.2.2.2.2.2.2.2.2.2.2.2.2.2.2.1; clear hS; first | (go_simp; done) | (go_simp; with_reducible rfl))); simp only [Act.put, List.setIfInBounds_toArray, List.set_cons_zero, List.set_cons_succ])
  (refine run_pure (by rfl) ?_; apply Exists.intro; refine ⟨fun w' hS => ?_, ?_⟩; (· (clear hS; first | (go_simp; done) | (go_simp; with_reducible rfl))); simp only [Act.put, List.setIfInBounds_toArray, List.set_cons_zero, List.set_cons_succ])
  (refine run_pure (by rfl) ?_; apply Exists.intro; refine ⟨fun w' hS => ?_, ?_⟩; (· (have hc := hS.2.2.2.2.2.2.2.2.2.2.2.2.2.2.2.2.2.2.2.2.2.2.2.2.2.2.2.2.2.2.2.2.2.2.2.2.2.2.2.2.2.2.2.2.2.2.2.2.2.2.2.2.2.1; clear hS; first | (go_simp; done) | (go_simp; with_reducible rfl))); simp only [Act.put, List.setIfInBounds_toArray, List.set_cons_zero, List.set_cons_succ])
  refine run_run (by rfl) (fun K hK => ?_)
  go_simp
  refine (same_ok w19 (xP28.out.keep HB19.out.size HB19.out.block).src (yP28.out.keep HB19.out.size HB19.out.block).src).mono ?_
  rintro e w20 ⟨rfl, hw⟩
  rw [hw]
  clear hw
  rw [decide_eq_true rfl]
  refine hK _ _ (hSk _ HB19.out) ?_
  clear hK K
  try simp only [Act.put, List.setIfInBounds_toArray, List.set_cons_zero, List.set_cons_succ]
  (refine run_pure (by rfl) ?_; apply Exists.intro; refine ⟨fun w' hS => ?_, ?_⟩; (· (clear hS; first | (go_simp; done) | (go_simp; with_reducible rfl))); simp only [Act.put, List.setIfInBounds_toArray, List.set_cons_zero, List.set_cons_succ])
  (refine run_pure (by rfl) ?_; apply Exists.intro; refine ⟨fun w' hS => ?_, ?_⟩; (· (clear hS; first | (go_simp; done) | (go_simp; with_reducible rfl))); simp only [Act.put, List.setIfInBounds_toArray, List.set_cons_zero, List.set_cons_succ])
  (refine run_pure (by rfl) ?_; apply Exists.intro; refine ⟨fun w' hS => ?_, ?_⟩; (· (clear hS; first | (go_simp; done) | (go_simp; with_reducible rfl))); simp only [Act.put, List.setIfInBounds_toArray, List.set_cons_zero, List.set_cons_succ])
  (refine run_pure (by rfl) ?_; apply Exists.intro; refine ⟨fun w' hS => ?_, ?_⟩; (· (have hc := hS.2.2.2.2.2.2.2.2.2.2.2.2.2.2.2.2.2.2.2.2.2.2.2.2.2.2.2.2.2.2.2.2.2.2.2.2.2.2.2.2.2.2.2.2.2.2.2.2.2.2.2.2.2.2.1; clear hS; first | (go_simp; done) | (go_simp; with_reducible rfl))); simp only [Act.put, List.setIfInBounds_toArray, List.set_cons_zero, List.set_cons_succ])
  (refine run_pure (by rfl) ?_; apply Exists.intro; refine ⟨fun w' hS => ?_, ?_⟩; (· (clear hS; first | (go_simp; done) | (go_simp; with_reducible rfl))); simp only [Act.put, List.setIfInBounds_toArray, List.set_cons_zero, List.set_cons_succ])
  (refine run_pure (by rfl) ?_; apply Exists.intro; refine ⟨fun w' hS => ?_, ?_⟩; (· (have hc := hS.2.2.2.2.2.2.2.2.2.2.2.2.2.2.2.2.2.2.2.2.2.2.2.2.2.2.2.2.2.2.2.2.2.2.2.2.2.2.2.2.2.2.2.2.2.2.2.2.2.2.2.2.2.2.2; clear hS; first | (go_simp; done) | (go_simp; with_reducible rfl))); simp only [Act.put, List.setIfInBounds_toArray, List.set_cons_zero, List.set_cons_succ])
  refine run_run (by rfl) (fun K hK => ?_)
  go_simp
  refine (same_ok w19 (xP29.out.keep HB19.out.size HB19.out.block).src (yP29.out.keep HB19.out.size HB19.out.block).src).mono ?_
  rintro e w21 ⟨rfl, hw⟩
  rw [hw]
  clear hw
  rw [decide_eq_true rfl]
  refine hK _ _ (hSk _ HB19.out) ?_
  clear hK K
  try simp only [Act.put, List.setIfInBounds_toArray, List.set_cons_zero, List.set_cons_succ]
  (refine run_pure (by rfl) ?_; apply Exists.intro; refine ⟨fun w' hS => ?_, ?_⟩; (· (clear hS; first | (go_simp; done) | (go_simp; with_reducible rfl))); simp only [Act.put, List.setIfInBounds_toArray, List.set_cons_zero, List.set_cons_succ])
  (refine run_pure (by rfl) ?_; apply Exists.intro; refine ⟨fun w' hS => ?_, ?_⟩; (· (clear hS; first | (go_simp; done) | (go_simp; with_reducible rfl))); simp only [Act.put, List.setIfInBounds_toArray, List.set_cons_zero, List.set_cons_succ])
  show wpOrd _ _ _ _ _ _ _
  refine wpOrd_nil ?_
  go_wp2_with fail
  go_ret
  exact ⟨rfl, HBE.out.trans (HB19.out.mono HBE.out.size)⟩

end Go.Proofs.YtopcljikkdlffaaGreat
