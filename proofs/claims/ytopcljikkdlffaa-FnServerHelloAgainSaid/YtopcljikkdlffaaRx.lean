/- The reference's reader: extensions (pure part). No statement of the seat is proved here. -/
import Derived.Test.YtopcljikkdlffaaRw
namespace Go.Proofs.Ytopcljikkdlffaa
open Go.RowKit

/-- Extensions until nothing is left: their types and bytes. -/
def rexts : Nat → List (Nat × List UInt8) → Nat × List UInt8 → List (Nat × List UInt8) × (Nat × List UInt8)
  | 0, out, sp => (out, sp)
  | f + 1, out, sp => if sp.2 = [] then (out, sp) else
    rexts f (out ++ [((rnum 2 sp).1, (rvec 2 0 65535 (rnum 2 sp).2).1)])
      (if (out.any fun x => x.1 == (rnum 2 sp).1) = true then rfail 4 (rvec 2 0 65535 (rnum 2 sp).2).2 else (rvec 2 0 65535 (rnum 2 sp).2).2)

/-- Extensions with their length. -/
def rextensions (st : Nat × List UInt8) : List (Nat × List UInt8) × (Nat × List UInt8) :=
  ((rexts (rvec 2 0 65535 st).1.length [] (rin (rvec 2 0 65535 st).2 (rvec 2 0 65535 st).1)).1,
    rdone (rvec 2 0 65535 st).2 (rexts (rvec 2 0 65535 st).1.length [] (rin (rvec 2 0 65535 st).2 (rvec 2 0 65535 st).1)).2)

/-- Not a length out of its range. -/
def fine (c : Nat) : Prop := c ≠ 2

theorem fine_rfail {k : Nat} {st : Nat × List UInt8} (h : fine st.1) (hk : fine k) : fine (rfail k st).1 := by
  unfold rfail; split <;> assumption

theorem fine_rnum {k : Nat} {st : Nat × List UInt8} (h : fine st.1) : fine (rnum k st).2.1 := by
  unfold rnum; split
  · exact fine_rfail h (show _ ≠ 2 by decide)
  · exact h

/-- A vector whose range is all that its length can say is never out of range. -/
theorem fine_rvec {k high : Nat} {st : Nat × List UInt8} (h : fine st.1) (hk : 256 ^ k ≤ high + 1) : fine (rvec k 0 high st).2.1 := by
  have h1 := fine_rnum (k := k) h
  have h2 : (rnum k st).1 < 256 ^ k := by
    rcases rnum_lt (k := k) (st := st) with h | h
    · exact h
    · rw [h]; exact Nat.pow_pos (by omega)
  unfold rvec
  split
  · exact h1
  · split
    · show (3 : Nat) ≠ 2; decide
    · split
      · omega
      · show (0 : Nat) ≠ 2; decide

theorem fine_rexts : ∀ (f : Nat) (out : List (Nat × List UInt8)) (sp : Nat × List UInt8), fine sp.1 → fine (rexts f out sp).2.1
  | 0, _, _, h => h
  | f + 1, out, sp, h => by
    unfold rexts
    split
    · exact h
    · refine fine_rexts f _ _ ?_
      have h1 := fine_rvec (k := 2) (high := 65535) (fine_rnum (k := 2) h) (by decide)
      split
      · exact fine_rfail h1 (show _ ≠ 2 by decide)
      · exact h1

theorem fine_rend {st : Nat × List UInt8} (h : fine st.1) : fine (rend st).1 := by
  unfold rend; split
  · exact h
  · exact fine_rfail h (show _ ≠ 2 by decide)

theorem fine_rdone {st p : Nat × List UInt8} (h : fine st.1) (hp : fine p.1) : fine (rdone st p).1 := by
  unfold rdone; split
  · exact h
  · exact fine_rfail h (fine_rend hp)

theorem fine_rextensions {st : Nat × List UInt8} (h : fine st.1) : fine (rextensions st).2.1 := by
  unfold rextensions
  have h1 := fine_rvec (k := 2) (high := 65535) h (by decide)
  exact fine_rdone h1 (fine_rexts _ _ _ h1)

end Go.Proofs.Ytopcljikkdlffaa
