/- What package tls makes of the bytes of a ServerHello, in plain words on lists. No program and no memory stand here. -/
import Derived.Test.YtopcljikkdlffaaPA
namespace Go.Proofs.Ytopcljikkdlffaa

/-- The fields of a ServerHello. -/
structure SH where
  vers : Nat := 0
  random : List UInt8 := []
  session : List UInt8 := []
  cipher : Nat := 0
  comp : Nat := 0
  ocsp : Bool := false
  ticket : Bool := false
  srs : Bool := false
  sr : List UInt8 := []
  ems : Bool := false
  alpn : List UInt8 := []
  scts : List (List UInt8) := []
  sver : Nat := 0
  sgroup : Nat := 0
  sdata : List UInt8 := []
  sip : Bool := false
  sid : Nat := 0
  pts : List UInt8 := []
  ech : List UInt8 := []
  sna : Bool := false
  cookie : List UInt8 := []
  selg : Nat := 0

/-- Vectors, none of them empty, until nothing is left. -/
def tvecs (k : Nat) : Nat → List UInt8 → Option (List (List UInt8))
  | 0, s => if s = [] then some [] else none
  | f + 1, s => if s = [] then some [] else
    match rdv k s with
    | none => none
    | some (x, r) => if x = [] then none else (tvecs k f r).map (x :: ·)

theorem tvecs_succ {k n : Nat} {s : List UInt8} (h : s ≠ []) : tvecs k (n + 1) s = (rdv k s).bind fun y => if y.1 = [] then none else (tvecs k n y.2).map (y.1 :: ·) := by
  show (if s = [] then _ else _) = _
  rw [if_neg h]
  cases rdv k s <;> rfl

/-- One extension: what becomes of the fields, and what is left of its bytes (nothing where its type is unknown). -/
def shExt (f : SH) (ty : Nat) (d : List UInt8) : Option (SH × List UInt8) :=
  if ty = 5 then some ({ f with ocsp := true }, d)
  else if ty = 35 then some ({ f with ticket := true }, d)
  else if ty = 65281 then (rdv 1 d).map fun x => ({ f with sr := x.1, srs := true }, x.2)
  else if ty = 23 then some ({ f with ems := true }, d)
  else if ty = 16 then (rdv 2 d).bind fun l => if l.1 = [] then none else (rdv 1 l.1).bind fun x => if x.1 = [] ∨ x.2 ≠ [] then none else some ({ f with alpn := x.1 }, l.2)
  else if ty = 18 then (rdv 2 d).bind fun l => if l.1 = [] then none else (tvecs 2 l.1.length l.1).map fun x => ({ f with scts := f.scts ++ x }, l.2)
  else if ty = 43 then (rd 2 d).map fun x => ({ f with sver := be x.1 }, x.2)
  else if ty = 44 then (rdv 2 d).bind fun x => if x.1 = [] then none else some ({ f with cookie := x.1 }, x.2)
  else if ty = 51 then
    if d.length = 2 then (rd 2 d).map fun x => ({ f with selg := be x.1 }, x.2)
    else (rd 2 d).bind fun x => (rdv 2 x.2).map fun y => ({ f with sgroup := be x.1, sdata := y.1 }, y.2)
  else if ty = 41 then (rd 2 d).map fun x => ({ f with sip := true, sid := be x.1 }, x.2)
  else if ty = 11 then (rdv 1 d).bind fun x => if x.1 = [] then none else some ({ f with pts := x.1 }, x.2)
  else if ty = 65037 then some ({ f with ech := d }, [])
  else if ty = 0 then if d = [] then some ({ f with sna := true }, []) else none
  else some (f, [])

/-- Extensions until nothing is left. -/
def shExts : Nat → List Nat → SH → List UInt8 → Option SH
  | 0, _, f, s => if s = [] then some f else none
  | n + 1, seen, f, s => if s = [] then some f else
    (rd 2 s).bind fun t => (rdv 2 t.2).bind fun d => if be t.1 ∈ seen then none else
      (shExt f (be t.1) d.1).bind fun y => if y.2 = [] then shExts n (be t.1 :: seen) y.1 d.2 else none

/-- The head of a ServerHello, and what is left behind it. -/
def shHead (bs : List UInt8) : Option (SH × List UInt8) :=
  (rd 4 bs).bind fun h => (rd 2 h.2).bind fun v => (rd 32 v.2).bind fun r => (rdv 1 r.2).bind fun s => (rd 2 s.2).bind fun c => (rd 1 c.2).map fun k =>
    ({ vers := be v.1, random := r.1, session := s.1, cipher := be c.1, comp := be k.1 }, k.2)

/-- A ServerHello. -/
def shRead (bs : List UInt8) : Option SH :=
  (shHead bs).bind fun h => if h.2 = [] then some h.1 else
    (rdv 2 h.2).bind fun e => if e.2 = [] then shExts e.1.length [] h.1 e.1 else none

end Go.Proofs.Ytopcljikkdlffaa
