/- By an AI agent. No person has read it.
   The plain reading of a PDU: what ParseBVC and zzs4810bmodel both compute. -/
import Derived.Test.YbulkcupaFmtCell
namespace Go.Proofs.YbulkcupaFmt
open Go.RowKit Go.Extern.Stop Go.Stop Go.Extern

/-- A Cell. -/
structure Cl where
  m1 : ByteArray
  m2 : ByteArray
  lac : Int
  rac : Int
  ci : Int
/-- What has been read so far. -/
structure St where
  hb : Bool
  bv : Int
  hc : Bool
  cl : Cl

def Cl.of (x : Nat → Nat) : Cl := ⟨strOf 3 fun j => 48 + dig (x 0) (x 1) (x 2) j, strOf (nDig (x 1) - 3) fun j => 48 + dig (x 0) (x 1) (x 2) (3 + j), (x 3 : Int) * 256 + x 4, (x 5 : Int), (x 6 : Int) * 256 + x 7⟩
def Cl.zero : Cl := ⟨⟨#[]⟩, ⟨#[]⟩, 0, 0, 0⟩
def St.zero : St := ⟨false, 0, false, Cl.zero⟩
def St.cells (s : St) : List Value := [.int .u16 s.bv, .string s.cl.m1, .string s.cl.m2, .int .u16 s.cl.lac, .int .u8 s.cl.rac, .int .u16 s.cl.ci, .bool s.hc]

inductive Stp where
  | fail (o : Nat)
  | go (s : St)
inductive Out where
  | fail (o : Nat)
  | done (s : St)

/-- What one IE does: its IEI is R off, its value the l octets from p on. -/
def stepIe (R : Nat → Nat) (off p l : Nat) (s : St) : Stp :=
  if R off = 4 ∧ s.hb = false then (if l = 2 then .go { s with hb := true, bv := (R p : Int) * 256 + R (p + 1) } else .fail off)
  else if R off = 8 ∧ s.hc = false then
    (if l = 8 then (match badDig (R p) (R (p + 1)) (R (p + 2)) with | none => .go { s with hc := true, cl := Cl.of fun j => R (p + j) } | some i => .fail (p + octet i)) else .fail off)
  else .go s

/-- The reading of a PDU, IE by IE. -/
def scan (R : Nat → Nat) (n : Nat) : Nat → Nat → St → Out
  | 0, _, _ => .fail 0
  | k + 1, off, s =>
    if n ≤ off then (if s.hb then .done s else .fail n)
    else match ieAt R n off with
      | .bad o => .fail o
      | .ok p l => match stepIe R off p l s with
        | .fail o => .fail o
        | .go s' => if s'.hb && s'.hc then .done s' else scan R n k (p + l) s'

/-- What ParseBVC leaves. -/
def Parsed (out : Out) (w : World) (e : Ending) (w' : World) : Prop :=
  (match out with
    | .done s => e = .returned (.tuple #[.agg s.cells.toArray, .nilIface])
    | .fail o => ∃ q, e = .returned (.tuple #[.agg St.zero.cells.toArray, .iface 48 (.pointer (some ⟨q, 0, none⟩))]) ∧ w'.cell? ⟨q, 0, none⟩ = some (.int .i64 (o : Int))) ∧ Below w.heap.size w w'

/-- What zzs4810bmodel leaves. -/
def Modelled (out : Out) (w : World) (e : Ending) (w' : World) : Prop :=
  e = .returned (match out with
    | .done s => .tuple #[.agg s.cells.toArray, .bool true, .int .i64 0]
    | .fail o => .tuple #[.agg St.zero.cells.toArray, .bool false, .int .i64 (o : Int)]) ∧ Below w.heap.size w w'

end Go.Proofs.YbulkcupaFmt
