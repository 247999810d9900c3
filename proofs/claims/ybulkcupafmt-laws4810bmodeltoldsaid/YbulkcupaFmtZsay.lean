/- By an AI agent. No person has read it.
   What zzs4810bcell (function 19) leaves. -/
import Derived.Test.YbulkcupaFmtCell
namespace Go.Proofs.YbulkcupaFmt
open Go.RowKit Go.Extern.Stop Go.Stop Go.Extern

/-- What zzs4810bcell leaves. -/
def Zcelled (x : Nat → Nat) (off : Nat) (w : World) (e : Ending) (w' : World) : Prop :=
  (match badDig (x 0) (x 1) (x 2) with
    | none => e = .returned (.tuple #[.agg (cellOf x).toArray, .bool true, .int .i64 0])
    | some i => e = .returned (.tuple #[.agg #[.string ⟨#[]⟩, .string ⟨#[]⟩, .int .u16 0, .int .u8 0, .int .u16 0], .bool false, .int .i64 ((off + octet i : Nat) : Int)])) ∧ Below w.heap.size w w'
end Go.Proofs.YbulkcupaFmt
