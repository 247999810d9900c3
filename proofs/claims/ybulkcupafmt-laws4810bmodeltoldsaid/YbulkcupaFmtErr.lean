/-
  bssgp.Errorf at the six formats on the road: fmt.Sprintf's text is told (it is whatever the interpretation says); the error is a new *Error that bears the offset.
-/
import Derived.Test.YbulkcupaFmtRows
import Derived.Test.YbulkcupaFmtFacts
import Derived.Test.YbulkcupaFmtBytes
import Derived.WalkKit
import Derived.WalkSpells
import Derived.WalkLawsBesides
import Derived.Below
import Derived.WalkSmall
namespace Go.Proofs
open Go.Extern.Stop Go.Stop Go.Extern

-- IE 0x%02x has no length indicator
@[go_sem] theorem Ybaf.fmtB0 : FmtStop.printed? ⟨#[73, 69, 32, 48, 120, 37, 48, 50, 120, 32, 104, 97, 115, 32, 110, 111, 32, 108, 101, 110, 103, 116, 104, 32, 105, 110, 100, 105, 99, 97, 116, 111, 114]⟩ 1 = some [(0, 120, false)] := by kernel_rfl
@[go_sem] theorem Ybaf.fmtB0r (w : World) : (FmtDoors.printed ⟨#[73, 69, 32, 48, 120, 37, 48, 50, 120, 32, 104, 97, 115, 32, 110, 111, 32, 108, 101, 110, 103, 116, 104, 32, 105, 110, 100, 105, 99, 97, 116, 111, 114]⟩ 1).run Ybaf.prog w = .ok [(0, 120, false)] w := by kernel_rfl
-- IE 0x%02x has its two-octet length indicator cut short
@[go_sem] theorem Ybaf.fmtB1 : FmtStop.printed? ⟨#[73, 69, 32, 48, 120, 37, 48, 50, 120, 32, 104, 97, 115, 32, 105, 116, 115, 32, 116, 119, 111, 45, 111, 99, 116, 101, 116, 32, 108, 101, 110, 103, 116, 104, 32, 105, 110, 100, 105, 99, 97, 116, 111, 114, 32, 99, 117, 116, 32, 115, 104, 111, 114, 116]⟩ 1 = some [(0, 120, false)] := by kernel_rfl
@[go_sem] theorem Ybaf.fmtB1r (w : World) : (FmtDoors.printed ⟨#[73, 69, 32, 48, 120, 37, 48, 50, 120, 32, 104, 97, 115, 32, 105, 116, 115, 32, 116, 119, 111, 45, 111, 99, 116, 101, 116, 32, 108, 101, 110, 103, 116, 104, 32, 105, 110, 100, 105, 99, 97, 116, 111, 114, 32, 99, 117, 116, 32, 115, 104, 111, 114, 116]⟩ 1).run Ybaf.prog w = .ok [(0, 120, false)] w := by kernel_rfl
-- IE 0x%02x of %d octets runs past the end
@[go_sem] theorem Ybaf.fmtB2 : FmtStop.printed? ⟨#[73, 69, 32, 48, 120, 37, 48, 50, 120, 32, 111, 102, 32, 37, 100, 32, 111, 99, 116, 101, 116, 115, 32, 114, 117, 110, 115, 32, 112, 97, 115, 116, 32, 116, 104, 101, 32, 101, 110, 100]⟩ 2 = some [(0, 120, false), (1, 100, false)] := by kernel_rfl
@[go_sem] theorem Ybaf.fmtB2r (w : World) : (FmtDoors.printed ⟨#[73, 69, 32, 48, 120, 37, 48, 50, 120, 32, 111, 102, 32, 37, 100, 32, 111, 99, 116, 101, 116, 115, 32, 114, 117, 110, 115, 32, 112, 97, 115, 116, 32, 116, 104, 101, 32, 101, 110, 100]⟩ 2).run Ybaf.prog w = .ok [(0, 120, false), (1, 100, false)] w := by kernel_rfl
-- %s IE holds %d octets, not %d
@[go_sem] theorem Ybaf.fmtB3 : FmtStop.printed? ⟨#[37, 115, 32, 73, 69, 32, 104, 111, 108, 100, 115, 32, 37, 100, 32, 111, 99, 116, 101, 116, 115, 44, 32, 110, 111, 116, 32, 37, 100]⟩ 3 = some [(0, 115, false), (1, 100, false), (2, 100, false)] := by kernel_rfl
@[go_sem] theorem Ybaf.fmtB3r (w : World) : (FmtDoors.printed ⟨#[37, 115, 32, 73, 69, 32, 104, 111, 108, 100, 115, 32, 37, 100, 32, 111, 99, 116, 101, 116, 115, 44, 32, 110, 111, 116, 32, 37, 100]⟩ 3).run Ybaf.prog w = .ok [(0, 115, false), (1, 100, false), (2, 100, false)] w := by kernel_rfl
-- PLMN digit 0x%x is not a decimal digit
@[go_sem] theorem Ybaf.fmtB4 : FmtStop.printed? ⟨#[80, 76, 77, 78, 32, 100, 105, 103, 105, 116, 32, 48, 120, 37, 120, 32, 105, 115, 32, 110, 111, 116, 32, 97, 32, 100, 101, 99, 105, 109, 97, 108, 32, 100, 105, 103, 105, 116]⟩ 1 = some [(0, 120, false)] := by kernel_rfl
@[go_sem] theorem Ybaf.fmtB4r (w : World) : (FmtDoors.printed ⟨#[80, 76, 77, 78, 32, 100, 105, 103, 105, 116, 32, 48, 120, 37, 120, 32, 105, 115, 32, 110, 111, 116, 32, 97, 32, 100, 101, 99, 105, 109, 97, 108, 32, 100, 105, 103, 105, 116]⟩ 1).run Ybaf.prog w = .ok [(0, 120, false)] w := by kernel_rfl
-- BVCI IE missing
@[go_sem] theorem Ybaf.fmtB5 : FmtStop.printed? ⟨#[66, 86, 67, 73, 32, 73, 69, 32, 109, 105, 115, 115, 105, 110, 103]⟩ 0 = some [] := by kernel_rfl
@[go_sem] theorem Ybaf.fmtB5r (w : World) : (FmtDoors.printed ⟨#[66, 86, 67, 73, 32, 73, 69, 32, 109, 105, 115, 115, 105, 110, 103]⟩ 0).run Ybaf.prog w = .ok [] w := by kernel_rfl
def Ybaf.shape5 : List UInt8 := 6 :: FmtStop.pack "uint8".toUTF8.data.toList
def Ybaf.shape3 : List UInt8 := 5 :: FmtStop.pack "int".toUTF8.data.toList
def Ybaf.shape9 : List UInt8 := 12 :: FmtStop.pack "string".toUTF8.data.toList
@[go_sem] theorem Ybaf.act5_120 (name : String) (x : Value) (w : World) : (FmtCalls.act name false 120 false (.iface 5 x)).run Ybaf.prog w = .ok (.closed false) w := by kernel_rfl
@[go_sem] theorem Ybaf.op5_120 (name : String) (x : Int) (w : World) : (FmtStop.operand name false 120 false (.iface 5 (.int .u8 x))).run Ybaf.prog w = .ok (Ybaf.shape5, Go.Extern.Stop.digits 8 (x % 2 ^ 64).toNat) w := by kernel_rfl
@[go_sem] theorem Ybaf.act3_100 (name : String) (x : Value) (w : World) : (FmtCalls.act name false 100 false (.iface 3 x)).run Ybaf.prog w = .ok (.closed false) w := by kernel_rfl
@[go_sem] theorem Ybaf.op3_100 (name : String) (x : Int) (w : World) : (FmtStop.operand name false 100 false (.iface 3 (.int .i64 x))).run Ybaf.prog w = .ok (Ybaf.shape3, Go.Extern.Stop.digits 8 (x % 2 ^ 64).toNat) w := by kernel_rfl
@[go_sem] theorem Ybaf.act9_115 (name : String) (x : Value) (w : World) : (FmtCalls.act name false 115 false (.iface 9 x)).run Ybaf.prog w = .ok (.closed false) w := by kernel_rfl
@[go_sem] theorem Ybaf.op9_115 (name : String) (x : ByteArray) (w : World) : (FmtStop.operand name false 115 false (.iface 9 (.string x))).run Ybaf.prog w = .ok (Ybaf.shape9, FmtStop.pack x.data.toList) w := by kernel_rfl
end Go.Proofs
namespace Go.Proofs.YbulkcupaFmt
open Go.RowKit Go.Extern.Stop Go.Stop Go.Extern

/-- What Errorf leaves: a new error that bears the offset; nothing else. -/
def Erred (o : Int) (w : World) (e : Ending) (w' : World) : Prop :=
  ∃ t, e = .returned (.iface 48 (.pointer (some ⟨w.heap.size, 0, none⟩))) ∧ w' = (w.alloc (.cells #[.int .i64 o, .string t] 52)).drew

set_option maxHeartbeats 1000000 in
theorem err_noLen (F : Interp) (o : Int) (b : Nat) (x0 : Int) (w : World) (hF : F.answers w.tape) (c0 : w.cell? ⟨b, 0, none⟩ = some (.iface 5 (.int .u8 x0))) :
    Calls Ybaf.prog 18 #[.int .i64 o, .string ⟨#[73, 69, 32, 48, 120, 37, 48, 50, 120, 32, 104, 97, 115, 32, 110, 111, 32, 108, 101, 110, 103, 116, 104, 32, 105, 110, 100, 105, 99, 97, 116, 111, 114]⟩, .slice (some ⟨b, 0, none⟩) (1 : Nat) (1 : Nat)] w (Erred o w) := by
  have hF' := answers_open hF
  go_enter Ybaf.func18, Ybaf.ntmps18
  go_wp2
  apply rows_value Ybaf.nextTurns
  case hr =>
    go_simp
    exact ⟨rfl, rfl⟩
  case h =>
    go_wp2
    go_ret
    exact ⟨_, rfl, rfl⟩

set_option maxHeartbeats 1000000 in
theorem err_cutShort (F : Interp) (o : Int) (b : Nat) (x0 : Int) (w : World) (hF : F.answers w.tape) (c0 : w.cell? ⟨b, 0, none⟩ = some (.iface 5 (.int .u8 x0))) :
    Calls Ybaf.prog 18 #[.int .i64 o, .string ⟨#[73, 69, 32, 48, 120, 37, 48, 50, 120, 32, 104, 97, 115, 32, 105, 116, 115, 32, 116, 119, 111, 45, 111, 99, 116, 101, 116, 32, 108, 101, 110, 103, 116, 104, 32, 105, 110, 100, 105, 99, 97, 116, 111, 114, 32, 99, 117, 116, 32, 115, 104, 111, 114, 116]⟩, .slice (some ⟨b, 0, none⟩) (1 : Nat) (1 : Nat)] w (Erred o w) := by
  have hF' := answers_open hF
  go_enter Ybaf.func18, Ybaf.ntmps18
  go_wp2
  apply rows_value Ybaf.nextTurns
  case hr =>
    go_simp
    exact ⟨rfl, rfl⟩
  case h =>
    go_wp2
    go_ret
    exact ⟨_, rfl, rfl⟩

set_option maxHeartbeats 1000000 in
theorem err_runsPast (F : Interp) (o : Int) (b : Nat) (x0 : Int) (x1 : Int) (w : World) (hF : F.answers w.tape) (c0 : w.cell? ⟨b, 0, none⟩ = some (.iface 5 (.int .u8 x0))) (c1 : w.cell? ⟨b, 1, none⟩ = some (.iface 3 (.int .i64 x1))) :
    Calls Ybaf.prog 18 #[.int .i64 o, .string ⟨#[73, 69, 32, 48, 120, 37, 48, 50, 120, 32, 111, 102, 32, 37, 100, 32, 111, 99, 116, 101, 116, 115, 32, 114, 117, 110, 115, 32, 112, 97, 115, 116, 32, 116, 104, 101, 32, 101, 110, 100]⟩, .slice (some ⟨b, 0, none⟩) (2 : Nat) (2 : Nat)] w (Erred o w) := by
  have hF' := answers_open hF
  go_enter Ybaf.func18, Ybaf.ntmps18
  go_wp2
  apply rows_value Ybaf.nextTurns
  case hr =>
    go_simp
    exact ⟨rfl, rfl⟩
  case h =>
    go_wp2
    go_ret
    exact ⟨_, rfl, rfl⟩

set_option maxHeartbeats 1000000 in
theorem err_holds (F : Interp) (o : Int) (b : Nat) (x0 : ByteArray) (x1 : Int) (x2 : Int) (w : World) (hF : F.answers w.tape) (c0 : w.cell? ⟨b, 0, none⟩ = some (.iface 9 (.string x0))) (c1 : w.cell? ⟨b, 1, none⟩ = some (.iface 3 (.int .i64 x1))) (c2 : w.cell? ⟨b, 2, none⟩ = some (.iface 3 (.int .i64 x2))) :
    Calls Ybaf.prog 18 #[.int .i64 o, .string ⟨#[37, 115, 32, 73, 69, 32, 104, 111, 108, 100, 115, 32, 37, 100, 32, 111, 99, 116, 101, 116, 115, 44, 32, 110, 111, 116, 32, 37, 100]⟩, .slice (some ⟨b, 0, none⟩) (3 : Nat) (3 : Nat)] w (Erred o w) := by
  have hF' := answers_open hF
  go_enter Ybaf.func18, Ybaf.ntmps18
  go_wp2
  apply rows_value Ybaf.nextTurns
  case hr =>
    go_simp
    exact ⟨rfl, rfl⟩
  case h =>
    go_wp2
    go_ret
    exact ⟨_, rfl, rfl⟩

set_option maxHeartbeats 1000000 in
theorem err_digit (F : Interp) (o : Int) (b : Nat) (x0 : Int) (w : World) (hF : F.answers w.tape) (c0 : w.cell? ⟨b, 0, none⟩ = some (.iface 5 (.int .u8 x0))) :
    Calls Ybaf.prog 18 #[.int .i64 o, .string ⟨#[80, 76, 77, 78, 32, 100, 105, 103, 105, 116, 32, 48, 120, 37, 120, 32, 105, 115, 32, 110, 111, 116, 32, 97, 32, 100, 101, 99, 105, 109, 97, 108, 32, 100, 105, 103, 105, 116]⟩, .slice (some ⟨b, 0, none⟩) (1 : Nat) (1 : Nat)] w (Erred o w) := by
  have hF' := answers_open hF
  go_enter Ybaf.func18, Ybaf.ntmps18
  go_wp2
  apply rows_value Ybaf.nextTurns
  case hr =>
    go_simp
    exact ⟨rfl, rfl⟩
  case h =>
    go_wp2
    go_ret
    exact ⟨_, rfl, rfl⟩

set_option maxHeartbeats 1000000 in
theorem err_missing (F : Interp) (o : Int)  (w : World) (hF : F.answers w.tape)  :
    Calls Ybaf.prog 18 #[.int .i64 o, .string ⟨#[66, 86, 67, 73, 32, 73, 69, 32, 109, 105, 115, 115, 105, 110, 103]⟩, .slice none (0 : Nat) (0 : Nat)] w (Erred o w) := by
  have hF' := answers_open hF
  go_enter Ybaf.func18, Ybaf.ntmps18
  go_wp2
  apply rows_value Ybaf.nextTurns
  case hr =>
    go_simp
    exact ⟨rfl, rfl⟩
  case h =>
    go_wp2
    go_ret
    exact ⟨_, rfl, rfl⟩

end Go.Proofs.YbulkcupaFmt
