/-
  SEAT b4739aF. THE CLOSED FACTS OF fmt.Sprintf's STOP at this dump's numbers (the form of the guide's worked 'NameFmt' texts), and the contract of the closure 'wrong'.
-/
import Derived.Test.YbulkctcuFmtRows
import Derived.WalkKit
import Derived.WalkSpells
import Derived.Stop.CallBack
import Derived.Stop.IfaceNil
import GoSem.ClaimData
namespace Go.Proofs.YbulkctcuFmt
open Go.Extern.Stop Go.Stop Go.Extern Go.RowKit

theorem call11 (args : Array Value) (w : World) : (callFunc 11 args).run Ybaf.prog w = (FmtCalls.sprintf #[9, 70] #[9] args).run Ybaf.prog w :=
  run_callFunc_next Ybaf.func11 (by kernel_rfl) (by kernel_rfl) (by kernel_rfl) args w
theorem fguard (name : String) (w : World) : (FmtStop.guard name).run Ybaf.prog w = .ok () w := by kernel_rfl
theorem nextTurns : Extern.next FmtCalls.turnsRow = some (FmtCalls.begun #[] #[]) := by kernel_rfl

def fb0 : ByteArray := ⟨#[118, 111, 116, 101, 32, 37, 100, 32, 104, 97, 115, 32, 110, 111, 32, 115, 108, 111, 116]⟩
theorem fm0 : FmtStop.printed? ⟨#[118, 111, 116, 101, 32, 37, 100, 32, 104, 97, 115, 32, 110, 111, 32, 115, 108, 111, 116]⟩ 1 = some [(0, 100, false)] := by kernel_rfl
theorem fm0r (w : World) : (FmtDoors.printed ⟨#[118, 111, 116, 101, 32, 37, 100, 32, 104, 97, 115, 32, 110, 111, 32, 115, 108, 111, 116]⟩ 1).run Ybaf.prog w = .ok [(0, 100, false)] w := by kernel_rfl
def fb1 : ByteArray := ⟨#[118, 111, 116, 101, 32, 37, 100, 32, 104, 97, 115, 32, 110, 111, 32, 104, 101, 97, 100]⟩
theorem fm1 : FmtStop.printed? ⟨#[118, 111, 116, 101, 32, 37, 100, 32, 104, 97, 115, 32, 110, 111, 32, 104, 101, 97, 100]⟩ 1 = some [(0, 100, false)] := by kernel_rfl
theorem fm1r (w : World) : (FmtDoors.printed ⟨#[118, 111, 116, 101, 32, 37, 100, 32, 104, 97, 115, 32, 110, 111, 32, 104, 101, 97, 100]⟩ 1).run Ybaf.prog w = .ok [(0, 100, false)] w := by kernel_rfl
def fb2 : ByteArray := ⟨#[118, 111, 116, 101, 32, 37, 100, 58, 32, 105, 116, 115, 32, 104, 101, 97, 100, 32, 37, 113, 32, 105, 115, 32, 110, 111, 116, 32, 116, 104, 101, 32, 103, 101, 110, 101, 115, 105, 115, 32, 111, 114, 32, 97, 32, 108, 105, 115, 116, 101, 100, 32, 98, 108, 111, 99, 107]⟩
theorem fm2 : FmtStop.printed? ⟨#[118, 111, 116, 101, 32, 37, 100, 58, 32, 105, 116, 115, 32, 104, 101, 97, 100, 32, 37, 113, 32, 105, 115, 32, 110, 111, 116, 32, 116, 104, 101, 32, 103, 101, 110, 101, 115, 105, 115, 32, 111, 114, 32, 97, 32, 108, 105, 115, 116, 101, 100, 32, 98, 108, 111, 99, 107]⟩ 2 = some [(0, 100, false), (1, 113, false)] := by kernel_rfl
theorem fm2r (w : World) : (FmtDoors.printed ⟨#[118, 111, 116, 101, 32, 37, 100, 58, 32, 105, 116, 115, 32, 104, 101, 97, 100, 32, 37, 113, 32, 105, 115, 32, 110, 111, 116, 32, 116, 104, 101, 32, 103, 101, 110, 101, 115, 105, 115, 32, 111, 114, 32, 97, 32, 108, 105, 115, 116, 101, 100, 32, 98, 108, 111, 99, 107]⟩ 2).run Ybaf.prog w = .ok [(0, 100, false), (1, 113, false)] w := by kernel_rfl
def fb3 : ByteArray := ⟨#[118, 111, 116, 101, 32, 37, 100, 44, 32, 97, 116, 32, 115, 108, 111, 116, 32, 37, 100, 44, 32, 110, 97, 109, 101, 115, 32, 116, 104, 101, 32, 104, 101, 97, 100, 32, 37, 113, 32, 111, 102, 32, 116, 104, 101, 32, 108, 97, 116, 101, 114, 32, 115, 108, 111, 116, 32, 37, 100]⟩
theorem fm3 : FmtStop.printed? ⟨#[118, 111, 116, 101, 32, 37, 100, 44, 32, 97, 116, 32, 115, 108, 111, 116, 32, 37, 100, 44, 32, 110, 97, 109, 101, 115, 32, 116, 104, 101, 32, 104, 101, 97, 100, 32, 37, 113, 32, 111, 102, 32, 116, 104, 101, 32, 108, 97, 116, 101, 114, 32, 115, 108, 111, 116, 32, 37, 100]⟩ 4 = some [(0, 100, false), (1, 100, false), (2, 113, false), (3, 100, false)] := by kernel_rfl
theorem fm3r (w : World) : (FmtDoors.printed ⟨#[118, 111, 116, 101, 32, 37, 100, 44, 32, 97, 116, 32, 115, 108, 111, 116, 32, 37, 100, 44, 32, 110, 97, 109, 101, 115, 32, 116, 104, 101, 32, 104, 101, 97, 100, 32, 37, 113, 32, 111, 102, 32, 116, 104, 101, 32, 108, 97, 116, 101, 114, 32, 115, 108, 111, 116, 32, 37, 100]⟩ 4).run Ybaf.prog w = .ok [(0, 100, false), (1, 100, false), (2, 113, false), (3, 100, false)] w := by kernel_rfl
def fb4 : ByteArray := ⟨#[118, 111, 116, 101, 32, 37, 100, 32, 104, 111, 108, 100, 115, 32, 118, 97, 108, 105, 100, 97, 116, 111, 114, 32, 37, 100, 44, 32, 110, 111, 116, 32, 102, 114, 111, 109, 32, 48, 32, 116, 111, 32, 37, 100]⟩
theorem fm4 : FmtStop.printed? ⟨#[118, 111, 116, 101, 32, 37, 100, 32, 104, 111, 108, 100, 115, 32, 118, 97, 108, 105, 100, 97, 116, 111, 114, 32, 37, 100, 44, 32, 110, 111, 116, 32, 102, 114, 111, 109, 32, 48, 32, 116, 111, 32, 37, 100]⟩ 3 = some [(0, 100, false), (1, 100, false), (2, 100, false)] := by kernel_rfl
theorem fm4r (w : World) : (FmtDoors.printed ⟨#[118, 111, 116, 101, 32, 37, 100, 32, 104, 111, 108, 100, 115, 32, 118, 97, 108, 105, 100, 97, 116, 111, 114, 32, 37, 100, 44, 32, 110, 111, 116, 32, 102, 114, 111, 109, 32, 48, 32, 116, 111, 32, 37, 100]⟩ 3).run Ybaf.prog w = .ok [(0, 100, false), (1, 100, false), (2, 100, false)] w := by kernel_rfl
def shape9 : List UInt8 := [12, 6, 0, 0, 0, 0, 0, 0, 0, 115, 116, 114, 105, 110, 103]
def shape3 : List UInt8 := [5, 3, 0, 0, 0, 0, 0, 0, 0, 105, 110, 116]
theorem act3_100 (name : String) (x : Value) (w : World) : (FmtCalls.act name false 100 false (.iface 3 x)).run Ybaf.prog w = .ok (.closed false) w := by kernel_rfl
theorem op3_100 (name : String) (x : Int) (w : World) : (FmtStop.operand name false 100 false (.iface 3 (.int .i64 x))).run Ybaf.prog w = .ok (shape3, Go.Extern.Stop.digits 8 (x % 2 ^ 64).toNat) w := by kernel_rfl
theorem act9_100 (name : String) (x : Value) (w : World) : (FmtCalls.act name false 100 false (.iface 9 x)).run Ybaf.prog w = .ok (.closed false) w := by kernel_rfl
theorem op9_100 (name : String) (x : ByteArray) (w : World) : (FmtStop.operand name false 100 false (.iface 9 (.string x))).run Ybaf.prog w = .ok (shape9, FmtStop.pack x.data.toList) w := by kernel_rfl
theorem act3_113 (name : String) (x : Value) (w : World) : (FmtCalls.act name false 113 false (.iface 3 x)).run Ybaf.prog w = .ok (.closed false) w := by kernel_rfl
theorem op3_113 (name : String) (x : Int) (w : World) : (FmtStop.operand name false 113 false (.iface 3 (.int .i64 x))).run Ybaf.prog w = .ok (shape3, Go.Extern.Stop.digits 8 (x % 2 ^ 64).toNat) w := by kernel_rfl
theorem act9_113 (name : String) (x : Value) (w : World) : (FmtCalls.act name false 113 false (.iface 9 x)).run Ybaf.prog w = .ok (.closed false) w := by kernel_rfl
theorem op9_113 (name : String) (x : ByteArray) (w : World) : (FmtStop.operand name false 113 false (.iface 9 (.string x))).run Ybaf.prog w = .ok (shape9, FmtStop.pack x.data.toList) w := by kernel_rfl
theorem str3 (w : World) : (typeStr 3).run Ybaf.prog w = .ok "int" w := by kernel_rfl
theorem str9 (w : World) : (typeStr 9).run Ybaf.prog w = .ok "string" w := by kernel_rfl
attribute [local go_sem] call11 fguard fm0 fm0r fm1 fm1r fm2 fm2r fm3 fm3r fm4 fm4r act3_100 op3_100 act9_100 op9_100 act3_113 op3_113 act9_113 op9_113 str3 str9

/-- The field's name: "script.votes". -/
def fieldName : ByteArray := ⟨#[115, 99, 114, 105, 112, 116, 46, 118, 111, 116, 101, 115]⟩

/-- What 'wrong' hands back: a *FieldError in a new block, its field named; nothing old has turned. -/
def Wrong (w : World) (e : Ending) (w' : World) : Prop :=
  e = .returned (.iface 46 (.pointer (some ⟨w.heap.size, 0, none⟩))) ∧ w'.cell? ⟨w.heap.size, 0, none⟩ = some (.string fieldName) ∧ Below w.heap.size w w'

theorem wrong_mk (w : World) (x : Value) : Wrong w (.returned (.iface 46 (.pointer (some ⟨w.heap.size, 0, none⟩)))) ((w.alloc (.cells #[.string fieldName, x] 49)).drew) :=
  ⟨rfl, by simp, ((Below.refl _ _).alloc (Nat.le_refl _) _).drew⟩

set_option maxHeartbeats 400000 in
theorem wrong0 (F : Interp) (i : Int) (ad : Nat) (w : World) (hF : F.answers w.tape) (h0 : w.cell? ⟨ad, 0, none⟩ = some (.iface 3 (.int .i64 i))) :
    Calls Ybaf.prog 10 #[.string ⟨#[118, 111, 116, 101, 32, 37, 100, 32, 104, 97, 115, 32, 110, 111, 32, 115, 108, 111, 116]⟩, .slice (some ⟨ad, 0, none⟩) 1 1] w fun e w' => Wrong w e w' := by
  have hF' := answers_open hF
  go_enter Ybaf.func10, Ybaf.ntmps10
  go_wp2
  apply rows_value nextTurns
  case hr => go_simp; exact ⟨rfl, rfl⟩
  case h =>
    go_wp2
    go_ret
    exact wrong_mk w _

set_option maxHeartbeats 400000 in
theorem wrong1 (F : Interp) (i : Int) (ad : Nat) (w : World) (hF : F.answers w.tape) (h0 : w.cell? ⟨ad, 0, none⟩ = some (.iface 3 (.int .i64 i))) :
    Calls Ybaf.prog 10 #[.string ⟨#[118, 111, 116, 101, 32, 37, 100, 32, 104, 97, 115, 32, 110, 111, 32, 104, 101, 97, 100]⟩, .slice (some ⟨ad, 0, none⟩) 1 1] w fun e w' => Wrong w e w' := by
  have hF' := answers_open hF
  go_enter Ybaf.func10, Ybaf.ntmps10
  go_wp2
  apply rows_value nextTurns
  case hr => go_simp; exact ⟨rfl, rfl⟩
  case h =>
    go_wp2
    go_ret
    exact wrong_mk w _

set_option maxHeartbeats 400000 in
theorem wrong2 (F : Interp) (i : Int) (q : ByteArray) (ad : Nat) (w : World) (hF : F.answers w.tape) (h0 : w.cell? ⟨ad, 0, none⟩ = some (.iface 3 (.int .i64 i))) (h1 : w.cell? ⟨ad, 1, none⟩ = some (.iface 9 (.string q))) :
    Calls Ybaf.prog 10 #[.string ⟨#[118, 111, 116, 101, 32, 37, 100, 58, 32, 105, 116, 115, 32, 104, 101, 97, 100, 32, 37, 113, 32, 105, 115, 32, 110, 111, 116, 32, 116, 104, 101, 32, 103, 101, 110, 101, 115, 105, 115, 32, 111, 114, 32, 97, 32, 108, 105, 115, 116, 101, 100, 32, 98, 108, 111, 99, 107]⟩, .slice (some ⟨ad, 0, none⟩) 2 2] w fun e w' => Wrong w e w' := by
  have hF' := answers_open hF
  go_enter Ybaf.func10, Ybaf.ntmps10
  go_wp2
  apply rows_value nextTurns
  case hr => go_simp; exact ⟨rfl, rfl⟩
  case h =>
    go_wp2
    go_ret
    exact wrong_mk w _

set_option maxHeartbeats 400000 in
theorem wrong3 (F : Interp) (i : Int) (s : Int) (q : ByteArray) (b : Int) (ad : Nat) (w : World) (hF : F.answers w.tape) (h0 : w.cell? ⟨ad, 0, none⟩ = some (.iface 3 (.int .i64 i))) (h1 : w.cell? ⟨ad, 1, none⟩ = some (.iface 3 (.int .i64 s))) (h2 : w.cell? ⟨ad, 2, none⟩ = some (.iface 9 (.string q))) (h3 : w.cell? ⟨ad, 3, none⟩ = some (.iface 3 (.int .i64 b))) :
    Calls Ybaf.prog 10 #[.string ⟨#[118, 111, 116, 101, 32, 37, 100, 44, 32, 97, 116, 32, 115, 108, 111, 116, 32, 37, 100, 44, 32, 110, 97, 109, 101, 115, 32, 116, 104, 101, 32, 104, 101, 97, 100, 32, 37, 113, 32, 111, 102, 32, 116, 104, 101, 32, 108, 97, 116, 101, 114, 32, 115, 108, 111, 116, 32, 37, 100]⟩, .slice (some ⟨ad, 0, none⟩) 4 4] w fun e w' => Wrong w e w' := by
  have hF' := answers_open hF
  go_enter Ybaf.func10, Ybaf.ntmps10
  go_wp2
  apply rows_value nextTurns
  case hr => go_simp; exact ⟨rfl, rfl⟩
  case h =>
    go_wp2
    go_ret
    exact wrong_mk w _

set_option maxHeartbeats 400000 in
theorem wrong4 (F : Interp) (i : Int) (x : Int) (m : Int) (ad : Nat) (w : World) (hF : F.answers w.tape) (h0 : w.cell? ⟨ad, 0, none⟩ = some (.iface 3 (.int .i64 i))) (h1 : w.cell? ⟨ad, 1, none⟩ = some (.iface 3 (.int .i64 x))) (h2 : w.cell? ⟨ad, 2, none⟩ = some (.iface 3 (.int .i64 m))) :
    Calls Ybaf.prog 10 #[.string ⟨#[118, 111, 116, 101, 32, 37, 100, 32, 104, 111, 108, 100, 115, 32, 118, 97, 108, 105, 100, 97, 116, 111, 114, 32, 37, 100, 44, 32, 110, 111, 116, 32, 102, 114, 111, 109, 32, 48, 32, 116, 111, 32, 37, 100]⟩, .slice (some ⟨ad, 0, none⟩) 3 3] w fun e w' => Wrong w e w' := by
  have hF' := answers_open hF
  go_enter Ybaf.func10, Ybaf.ntmps10
  go_wp2
  apply rows_value nextTurns
  case hr => go_simp; exact ⟨rfl, rfl⟩
  case h =>
    go_wp2
    go_ret
    exact wrong_mk w _

end Go.Proofs.YbulkctcuFmt
