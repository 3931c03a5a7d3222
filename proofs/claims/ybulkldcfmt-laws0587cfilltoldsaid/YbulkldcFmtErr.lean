/-
  fmt.Errorf AT THE EIGHT FORMATS ON THE ROAD OF 'group.LawS0587CFill': each makes a new error; nothing old turns.
-/
import Derived.Test.YbulkldcFmtFacts
import Derived.WalkKit
import Derived.WalkSpells
namespace Go.Proofs
open Go.Extern.Stop Go.Stop Go.Extern

def Ybaf.shape9 : List UInt8 := [12, 6, 0, 0, 0, 0, 0, 0, 0, 115, 116, 114, 105, 110, 103]
def Ybaf.shape3 : List UInt8 := [FmtStop.intCode .i64, 3, 0, 0, 0, 0, 0, 0, 0, 105, 110, 116]
def Ybaf.shape42 : List UInt8 := FmtStop.intCode .i64 :: FmtStop.pack "ledger.Height".toUTF8.data.toList
-- type 9: string; 113: q, 115: s; type 3: int; type 42: ledger.Height
theorem Ybaf.act9_113 (name : String) (x : Value) (w : World) : (FmtCalls.act name true 113 false (.iface 9 x)).run Ybaf.prog w = .ok (.closed true) w := by kernel_rfl
theorem Ybaf.act9_115 (name : String) (x : Value) (w : World) : (FmtCalls.act name true 115 false (.iface 9 x)).run Ybaf.prog w = .ok (.closed true) w := by kernel_rfl
theorem Ybaf.act3_100 (name : String) (x : Value) (w : World) : (FmtCalls.act name true 100 false (.iface 3 x)).run Ybaf.prog w = .ok (.closed true) w := by kernel_rfl
theorem Ybaf.act42_100 (name : String) (x : Value) (w : World) : (FmtCalls.act name true 100 false (.iface 42 x)).run Ybaf.prog w = .ok (.closed true) w := by kernel_rfl
theorem Ybaf.op9_113 (name : String) (s : ByteArray) (w : World) : (FmtStop.operand name true 113 false (.iface 9 (.string s))).run Ybaf.prog w = .ok (Ybaf.shape9, FmtStop.pack s.data.toList) w := by kernel_rfl
theorem Ybaf.op9_115 (name : String) (s : ByteArray) (w : World) : (FmtStop.operand name true 115 false (.iface 9 (.string s))).run Ybaf.prog w = .ok (Ybaf.shape9, FmtStop.pack s.data.toList) w := by kernel_rfl
theorem Ybaf.op3_100 (name : String) (x : Int) (w : World) : (FmtStop.operand name true 100 false (.iface 3 (.int .i64 x))).run Ybaf.prog w = .ok (Ybaf.shape3, Go.Extern.Stop.digits 8 (x % 2 ^ 64).toNat) w := by kernel_rfl
theorem Ybaf.op42_100 (name : String) (x : Int) (w : World) : (FmtStop.operand name true 100 false (.iface 42 (.int .i64 x))).run Ybaf.prog w = .ok (Ybaf.shape42, Go.Extern.Stop.digits 8 (x % 2 ^ 64).toNat) w := by kernel_rfl

-- 'signed by %q, not by %s, %q'
theorem Ybaf.fillA : FmtStop.printed? ⟨#[115, 105, 103, 110, 101, 100, 32, 98, 121, 32, 37, 113, 44, 32, 110, 111, 116, 32, 98, 121, 32, 37, 115, 44, 32, 37, 113]⟩ 3 = some [(0, 113, false), (1, 115, false), (2, 113, false)] := by kernel_rfl
theorem Ybaf.fillAr (w : World) : (FmtDoors.printed ⟨#[115, 105, 103, 110, 101, 100, 32, 98, 121, 32, 37, 113, 44, 32, 110, 111, 116, 32, 98, 121, 32, 37, 115, 44, 32, 37, 113]⟩ 3).run Ybaf.prog w = .ok [(0, 113, false), (1, 115, false), (2, 113, false)] w := by kernel_rfl
-- 'group %q has no lead to sign'
theorem Ybaf.fillB : FmtStop.printed? ⟨#[103, 114, 111, 117, 112, 32, 37, 113, 32, 104, 97, 115, 32, 110, 111, 32, 108, 101, 97, 100, 32, 116, 111, 32, 115, 105, 103, 110]⟩ 1 = some [(0, 113, false)] := by kernel_rfl
theorem Ybaf.fillBr (w : World) : (FmtDoors.printed ⟨#[103, 114, 111, 117, 112, 32, 37, 113, 32, 104, 97, 115, 32, 110, 111, 32, 108, 101, 97, 100, 32, 116, 111, 32, 115, 105, 103, 110]⟩ 1).run Ybaf.prog w = .ok [(0, 113, false)] w := by kernel_rfl
-- 'no pending application %q to opening %q'
theorem Ybaf.fillC : FmtStop.printed? ⟨#[110, 111, 32, 112, 101, 110, 100, 105, 110, 103, 32, 97, 112, 112, 108, 105, 99, 97, 116, 105, 111, 110, 32, 37, 113, 32, 116, 111, 32, 111, 112, 101, 110, 105, 110, 103, 32, 37, 113]⟩ 2 = some [(0, 113, false), (1, 113, false)] := by kernel_rfl
theorem Ybaf.fillCr (w : World) : (FmtDoors.printed ⟨#[110, 111, 32, 112, 101, 110, 100, 105, 110, 103, 32, 97, 112, 112, 108, 105, 99, 97, 116, 105, 111, 110, 32, 37, 113, 32, 116, 111, 32, 111, 112, 101, 110, 105, 110, 103, 32, 37, 113]⟩ 2).run Ybaf.prog w = .ok [(0, 113, false), (1, 113, false)] w := by kernel_rfl
-- 'application %q wins twice'
theorem Ybaf.fillD : FmtStop.printed? ⟨#[97, 112, 112, 108, 105, 99, 97, 116, 105, 111, 110, 32, 37, 113, 32, 119, 105, 110, 115, 32, 116, 119, 105, 99, 101]⟩ 1 = some [(0, 113, false)] := by kernel_rfl
theorem Ybaf.fillDr (w : World) : (FmtDoors.printed ⟨#[97, 112, 112, 108, 105, 99, 97, 116, 105, 111, 110, 32, 37, 113, 32, 119, 105, 110, 115, 32, 116, 119, 105, 99, 101]⟩ 1).run Ybaf.prog w = .ok [(0, 113, false)] w := by kernel_rfl
-- 'a lead opening takes one winner, not %d'
theorem Ybaf.fillE : FmtStop.printed? ⟨#[97, 32, 108, 101, 97, 100, 32, 111, 112, 101, 110, 105, 110, 103, 32, 116, 97, 107, 101, 115, 32, 111, 110, 101, 32, 119, 105, 110, 110, 101, 114, 44, 32, 110, 111, 116, 32, 37, 100]⟩ 1 = some [(0, 100, false)] := by kernel_rfl
theorem Ybaf.fillEr (w : World) : (FmtDoors.printed ⟨#[97, 32, 108, 101, 97, 100, 32, 111, 112, 101, 110, 105, 110, 103, 32, 116, 97, 107, 101, 115, 32, 111, 110, 101, 32, 119, 105, 110, 110, 101, 114, 44, 32, 110, 111, 116, 32, 37, 100]⟩ 1).run Ybaf.prog w = .ok [(0, 100, false)] w := by kernel_rfl
-- 'group %q has a lead, %q'
theorem Ybaf.fillF : FmtStop.printed? ⟨#[103, 114, 111, 117, 112, 32, 37, 113, 32, 104, 97, 115, 32, 97, 32, 108, 101, 97, 100, 44, 32, 37, 113]⟩ 2 = some [(0, 113, false), (1, 113, false)] := by kernel_rfl
theorem Ybaf.fillFr (w : World) : (FmtDoors.printed ⟨#[103, 114, 111, 117, 112, 32, 37, 113, 32, 104, 97, 115, 32, 97, 32, 108, 101, 97, 100, 44, 32, 37, 113]⟩ 2).run Ybaf.prog w = .ok [(0, 113, false), (1, 113, false)] w := by kernel_rfl
-- 'workers now %d, winners %d: more than the group's most, %d'
theorem Ybaf.fillG : FmtStop.printed? ⟨#[119, 111, 114, 107, 101, 114, 115, 32, 110, 111, 119, 32, 37, 100, 44, 32, 119, 105, 110, 110, 101, 114, 115, 32, 37, 100, 58, 32, 109, 111, 114, 101, 32, 116, 104, 97, 110, 32, 116, 104, 101, 32, 103, 114, 111, 117, 112, 39, 115, 32, 109, 111, 115, 116, 44, 32, 37, 100]⟩ 3 = some [(0, 100, false), (1, 100, false), (2, 100, false)] := by kernel_rfl
theorem Ybaf.fillGr (w : World) : (FmtDoors.printed ⟨#[119, 111, 114, 107, 101, 114, 115, 32, 110, 111, 119, 32, 37, 100, 44, 32, 119, 105, 110, 110, 101, 114, 115, 32, 37, 100, 58, 32, 109, 111, 114, 101, 32, 116, 104, 97, 110, 32, 116, 104, 101, 32, 103, 114, 111, 117, 112, 39, 115, 32, 109, 111, 115, 116, 44, 32, 37, 100]⟩ 3).run Ybaf.prog w = .ok [(0, 100, false), (1, 100, false), (2, 100, false)] w := by kernel_rfl
-- 'height %d is below the ledger's height %d'
theorem Ybaf.fillH : FmtStop.printed? ⟨#[104, 101, 105, 103, 104, 116, 32, 37, 100, 32, 105, 115, 32, 98, 101, 108, 111, 119, 32, 116, 104, 101, 32, 108, 101, 100, 103, 101, 114, 39, 115, 32, 104, 101, 105, 103, 104, 116, 32, 37, 100]⟩ 2 = some [(0, 100, false), (1, 100, false)] := by kernel_rfl
theorem Ybaf.fillHr (w : World) : (FmtDoors.printed ⟨#[104, 101, 105, 103, 104, 116, 32, 37, 100, 32, 105, 115, 32, 98, 101, 108, 111, 119, 32, 116, 104, 101, 32, 108, 101, 100, 103, 101, 114, 39, 115, 32, 104, 101, 105, 103, 104, 116, 32, 37, 100]⟩ 2).run Ybaf.prog w = .ok [(0, 100, false), (1, 100, false)] w := by kernel_rfl
end Go.Proofs

namespace Go.Proofs.YbulkldcFmt
open Go.RowKit Go.Extern.Stop Go.Stop Go.Extern
attribute [local go_sem] Ybaf.call39 Ybaf.guard Ybaf.act2_100w Ybaf.op2_100w Ybaf.ptr105 Ybaf.elem105 Ybaf.isError105 Ybaf.act9_113 Ybaf.act9_115 Ybaf.act3_100 Ybaf.act42_100 Ybaf.op9_113 Ybaf.op9_115 Ybaf.op3_100 Ybaf.op42_100
attribute [local go_sem] Ybaf.fillA Ybaf.fillAr Ybaf.fillB Ybaf.fillBr Ybaf.fillC Ybaf.fillCr Ybaf.fillD Ybaf.fillDr Ybaf.fillE Ybaf.fillEr Ybaf.fillF Ybaf.fillFr Ybaf.fillG Ybaf.fillGr Ybaf.fillH Ybaf.fillHr

/-- A new error. -/
def NewErr (w : World) (e : Ending) (w' : World) : Prop := ∃ t : ByteArray, e = .returned (.iface 105 (.pointer (some ⟨w.heap.size, 0, none⟩))) ∧ w' = (w.alloc (.cells #[.string t] 107)).drew

set_option maxHeartbeats 400000 in
set_option maxRecDepth 100000 in
theorem errA (F : Interp) (s0 : ByteArray) (s1 : ByteArray) (s2 : ByteArray) (g : Nat) (w : World) (hF : F.answers w.tape) (h0 : w.cell? ⟨g, 0, none⟩ = some (.iface 9 (.string s0))) (h1 : w.cell? ⟨g, 1, none⟩ = some (.iface 9 (.string s1))) (h2 : w.cell? ⟨g, 2, none⟩ = some (.iface 9 (.string s2))) :
    Calls Ybaf.prog 24 #[.string ⟨#[115, 105, 103, 110, 101, 100, 32, 98, 121, 32, 37, 113, 44, 32, 110, 111, 116, 32, 98, 121, 32, 37, 115, 44, 32, 37, 113]⟩, .slice (some ⟨g, 0, none⟩) 3 3] w (NewErr w) := by
  have hF' := answers_open hF
  go_enter Ybaf.func24, Ybaf.ntmps24
  go_wp2
  apply rows_value Ybaf.nextTurns
  case hr =>
    go_simp
    exact ⟨rfl, rfl⟩
  case h =>
    go_wp2
    go_ret
    exact ⟨_, rfl, rfl⟩

set_option maxHeartbeats 400000 in
set_option maxRecDepth 100000 in
theorem errB (F : Interp) (s0 : ByteArray) (g : Nat) (w : World) (hF : F.answers w.tape) (h0 : w.cell? ⟨g, 0, none⟩ = some (.iface 9 (.string s0))) :
    Calls Ybaf.prog 24 #[.string ⟨#[103, 114, 111, 117, 112, 32, 37, 113, 32, 104, 97, 115, 32, 110, 111, 32, 108, 101, 97, 100, 32, 116, 111, 32, 115, 105, 103, 110]⟩, .slice (some ⟨g, 0, none⟩) 1 1] w (NewErr w) := by
  have hF' := answers_open hF
  go_enter Ybaf.func24, Ybaf.ntmps24
  go_wp2
  apply rows_value Ybaf.nextTurns
  case hr =>
    go_simp
    exact ⟨rfl, rfl⟩
  case h =>
    go_wp2
    go_ret
    exact ⟨_, rfl, rfl⟩

set_option maxHeartbeats 400000 in
set_option maxRecDepth 100000 in
theorem errC (F : Interp) (s0 : ByteArray) (s1 : ByteArray) (g : Nat) (w : World) (hF : F.answers w.tape) (h0 : w.cell? ⟨g, 0, none⟩ = some (.iface 9 (.string s0))) (h1 : w.cell? ⟨g, 1, none⟩ = some (.iface 9 (.string s1))) :
    Calls Ybaf.prog 24 #[.string ⟨#[110, 111, 32, 112, 101, 110, 100, 105, 110, 103, 32, 97, 112, 112, 108, 105, 99, 97, 116, 105, 111, 110, 32, 37, 113, 32, 116, 111, 32, 111, 112, 101, 110, 105, 110, 103, 32, 37, 113]⟩, .slice (some ⟨g, 0, none⟩) 2 2] w (NewErr w) := by
  have hF' := answers_open hF
  go_enter Ybaf.func24, Ybaf.ntmps24
  go_wp2
  apply rows_value Ybaf.nextTurns
  case hr =>
    go_simp
    exact ⟨rfl, rfl⟩
  case h =>
    go_wp2
    go_ret
    exact ⟨_, rfl, rfl⟩

set_option maxHeartbeats 400000 in
set_option maxRecDepth 100000 in
theorem errD (F : Interp) (s0 : ByteArray) (g : Nat) (w : World) (hF : F.answers w.tape) (h0 : w.cell? ⟨g, 0, none⟩ = some (.iface 9 (.string s0))) :
    Calls Ybaf.prog 24 #[.string ⟨#[97, 112, 112, 108, 105, 99, 97, 116, 105, 111, 110, 32, 37, 113, 32, 119, 105, 110, 115, 32, 116, 119, 105, 99, 101]⟩, .slice (some ⟨g, 0, none⟩) 1 1] w (NewErr w) := by
  have hF' := answers_open hF
  go_enter Ybaf.func24, Ybaf.ntmps24
  go_wp2
  apply rows_value Ybaf.nextTurns
  case hr =>
    go_simp
    exact ⟨rfl, rfl⟩
  case h =>
    go_wp2
    go_ret
    exact ⟨_, rfl, rfl⟩

set_option maxHeartbeats 400000 in
set_option maxRecDepth 100000 in
theorem errE (F : Interp) (x0 : Int) (g : Nat) (w : World) (hF : F.answers w.tape) (h0 : w.cell? ⟨g, 0, none⟩ = some (.iface 3 (.int .i64 x0))) :
    Calls Ybaf.prog 24 #[.string ⟨#[97, 32, 108, 101, 97, 100, 32, 111, 112, 101, 110, 105, 110, 103, 32, 116, 97, 107, 101, 115, 32, 111, 110, 101, 32, 119, 105, 110, 110, 101, 114, 44, 32, 110, 111, 116, 32, 37, 100]⟩, .slice (some ⟨g, 0, none⟩) 1 1] w (NewErr w) := by
  have hF' := answers_open hF
  go_enter Ybaf.func24, Ybaf.ntmps24
  go_wp2
  apply rows_value Ybaf.nextTurns
  case hr =>
    go_simp
    exact ⟨rfl, rfl⟩
  case h =>
    go_wp2
    go_ret
    exact ⟨_, rfl, rfl⟩

set_option maxHeartbeats 400000 in
set_option maxRecDepth 100000 in
theorem errF (F : Interp) (s0 : ByteArray) (s1 : ByteArray) (g : Nat) (w : World) (hF : F.answers w.tape) (h0 : w.cell? ⟨g, 0, none⟩ = some (.iface 9 (.string s0))) (h1 : w.cell? ⟨g, 1, none⟩ = some (.iface 9 (.string s1))) :
    Calls Ybaf.prog 24 #[.string ⟨#[103, 114, 111, 117, 112, 32, 37, 113, 32, 104, 97, 115, 32, 97, 32, 108, 101, 97, 100, 44, 32, 37, 113]⟩, .slice (some ⟨g, 0, none⟩) 2 2] w (NewErr w) := by
  have hF' := answers_open hF
  go_enter Ybaf.func24, Ybaf.ntmps24
  go_wp2
  apply rows_value Ybaf.nextTurns
  case hr =>
    go_simp
    exact ⟨rfl, rfl⟩
  case h =>
    go_wp2
    go_ret
    exact ⟨_, rfl, rfl⟩

set_option maxHeartbeats 400000 in
set_option maxRecDepth 100000 in
theorem errG (F : Interp) (x0 : Int) (x1 : Int) (x2 : Int) (g : Nat) (w : World) (hF : F.answers w.tape) (h0 : w.cell? ⟨g, 0, none⟩ = some (.iface 3 (.int .i64 x0))) (h1 : w.cell? ⟨g, 1, none⟩ = some (.iface 3 (.int .i64 x1))) (h2 : w.cell? ⟨g, 2, none⟩ = some (.iface 2 (.int .i64 x2))) :
    Calls Ybaf.prog 24 #[.string ⟨#[119, 111, 114, 107, 101, 114, 115, 32, 110, 111, 119, 32, 37, 100, 44, 32, 119, 105, 110, 110, 101, 114, 115, 32, 37, 100, 58, 32, 109, 111, 114, 101, 32, 116, 104, 97, 110, 32, 116, 104, 101, 32, 103, 114, 111, 117, 112, 39, 115, 32, 109, 111, 115, 116, 44, 32, 37, 100]⟩, .slice (some ⟨g, 0, none⟩) 3 3] w (NewErr w) := by
  have hF' := answers_open hF
  go_enter Ybaf.func24, Ybaf.ntmps24
  go_wp2
  apply rows_value Ybaf.nextTurns
  case hr =>
    go_simp
    exact ⟨rfl, rfl⟩
  case h =>
    go_wp2
    go_ret
    exact ⟨_, rfl, rfl⟩

set_option maxHeartbeats 400000 in
set_option maxRecDepth 100000 in
theorem errH (F : Interp) (x0 : Int) (x1 : Int) (g : Nat) (w : World) (hF : F.answers w.tape) (h0 : w.cell? ⟨g, 0, none⟩ = some (.iface 42 (.int .i64 x0))) (h1 : w.cell? ⟨g, 1, none⟩ = some (.iface 42 (.int .i64 x1))) :
    Calls Ybaf.prog 24 #[.string ⟨#[104, 101, 105, 103, 104, 116, 32, 37, 100, 32, 105, 115, 32, 98, 101, 108, 111, 119, 32, 116, 104, 101, 32, 108, 101, 100, 103, 101, 114, 39, 115, 32, 104, 101, 105, 103, 104, 116, 32, 37, 100]⟩, .slice (some ⟨g, 0, none⟩) 2 2] w (NewErr w) := by
  have hF' := answers_open hF
  go_enter Ybaf.func24, Ybaf.ntmps24
  go_wp2
  apply rows_value Ybaf.nextTurns
  case hr =>
    go_simp
    exact ⟨rfl, rfl⟩
  case h =>
    go_wp2
    go_ret
    exact ⟨_, rfl, rfl⟩

end Go.Proofs.YbulkldcFmt
