/-
  THE SMALL FUNCTIONS on the road of 'group.LawS0587CFill'.
-/
import Derived.Test.YbulkldcFmtRoster
namespace Go.Proofs.YbulkldcFmt
open Go.RowKit Go.Extern.Stop Go.Stop Go.Extern
set_option linter.unusedVariables false

def wk (i : Nat) : ByteArray := ⟨#[119, UInt8.ofNat (48 + i)]⟩
def rk (i : Nat) : ByteArray := ⟨#[114, UInt8.ofNat (48 + i)]⟩
def ak (i : Nat) : ByteArray := ⟨#[97, UInt8.ofNat (48 + i)]⟩

set_option maxHeartbeats 400000 in
set_option maxRecDepth 100000 in
theorem work_any (i : Nat) (hi : i < 5) (w : World) : Calls Ybaf.prog 14 #[.int .i64 i] w fun e w' => e = .returned (.string (wk i)) ∧ ∃ c t, w' = w.alloc (.cells c t) := by
  have h : i = 0 ∨ i = 1 ∨ i = 2 ∨ i = 3 ∨ i = 4 := by omega
  clear hi
  rcases h with rfl | rfl | rfl | rfl | rfl
  all_goals
    go_enter Ybaf.func14, Ybaf.ntmps14
    go_wp2
    go_ret
    exact ⟨rfl, _, _, rfl⟩
set_option maxHeartbeats 400000 in
set_option maxRecDepth 100000 in
theorem role_any (i : Nat) (hi : i < 5) (w : World) : Calls Ybaf.prog 15 #[.int .i64 i] w fun e w' => e = .returned (.string (rk i)) ∧ ∃ c t, w' = w.alloc (.cells c t) := by
  have h : i = 0 ∨ i = 1 ∨ i = 2 ∨ i = 3 ∨ i = 4 := by omega
  clear hi
  rcases h with rfl | rfl | rfl | rfl | rfl
  all_goals
    go_enter Ybaf.func15, Ybaf.ntmps15
    go_wp2
    go_ret
    exact ⟨rfl, _, _, rfl⟩
set_option maxHeartbeats 800000 in
set_option maxRecDepth 100000 in
theorem app_any (i : Nat) (hi : i < 8) (w : World) : Calls Ybaf.prog 16 #[.int .i64 i] w fun e w' => e = .returned (.string (ak i)) ∧ ∃ c t, w' = w.alloc (.cells c t) := by
  have h : i = 0 ∨ i = 1 ∨ i = 2 ∨ i = 3 ∨ i = 4 ∨ i = 5 ∨ i = 6 ∨ i = 7 := by omega
  clear hi
  rcases h with rfl | rfl | rfl | rfl | rfl | rfl | rfl | rfl
  all_goals
    go_enter Ybaf.func16, Ybaf.ntmps16
    go_wp2
    go_ret
    exact ⟨rfl, _, _, rfl⟩

theorem byte_inj {i j : Nat} (hi : i < 8) (hj : j < 8) (h : UInt8.ofNat (48 + i) = UInt8.ofNat (48 + j)) : i = j := by
  have := congrArg UInt8.toNat h
  simp at this
  omega
theorem wk_inj {i j : Nat} (hi : i < 8) (hj : j < 8) (h : wk i = wk j) : i = j := by
  unfold wk at h
  injection h with h
  injection h with h
  injection h with _ h
  injection h with h _
  exact byte_inj hi hj h
theorem ak_inj {i j : Nat} (hi : i < 8) (hj : j < 8) (h : ak i = ak j) : i = j := by
  unfold ak at h
  injection h with h
  injection h with h
  injection h with _ h
  injection h with h _
  exact byte_inj hi hj h
theorem size_wk (i : Nat) : (wk i).size ≤ maxLen := by show 2 ≤ maxLen; unfold maxLen; omega
theorem size_ak (i : Nat) : (ak i).size ≤ maxLen := by show 2 ≤ maxLen; unfold maxLen; omega

set_option maxHeartbeats 400000 in
set_option maxRecDepth 100000 in
/-- signed. -/
theorem signed_ok (s u : ByteArray) (w : World) : Calls Ybaf.prog 42 #[.string s, .string s, .string u] w fun e w' => e = .returned .nilIface ∧ w' = w := by
  go_enter Ybaf.func42, Ybaf.ntmps42
  go_wp2
  go_ret
  exact ⟨rfl, rfl⟩

/-- A new error came back; nothing old turned. -/
def Bad (w : World) (e : Ending) (w' : World) : Prop := (∃ b, e = .returned (.iface 105 (ptr b))) ∧ Below w.heap.size w w'

theorem newErr_bad {w w0 : World} {e : Ending} {w' : World} (h : NewErr w e w') (hb : Below w0.heap.size w0 w) : ∃ b, e = .returned (.iface 105 (.pointer (some ⟨b, 0, none⟩))) ∧ Below w0.heap.size w0 w' := by
  obtain ⟨t, rfl, rfl⟩ := h
  exact ⟨_, rfl, (hb.alloc hb.size _).drew⟩

set_option maxHeartbeats 400000 in
set_option maxRecDepth 100000 in
theorem signed_bad (F : Interp) (s t u : ByteArray) (w : World) (hF : F.answers w.tape) (hst : (s.toList == t.toList) = false) :
    Calls Ybaf.prog 42 #[.string s, .string t, .string u] w (Bad w) := by
  go_enter Ybaf.func42, Ybaf.ntmps42
  go_wp2_with (first | (go_at_call 24; refine (errA F s u t w.heap.size _ (by exact hF) (by go_simp) (by go_simp) (by go_simp)).mono ?_; intro e w' hne; obtain ⟨b, rfl, hbel⟩ := newErr_bad hne ((Below.refl _ w).alloc (Nat.le_refl _) _)))
  go_ret
  exact ⟨⟨_, rfl⟩, hbel⟩

set_option maxHeartbeats 400000 in
set_option maxRecDepth 100000 in
/-- checkHeight, Advance. -/
theorem advance_ok (b : Nat) (at0 : Int) (w : World) (h : w.cell? ⟨b, 0, none⟩ = some (.int .i64 0)) (hf : w.frozen? ⟨b, 0, none⟩ = false) (hat : 0 ≤ at0) :
    Calls Ybaf.prog 32 #[.pointer (some ⟨b, 0, none⟩), .int .i64 at0] w fun e w' => e = .returned .nilIface ∧ w' = w.setCell ⟨b, 0, none⟩ (.int .i64 at0) := by
  go_enter Ybaf.func32, Ybaf.ntmps32
  go_wp2_with (first | (go_at_call 45; go_in))
  go_ret
  exact ⟨rfl, rfl⟩

set_option maxHeartbeats 400000 in
set_option maxRecDepth 100000 in
theorem check_bad (F : Interp) (b : Nat) (at0 : Int) (w : World) (hF : F.answers w.tape) (h : w.cell? ⟨b, 0, none⟩ = some (.int .i64 0)) (hat : at0 < 0) :
    Calls Ybaf.prog 45 #[.pointer (some ⟨b, 0, none⟩), .int .i64 at0] w (Bad w) := by
  go_enter Ybaf.func45, Ybaf.ntmps45
  go_wp2_with (first | (go_at_call 24; refine (errH F at0 0 w.heap.size _ (by exact hF) (by go_simp) (by go_simp)).mono ?_; intro e w' hne; obtain ⟨b, rfl, hbel⟩ := newErr_bad hne ((Below.refl _ w).alloc (Nat.le_refl _) _)))
  go_ret
  exact ⟨⟨_, rfl⟩, hbel⟩

theorem errNil (b : Nat) (w : World) : (binOp .neq 26 (.iface 105 (.pointer (some ⟨b, 0, none⟩))) .nilIface).run Ybaf.prog w = .ok (.bool true) w := by kernel_rfl
theorem errNil2 (b : Nat) (w : World) : (binOp .eql 26 (.iface 105 (.pointer (some ⟨b, 0, none⟩))) .nilIface).run Ybaf.prog w = .ok (.bool false) w := by kernel_rfl
theorem nilNil (w : World) : (binOp .neq 26 .nilIface .nilIface).run Ybaf.prog w = .ok (.bool false) w := by kernel_rfl
theorem nilNil2 (w : World) : (binOp .eql 26 .nilIface .nilIface).run Ybaf.prog w = .ok (.bool true) w := by kernel_rfl

set_option maxHeartbeats 400000 in
set_option maxRecDepth 100000 in
theorem advance_bad (F : Interp) (b : Nat) (at0 : Int) (w : World) (hF : F.answers w.tape) (h : w.cell? ⟨b, 0, none⟩ = some (.int .i64 0)) (hat : at0 < 0) :
    Calls Ybaf.prog 32 #[.pointer (some ⟨b, 0, none⟩), .int .i64 at0] w (Bad w) := by
  have hne := errNil
  go_enter Ybaf.func32, Ybaf.ntmps32
  go_wp2_with (first | (go_at_call 45; refine (check_bad F b at0 w hF h hat).mono ?_; rintro e w' ⟨⟨b', rfl⟩, hbel⟩; unfold ptr))
  go_ret
  exact ⟨⟨_, rfl⟩, hbel⟩
end Go.Proofs.YbulkldcFmt
