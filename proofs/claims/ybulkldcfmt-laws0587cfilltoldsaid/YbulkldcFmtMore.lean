/-
  MORE OF THE SMALL FUNCTIONS on the road of 'group.LawS0587CFill'.
-/
import Derived.Test.YbulkldcFmtSmall
namespace Go.Proofs.YbulkldcFmt
open Go.RowKit Go.Extern.Stop Go.Stop Go.Extern
set_option linter.unusedVariables false

theorem below_drewN {B : Nat} {a w : World} (h : Below B a w) (n : Nat) : Below B a (w.drewN n) := h.trans ⟨rfl, rfl, rfl, Nat.le_refl _, fun _ _ => rfl⟩
theorem below_of_drew {w w' : World} (h : Below w.drew.heap.size w.drew w') : Below w.heap.size w w' := ⟨h.os, h.tape, h.output, h.size, h.block⟩
theorem store_func (f : Fn) (x y : Array Value) (w : World) (a : Addr) (c : Value) (h : w.cell? a = some c) (hf : w.frozen? a = false) : (store a (.func f x y)).run Ybaf.prog w = .ok () (w.setCell a (.func f x y)) := by
  rw [run_store _ _ _ _ _ rfl, h]
  simp [hf]

set_option maxHeartbeats 400000 in
set_option maxRecDepth 100000 in
theorem gone1 (p1 p2 p3 : Nat) (w : World) (h : w.cell? ⟨p1, 0, none⟩ = some (.slice none 0 0)) :
    Calls Ybaf.prog 61 #[.int .i64 0, .pointer (some ⟨p1, 0, none⟩), .pointer (some ⟨p2, 0, none⟩), .pointer (some ⟨p3, 0, none⟩)] w fun e w' => e = .returned (.int .i64 0) ∧ Below w.heap.size w w' := by
  go_enter Ybaf.func61, Ybaf.ntmps61
  go_wp2_with fail
  go_quiet (fail)
  go_wp2
  go_ret
  exact ⟨rfl, below_drewN (Below.refl _ _) _⟩

set_option maxHeartbeats 400000 in
set_option maxRecDepth 100000 in
/-- gone, nobody leaving. -/
theorem gone_any (h : Int) (w : World) : Calls Ybaf.prog 44 #[.slice none 0 0, .int .i64 h] w fun e w' => e = .returned (.int .i64 0) ∧ Below w.heap.size w w' := by
  have hsf := fun f x y => store_func f x y (((w.alloc (.cells #[.slice none 0 0] 50)).alloc (.cells #[.int .i64 h] 42)).alloc (.cells #[.nilFunc] 180)) ⟨w.heap.size + 1 + 1, 0, none⟩ .nilFunc (by go_simp) (by go_simp)
  go_enter Ybaf.func44, Ybaf.ntmps44
  go_wp2_with (first | (go_at_call 61; refine (gone1 _ _ _ _ (by go_simp)).mono ?_; rintro e w' ⟨rfl, hbel⟩))
  go_ret
  exact ⟨rfl, ((((Below.refl _ w).alloc (Nat.le_refl _) _).alloc (by simp) _).alloc (by simp; omega) _).trans (hbel.mono (by simp; omega))⟩

set_option maxHeartbeats 400000 in
set_option maxRecDepth 100000 in
/-- find. -/
theorem find_any (S M n G : Nat) (f : ByteArray → Option Value) (w : World) (s : ByteArray) (hs : s.size ≤ maxLen) (h2 : w.cell? ⟨S, 2, none⟩ = some (.map (some M))) (hm : MapAt w M n f) (hl : f s = some (ptr G)) :
    Calls Ybaf.prog 41 #[.pointer (some ⟨S, 0, none⟩), .string s] w fun e w' => e = .returned (.tuple #[ptr G, .nilIface]) ∧ w' = w := by
  have hlk := (hm.look Ybaf.underlying93 (z := .pointer none) (by kernel_rfl) hs).1
  rw [hl] at hlk
  unfold ptr at hlk ⊢
  simp only [Option.getD_some, Option.isSome_some] at hlk
  go_enter Ybaf.func41, Ybaf.ntmps41
  go_wp2
  exact bodyPost_ret (v := .tuple #[.pointer (some ⟨G, 0, none⟩), .nilIface]) (by simp [results, Ybaf.results41, go_sem]) rfl ⟨rfl, rfl⟩

set_option maxHeartbeats 400000 in
set_option maxRecDepth 100000 in
/-- Height. -/
theorem height_any (b : Nat) (x : Int) (w : World) (h : w.cell? ⟨b, 0, none⟩ = some (.int .i64 x)) : Calls Ybaf.prog 23 #[.pointer (some ⟨b, 0, none⟩)] w fun e w' => e = .returned (.int .i64 x) ∧ w' = w := by
  go_enter Ybaf.func23, Ybaf.ntmps23
  go_wp2
  go_ret
  exact ⟨rfl, rfl⟩

set_option maxHeartbeats 400000 in
set_option maxRecDepth 100000 in
/-- serving. -/
theorem serving_any (G n : Nat) (m : Option Nat) (f : ByteArray → Option Value) (h : Int) (w : World) (h2 : w.cell? ⟨G, 15, none⟩ = some (.map m)) (hm : (m = none ∧ n = 0) ∨ ∃ M, m = some M ∧ MapAt w M n f) (hl : w.cell? ⟨G, 16, none⟩ = some (.slice none 0 0)) (hn : n ≤ 1000) :
    Calls Ybaf.prog 30 #[.pointer (some ⟨G, 0, none⟩), .int .i64 h] w fun e w' => e = .returned (.int .i64 n) ∧ Below w.heap.size w w' := by
  go_enter Ybaf.func30, Ybaf.ntmps30
  go_wp2_with fail
  go_region_with (first
    | (go_at_call 21; refine (len_21 G 13 n m f _ (by exact h2) (by exact hm)).mono ?_; rintro e w' ⟨rfl, hw⟩; rw [hw]; clear hw w')
    | (go_at_call 44; refine (gone_any _ _).mono ?_; rintro e w' ⟨rfl, hbel⟩))
  all_goals
    go_wp2
    go_ret
    exact ⟨by simp [Act.put]; rw [IntKind.wrap_i64]; omega, below_of_drew hbel⟩

set_option maxHeartbeats 400000 in
set_option maxRecDepth 100000 in
/-- findOpening. -/
theorem findOpening_any (S M n G MO nO l O : Nat) (f fO : ByteArray → Option Value) (w : World) (s t : ByteArray) (hs : s.size ≤ maxLen) (hT : t.size ≤ maxLen) (h2 : w.cell? ⟨S, 2, none⟩ = some (.map (some M))) (hm : MapAt w M n f) (hl : f s = some (ptr G))
    (hO : w.cell? ⟨G, 19, none⟩ = some (.map (some MO))) (hmO : MapAt w MO nO fO) (hlO : fO t = some (ptr l)) (hvO : w.cell? ⟨l, 0, none⟩ = some (ptr O)) :
    Calls Ybaf.prog 27 #[.pointer (some ⟨S, 0, none⟩), .string s, .string t] w fun e w' => e = .returned (.tuple #[ptr G, ptr O, .nilIface]) ∧ w' = w := by
  have hnn := nilNil
  unfold ptr
  go_enter Ybaf.func27, Ybaf.ntmps27
  go_wp2_with (first
    | (go_at_call 41; refine (find_any S M n G f w s hs h2 hm hl).mono ?_; unfold ptr; rintro e w' ⟨rfl, hw⟩; rw [hw]; clear hw w')
    | (go_at_call 20; refine (get_20 G 17 MO nO fO w t hT hO hmO l O hlO hvO).mono ?_; unfold ptr; rintro e w' ⟨rfl, hw⟩; rw [hw]; clear hw w'))
  exact bodyPost_ret (v := .tuple #[.pointer (some ⟨G, 0, none⟩), .pointer (some ⟨O, 0, none⟩), .nilIface]) (by simp [results, Ybaf.results27, go_sem]) rfl ⟨rfl, rfl⟩

set_option maxHeartbeats 400000 in
set_option maxRecDepth 100000 in
/-- signs, the council's. -/
theorem signs_council (G : Nat) (s : ByteArray) (w : World) (h : w.cell? ⟨G, 1, none⟩ = some (.string s)) : Calls Ybaf.prog 28 #[.pointer (some ⟨G, 0, none⟩), .string s, .bool true] w fun e w' => e = .returned .nilIface ∧ w' = w := by
  go_enter Ybaf.func28, Ybaf.ntmps28
  go_wp2_with (first | (go_at_call 42; refine (signed_ok _ _ w).mono ?_; rintro e w' ⟨rfl, hw⟩; rw [hw]; clear hw w'))
  go_ret
  exact ⟨rfl, rfl⟩

set_option maxHeartbeats 400000 in
set_option maxRecDepth 100000 in
theorem signs_council_bad (F : Interp) (G : Nat) (s t : ByteArray) (w : World) (hF : F.answers w.tape) (h : w.cell? ⟨G, 1, none⟩ = some (.string t)) (hst : (s.toList == t.toList) = false) : Calls Ybaf.prog 28 #[.pointer (some ⟨G, 0, none⟩), .string s, .bool true] w (Bad w) := by
  go_enter Ybaf.func28, Ybaf.ntmps28
  go_wp2_with (first | (go_at_call 42; refine (signed_bad F _ _ _ w hF hst).mono ?_; rintro e w' ⟨⟨b, rfl⟩, hbel⟩))
  go_ret
  exact ⟨⟨_, rfl⟩, hbel⟩

set_option maxHeartbeats 400000 in
set_option maxRecDepth 100000 in
/-- signs, no lead. -/
theorem signs_nolead (F : Interp) (G : Nat) (s nm : ByteArray) (w : World) (hF : F.answers w.tape) (h0 : w.cell? ⟨G, 0, none⟩ = some (.string nm)) (h : w.cell? ⟨G, 6, none⟩ = some (.string ⟨#[]⟩)) : Calls Ybaf.prog 28 #[.pointer (some ⟨G, 0, none⟩), .string s, .bool false] w (Bad w) := by
  go_enter Ybaf.func28, Ybaf.ntmps28
  go_wp2_with (first | (go_at_call 24; refine (errB F nm w.heap.size _ (by exact hF) (by go_simp)).mono ?_; intro e w' hne; obtain ⟨b, rfl, hbel⟩ := newErr_bad hne ((Below.refl _ w).alloc (Nat.le_refl _) _)))
  go_ret
  exact ⟨⟨_, rfl⟩, hbel⟩

theorem wk_zero : wk 0 = ⟨#[119, 48]⟩ := by decide +kernel
theorem leadEq (w : World) : (binOp .eql 9 (.string ⟨#[119, 48]⟩) (.string ⟨#[]⟩)).run Ybaf.prog w = .ok (.bool false) w := by kernel_rfl

set_option maxHeartbeats 1000000 in
set_option maxRecDepth 100000 in
/-- signs, by the lead's role: the role is s or another. -/
theorem signs_lead (F : Interp) (G M n l W : Nat) (f : ByteArray → Option Value) (s t : ByteArray) (w : World) (hF : F.answers w.tape) (h : w.cell? ⟨G, 6, none⟩ = some (.string (wk 0))) (h2 : w.cell? ⟨G, 15, none⟩ = some (.map (some M))) (hm : MapAt w M n f) (hl : f (wk 0) = some (ptr l)) (hv : w.cell? ⟨l, 0, none⟩ = some (ptr W)) (hr : w.cell? ⟨W, 2, none⟩ = some (.string t)) (hst : s = t ∨ (s.toList == t.toList) = false) :
    Calls Ybaf.prog 28 #[.pointer (some ⟨G, 0, none⟩), .string s, .bool false] w fun e w' => (s = t → e = .returned .nilIface) ∧ ((s.toList == t.toList) = false → ∃ b, e = .returned (.iface 105 (ptr b))) ∧ Below w.heap.size w w' := by
  have hle := leadEq
  have hsz : (⟨#[119, 48]⟩ : ByteArray).size ≤ maxLen := by show 2 ≤ maxLen; unfold maxLen; omega
  rw [wk_zero] at h hl
  have HM := hide hm
  have HL := hide hl
  clear hm hl
  go_enter Ybaf.func28, Ybaf.ntmps28
  go_wp2_with fail
  go_quiet ((go_at_call 43; exact Calls.quiet_of_same (get_43 G 13 M n f _ _ hsz (by exact h2) (by exact HM.out) l W HL.out (by exact hv))))
  unfold ptr
  rcases hst with rfl | hst
  · go_wp2_with (first | (go_at_call 42; refine (signed_ok _ _ _).mono ?_; rintro e w' ⟨rfl, hw⟩; rw [hw]; clear hw w'))
    go_ret
    exact ⟨rfl, below_drewN (Below.refl _ _) _⟩
  · go_wp2_with (first | (go_at_call 42; refine (signed_bad F _ _ _ _ (by exact hF) hst).mono ?_; rintro e w' ⟨⟨b, rfl⟩, hbel⟩))
    go_ret
    exact ⟨fun h => by subst h; simp at hst, fun _ => ⟨_, rfl⟩, (below_drewN (Below.refl _ _) _).trans hbel⟩
end Go.Proofs.YbulkldcFmt
