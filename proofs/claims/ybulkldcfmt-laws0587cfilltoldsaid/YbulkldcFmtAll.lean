/-
  all, close: a range over a function (the pattern: the kit's GgListAtTheDump, GgListBehindAtTheDump).
-/
import Derived.RangeFuncNested
import Derived.RangeFuncBound
import Derived.RangeFuncCalls
import Derived.RangeFuncLeaves
import Derived.Shelf.Abstract
import Derived.Shelf.RegionOpen
import Derived.OwnWalkIn
import Derived.TacticsInMore
import Derived.LoopNIn
import Derived.LoopIn
import Derived.Test.YbulkldcFmtClose
namespace Go.Proofs.YbulkldcFmt
open Go.RowKit Go.Shelf
set_option linter.unusedVariables false
attribute [local go_sem] Oper.semAt_some

/-- Blocks below n₀ and out of S stand as they stood. -/
def KB (n₀ : Nat) (S : Nat → Prop) (W W' : World) : Prop := W'.os = W.os ∧ W'.tape = W.tape ∧ W'.output = W.output ∧ W.heap.size ≤ W'.heap.size ∧ ∀ b, b < n₀ → ¬ S b → W'.heap[b]? = W.heap[b]?
theorem KB.trans {n₀ : Nat} {S : Nat → Prop} {A B C : World} (h : KB n₀ S A B) (k : KB n₀ S B C) : KB n₀ S A C :=
  ⟨k.1.trans h.1, k.2.1.trans h.2.1, k.2.2.1.trans h.2.2.1, Nat.le_trans h.2.2.2.1 k.2.2.2.1, fun b hb hs => (k.2.2.2.2 b hb hs).trans (h.2.2.2.2 b hb hs)⟩
theorem KB.refl (n₀ : Nat) (S : Nat → Prop) (W : World) : KB n₀ S W W := ⟨rfl, rfl, rfl, Nat.le_refl _, fun _ _ _ => rfl⟩
theorem KB.of_grown {n₀ : Nat} {S : Nat → Prop} {W W' : World} {row : Option Nat} (h : W.grownBy W' row) (hr : ∀ r, row = some r → n₀ ≤ r) (hn : n₀ ≤ W.heap.size) : KB n₀ S W W' :=
  ⟨h.os, h.tape, h.output, h.size, fun b hb _ => h.block b (by omega) (fun e => by have := hr b e.symm; omega)⟩
theorem KB.cell {n₀ : Nat} {S : Nat → Prop} {W W' : World} (h : KB n₀ S W W') {p : Addr} (hp : p.block < n₀) (hs : ¬ S p.block) : W'.cell? p = W.cell? p := World.cell?_of_block (h.2.2.2.2 _ hp hs)

set_option maxHeartbeats 1000000 in
/-- all: the receiver is boxed; the function value captures the box. -/
theorem all_in (F : Fence) (n : Nat) (h5 : F.fn 58) (hro : F.round = none) (O : Nat) (w : World) :
    CallsIn F n Ybaf.prog 58 #[.pointer (some ⟨O, 5, none⟩)] w fun e w' => e = .returned (.func (.func 65) #[] #[.pointer (some ⟨w.heap.size, 0, none⟩)]) ∧ w' = w.alloc (.cells #[.pointer (some ⟨O, 5, none⟩)] 118) := by
  refine callsIn_of_wp Ybaf.func58 rfl h5 ?_ hro
  simp only [Ybaf.ntmps58, List.size_toArray, List.length_cons, List.length_nil, Nat.reduceAdd, Nat.reduceSub, Array.replicate_succ, Array.replicate_zero, List.push_toArray, List.append_toArray, List.nil_append, List.cons_append]
  gi_wp2
  go_ret
  exact ⟨rfl, rfl⟩

def nextP (k : Nat) (L : Nat → Nat) (i : Nat) : Value := if i < k then .pointer (some ⟨L i, 0, none⟩) else .pointer none
def Chain (W : World) (O k : Nat) (L V : Nat → Nat) : Prop := W.cell? ⟨O, 5, none⟩ = some (nextP k L 0) ∧ ∀ i, i < k → W.cell? ⟨L i, 0, none⟩ = some (.pointer (some ⟨V i, 0, none⟩)) ∧ W.cell? ⟨L i, 2, none⟩ = some (nextP k L (i + 1))
theorem Chain.kept {A B : World} {O k n₀ : Nat} {L V : Nat → Nat} {S : Nat → Prop} (h : Chain A O k L V) (hk : KB n₀ S A B) (hO : O < n₀ ∧ ¬ S O) (hL : ∀ i, i < k → L i < n₀ ∧ ¬ S (L i)) : Chain B O k L V :=
  ⟨(hk.cell (by exact hO.1) hO.2).trans h.1, fun i hi => ⟨(hk.cell (by exact (hL i hi).1) (hL i hi).2).trans (h.2 i hi).1, (hk.cell (by exact (hL i hi).1) (hL i hi).2).trans (h.2 i hi).2⟩⟩

/-- How many links are still to come. -/
def leftOf (k : Nat) (L : Nat → Nat) : Value → Nat
  | .pointer (some a) => k - (List.range k).findIdx (fun i => L i == a.block)
  | _ => 0
theorem leftOf_eq {k : Nat} {L : Nat → Nat} (hinj : ∀ i j, i < k → j < k → L i = L j → i = j) {i : Nat} (hi : i ≤ k) : leftOf k L (nextP k L i) = k - i := by
  unfold nextP
  by_cases h : i < k
  · rw [if_pos h]
    show k - (List.range k).findIdx (fun j => L j == L i) = k - i
    have e : (List.range k).findIdx (fun j => L j == L i) = i := by
      rw [List.findIdx_eq (by simpa using h)]
      refine ⟨by simp, fun j hj => ?_⟩
      simp
      intro e
      have := hinj _ _ (by omega) h e
      omega
    rw [e]
  · rw [if_neg h]
    show 0 = k - i
    omega

set_option maxRecDepth 100000 in
set_option maxHeartbeats 1000000 in
/-- What all hands back, called: for every loop body that keeps the links. -/
theorem all1_in (F : Fence) (n : Nat) (h6 : F.fn 65) (hro : F.round = none) (hn : 1 ≤ n) (l Bn n₀ O k : Nat) (L V : Nat → Nat) (S : Nat → Prop) (hO : O < n₀ ∧ ¬ S O) (hL : ∀ i, i < k → L i < n₀ ∧ ¬ S (L i)) (hinj : ∀ i j, i < k → j < k → L i = L j → i = j) (J Jx : List { j : Nat // j < k } → World → Prop)
    (hY : ∀ pre x W, J pre W → pre.length < k → YieldAt F (n - 1) Ybaf.prog l #[.pointer (some ⟨V x.1, 0, none⟩)] W fun e W' =>
      (e = .returned (.bool true) ∧ J (pre ++ [x]) W' ∧ KB n₀ S W W') ∨ (e = .returned (.bool false) ∧ Jx (pre ++ [x]) W'))
    (W : World) (hBn : W.cell? ⟨Bn, 0, none⟩ = some (.pointer (some ⟨O, 5, none⟩))) (hC : Chain W O k L V) (h0 : J [] W) :
    CallsIn F n Ybaf.prog 65 #[.func (.yield l) #[] #[], .pointer (some ⟨Bn, 0, none⟩)] W fun e W' => (∃ v, e = .returned v) ∧
      ((∃ ys : List { j : Nat // j < k }, ys.map (·.1) = List.range k ∧ J ys W') ∨ (∃ pre, True ∧ Jx pre W')) := by
  have hfirst := hC.1
  refine callsIn_of_wp Ybaf.func65 rfl h6 ?_ hro
  simp only [Ybaf.ntmps65, List.size_toArray, List.length_cons, List.length_nil, Nat.reduceAdd, Nat.reduceSub, Array.replicate_succ, Array.replicate_zero, List.push_toArray, List.append_toArray, List.nil_append, List.cons_append]
  gi_wp2
  gi_loopw [3] (fun p wr => ∃ (i : Nat) (pre : List { j : Nat // j < k }), i ≤ k ∧ p = nextP k L i ∧ pre.map (·.1) = List.range i ∧ Chain wr O k L V ∧ J pre wr) (fun p wr => leftOf k L p)
  case atStart => exact ⟨0, [], Nat.zero_le _, rfl, rfl, hC, h0⟩
  case round =>
    obtain ⟨i, pre, hi, rfl, hp, hc, hJs⟩ := hrel
    have hlen : pre.length = i := by have := congrArg List.length hp; simpa using this
    by_cases h : i < k
    · have e1 : nextP k L i = .pointer (some ⟨L i, 0, none⟩) := if_pos h
      have hl1 := leftOf_eq hinj hi
      rw [e1] at hl1
      rw [e1]
      obtain ⟨c0, c2⟩ := hc.2 i h
      obtain ⟨fn, tmps, assign, body, hy, hR⟩ := hY pre ⟨i, h⟩ wr hJs (by omega)
      dsimp only at hy
      gi_wp2
      refine hR.mono ?_
      rintro e W3 (⟨rfl, hJ3, hk3⟩ | ⟨rfl, hJx3⟩)
      · have hc3 := hc.kept hk3 hO hL
        have hq3 := (hc3.2 i h).2
        gi_wp2
        go_roundw
        case rel => exact ⟨i + 1, pre ++ [⟨i, h⟩], by omega, rfl, by simp [hp, List.range_succ], hc3, hJ3⟩
        case measure => rw [leftOf_eq hinj (by omega), hl1]; omega
      · gi_wp2
        refine bodyPost_ret (results_none rfl _ _ _) rfl ?_
        exact ⟨⟨_, rfl⟩, .inr ⟨_, trivial, hJx3⟩⟩
    · have e1 : nextP k L i = .pointer none := if_neg h
      obtain rfl : i = k := by omega
      rw [e1]
      gi_wp2
      go_end0
      exact ⟨⟨_, rfl⟩, .inl ⟨pre, hp, hJs⟩⟩

theorem all_stops (F : Fence) (n : Nat) (h6 : F.fn 65) (hro : F.round = none) (hn : 1 ≤ n) (Bn n₀ O k : Nat) (L V : Nat → Nat) (S : Nat → Prop) (hO : O < n₀ ∧ ¬ S O) (hL : ∀ i, i < k → L i < n₀ ∧ ¬ S (L i)) (hinj : ∀ i j, i < k → j < k → L i = L j → i = j) (w : World) (hBn : Bn < w.heap.size) (hn₀ : n₀ ≤ w.heap.size)
    (hc : w.cell? ⟨Bn, 0, none⟩ = some (.pointer (some ⟨O, 5, none⟩))) (hC : Chain w O k L V) :
    SeqStopsK F n Ybaf.prog 65 #[.pointer (some ⟨Bn, 0, none⟩)] (fun x : { j : Nat // j < k } => #[Value.pointer (some ⟨V x.1, 0, none⟩)]) (KB n₀ S) (fun ys => ys.map (·.1) = List.range k) (fun _ => True) k w := fun l J Jx W hW _ _ hY h0 =>
  all1_in F n h6 hro hn l Bn n₀ O k L V S hO hL hinj J Jx hY W ((hW.cell (p := ⟨Bn, 0, none⟩) hBn).trans hc) (hC.kept (n₀ := n₀) (S := S) ⟨hW.os, hW.tape, hW.output, hW.size, fun b hb _ => hW.block b (by omega)⟩ hO hL) h0

/-- What close leaves. -/
def Closed (G MO n k : Nat) (V : Nat → Nat) (f : ByteArray → Option Value) (s : ByteArray) (w w' : World) : Prop :=
  (∀ j, j < k → w'.cell? ⟨V j, 5, none⟩ = some (.int .u8 1)) ∧ MapAt w' MO n (fdel f s) ∧ w'.cell? ⟨G, 19, none⟩ = some (.map (some MO)) ∧ (∀ j, j ≠ 17 → j ≠ 18 → w'.cell? ⟨G, j, none⟩ = w.cell? ⟨G, j, none⟩) ∧ Keeps (fun b => b = G ∨ b = MO ∨ ∃ j, j < k ∧ b = V j) w w'

set_option maxRecDepth 100000 in
set_option maxHeartbeats 2000000 in
/-- close. -/
theorem close_any (G O MO n l k : Nat) (L V : Nat → Nat) (f : ByteArray → Option Value) (s : ByteArray) (u0 u1 : Value) (w : World) (hs : s.size ≤ maxLen) (hC : Chain w O k L V) (hid : w.cell? ⟨O, 0, none⟩ = some (.string s))
    (hV : ∀ j, j < k → w.cell? ⟨V j, 5, none⟩ = some (.int .u8 0) ∧ w.frozen? ⟨V j, 5, none⟩ = false) (hVi : ∀ i j, i < k → j < k → V i = V j → i = j) (hLi : ∀ i j, i < k → j < k → L i = L j → i = j)
    (hVL : ∀ i j, i < k → j < k → L i ≠ V j) (hVO : ∀ j, j < k → O ≠ V j) (hVG : ∀ j, j < k → G ≠ V j) (hVM : ∀ j, j < k → MO ≠ V j) (hVl : ∀ j, j < k → l ≠ V j)
    (h0 : w.cell? ⟨G, 17, none⟩ = some u0) (h1 : w.cell? ⟨G, 18, none⟩ = some u1) (h2 : w.cell? ⟨G, 19, none⟩ = some (.map (some MO))) (hm : MapAt w MO (n + 1) f) (hl : f s = some (ptr l)) (l1 : w.cell? ⟨l, 1, none⟩ = some (.pointer none)) (l2 : w.cell? ⟨l, 2, none⟩ = some (.pointer none)) (hf : ∀ j, w.frozen? ⟨G, j, none⟩ = false) (hGl : G ≠ l) :
    Calls Ybaf.prog 38 #[.pointer (some ⟨G, 0, none⟩), .pointer (some ⟨O, 0, none⟩), .int .u8 1] w fun e w' => e = .returned (.tuple #[]) ∧ Closed G MO n k V f s w w' := by
  have hOw : O < w.heap.size := World.block_lt_of_cell? w _ hid
  have hGw : G < w.heap.size := World.block_lt_of_cell? w _ h0
  have hlw : l < w.heap.size := World.block_lt_of_cell? w _ l1
  have hVw : ∀ j, j < k → V j < w.heap.size := fun j hj => World.block_lt_of_cell? w _ (hV j hj).1
  have hLw : ∀ j, j < k → L j < w.heap.size := fun j hj => World.block_lt_of_cell? w _ (hC.2 j hj).1
  refine (callsIn_wide (n := 5)).1 ?_
  refine callsIn_of_wp_marks Ybaf.func38 rfl trivial ?_ rfl
  simp only [Ybaf.ntmps38, List.size_toArray, List.length_cons, List.length_nil, Nat.reduceAdd, Nat.reduceSub, Array.replicate_succ, Array.replicate_zero, List.push_toArray, List.append_toArray, List.nil_append, List.cons_append]
  gi_wp2_with (refine ⟨trivial, ?_⟩; gi_at_call 58; refine (all_in Fence.wide _ trivial rfl O _).mono ?_; rintro e w' ⟨rfl, rfl⟩)
  obtain ⟨W0, hW0⟩ : ∃ W0, W0 = (w.alloc (.cells #[.int .u8 1] 75)).alloc (.cells #[.pointer (some ⟨O, 5, none⟩)] 118) := ⟨_, rfl⟩
  have hb0 : Below w.heap.size w W0 := by rw [hW0]; exact ((Below.refl _ w).alloc (Nat.le_refl _) _).alloc (by simp) _
  have hsz : W0.heap.size = w.heap.size + 2 := by rw [hW0]; simp
  have cb : W0.cell? ⟨w.heap.size, 0, none⟩ = some (.int .u8 1) := by rw [hW0]; go_simp
  have cO : W0.cell? ⟨w.heap.size + 1, 0, none⟩ = some (.pointer (some ⟨O, 5, none⟩)) := by rw [hW0]; go_simp
  rw [← hW0]
  clear hW0
  obtain ⟨S, hS⟩ : ∃ S : Nat → Prop, S = fun b => ∃ j, j < k ∧ b = V j := ⟨_, rfl⟩
  have sO : ¬ S O := by rw [hS]; rintro ⟨j, hj, e⟩; exact hVO j hj e
  have sG : ¬ S G := by rw [hS]; rintro ⟨j, hj, e⟩; exact hVG j hj e
  have sM : ¬ S MO := by rw [hS]; rintro ⟨j, hj, e⟩; exact hVM j hj e
  have sl : ¬ S l := by rw [hS]; rintro ⟨j, hj, e⟩; exact hVl j hj e
  have sL : ∀ i, i < k → ¬ S (L i) := by rw [hS]; rintro i hi ⟨j, hj, e⟩; exact hVL i j hi hj e
  have sN : ¬ S w.heap.size := by rw [hS]; rintro ⟨j, hj, e⟩; have := hVw j hj; omega
  have sV : ∀ j, j < k → S (V j) := by rw [hS]; intro j hj; exact ⟨j, hj, rfl⟩
  have kb0 : KB w.heap.size S w W0 := ⟨hb0.os, hb0.tape, hb0.output, hb0.size, fun b hb _ => hb0.block b hb⟩
  refine wpIn_rangeFunc_ownF rfl (by omega) (gf := 65) (lb := #[.pointer (some ⟨w.heap.size + 1, 0, none⟩)]) rfl trivial (enters_of Ybaf.func65 (by kernel_rfl) rfl)
    (all_stops Fence.wide (5 - 1) trivial rfl (by omega) (w.heap.size + 1) W0.heap.size O k L V S ⟨by omega, sO⟩ (fun i hi => ⟨by have := hLw i hi; omega, sL i hi⟩) hLi W0 (by omega) (Nat.le_refl _) cO (hC.kept kb0 ⟨hOw, sO⟩ (fun i hi => ⟨hLw i hi, sL i hi⟩))) (fun h k => KB.trans h k)
    (fun W l' o o' h1 h2 _ _ => KB.of_grown (grownBy_putObj' W l' o') (fun r e => by cases e; exact h1) (by have := (Array.getElem?_eq_some_iff.1 h2).1; omega)) (Below.refl _ _) (fun _ => rfl)
    (fun pre W => KB W0.heap.size S W0 W ∧ ∀ j, j < k → W.cell? ⟨V j, 5, none⟩ = some (.int .u8 (if j ∈ pre.map (·.1) then 1 else 0)) ∧ W.frozen? ⟨V j, 5, none⟩ = false)
    (fun _ _ _ => False)
    (fun s A B row hs hg hr => ⟨hs.1.trans (KB.of_grown hg (fun r e => (hr r e).1) hs.1.2.2.2.1), fun j hj => ⟨cell_kept (hs.2 j hj).1 hg (fun r e => (hr r e).2), (frozen_kept (hs.2 j hj).1 hg (fun r e => (hr r e).2)).trans (hs.2 j hj).2⟩⟩)
    (fun _ _ _ _ _ hs _ _ => hs)
    ⟨KB.refl _ _ _, fun j hj => ⟨by simpa using (hb0.cell (p := ⟨V j, 5, none⟩) (hVw j hj)).trans (hV j hj).1, (hb0.frozen (p := ⟨V j, 5, none⟩) (hVw j hj)).trans (hV j hj).2⟩⟩
    (fun x => { tmps := #[.pointer (some ⟨G, 0, none⟩), .pointer (some ⟨O, 0, none⟩), .int .u8 1, undef, undef, .pointer (some ⟨w.heap.size, 0, none⟩), .pointer (some ⟨V x.1, 0, none⟩), .pointer (some ⟨O, 0, none⟩), .pointer (some ⟨O, 0, none⟩), .pointer (some ⟨O, 5, none⟩), .func (.func 65) #[] #[.pointer (some ⟨w.heap.size + 1, 0, none⟩)], .pointer (some ⟨V x.1, 0, none⟩), undef, undef, undef, undef, undef, undef, undef, undef, undef, undef, undef, undef], defers := [] }) ?assign ?body ?done ?stop
  case assign =>
    intro l x W K hK
    gi_wp2
    exact hK
  case body =>
    rintro l' pre x W ⟨hk, hcs⟩ _
    obtain ⟨q1, q2⟩ := hcs x.1 x.2
    have q3 : W.cell? ⟨w.heap.size, 0, none⟩ = some (.int .u8 1) := (hk.cell (by show w.heap.size < _; omega) sN).trans cb
    gi_wp2
    have hst : KB W0.heap.size S W (W.setCell ⟨V x.1, 5, none⟩ (.int .u8 1)) := ⟨rfl, rfl, rfl, by simp, fun b hb hs => Below.heap_setCell W _ _ b (fun e => hs (by rw [e]; exact sV x.1 x.2))⟩
    refine ⟨KeepsOthers.setCell _ _ _, hst, hk.trans hst, fun j hj => ?_⟩
    refine ⟨?_, by rw [World.frozen?_setCell]; exact (hcs j hj).2⟩
    by_cases e : j = x.1
    · subst e
      rw [World.cell?_setCell_same _ _ _ q1]
      simp
    · rw [cell_set_ne (Or.inl (fun h => e (hVi _ _ hj x.2 h.symm))), (hcs j hj).1]
      simp [e]
  case done =>
    rintro D ys W hD hys ⟨hk, hcs⟩ hK
    have hGW : ∀ j, W.cell? ⟨G, j, none⟩ = w.cell? ⟨G, j, none⟩ := fun j => (hk.cell (by show G < _; omega) sG).trans (hb0.cell (by exact hGw))
    have hfW : ∀ j, W.frozen? ⟨G, j, none⟩ = false := fun j => (World.frozen?_of_block (hk.2.2.2.2 G (by omega) sG)).trans ((hb0.frozen (by exact hGw)).trans (hf j))
    have hMw : MO < w.heap.size := hm.lt
    have hmW : MapAt W MO (n + 1) f := (hm.of_block (hb0.block MO hMw)).of_block (hk.2.2.2.2 MO (by omega) sM)
    have l1W : W.cell? ⟨l, 1, none⟩ = some (.pointer none) := (hk.cell (by show l < _; omega) sl).trans ((hb0.cell (by exact hlw)).trans l1)
    have l2W : W.cell? ⟨l, 2, none⟩ = some (.pointer none) := (hk.cell (by show l < _; omega) sl).trans ((hb0.cell (by exact hlw)).trans l2)
    have idW : W.cell? ⟨O, 0, none⟩ = some (.string s) := (hk.cell (by show O < _; omega) sO).trans ((hb0.cell (by exact hOw)).trans hid)
    have g17 := (hGW 17).trans h0
    have g18 := (hGW 18).trans h1
    have g19 := (hGW 19).trans h2
    have hDw : D < W.heap.size := (Array.getElem?_eq_some_iff.1 hK).1
    have HM := hide hmW
    clear hm hmW h0 h1 h2 l1 l2 hid cb cO hC
    gi_wp2_with fail
    refine wpIn_wide.2 (wp_mono (Q := fun e a' w' => match e with | .normal => a'.defers = [{ target := .collected D, args := #[] }] ∧ Dropped G 17 MO n f s W w' | _ => False) ?_ ?_)
    · go_region_with (go_at_call 59; refine (drop_any G 17 MO n l f u0 u1 _ s hs (by exact g17) (by exact g18) (by exact g19) (by exact HM.out) hl (by exact l1W) (by exact l2W) (by exact hfW) hGl).mono ?_; rintro e w' ⟨rfl, hdr⟩)
      all_goals
        refine ⟨rfl, ?_⟩
        exact hdr
    · rintro e a' w' hq
      cases e <;> try exact hq.elim
      obtain ⟨hdf, d1, d2, d3, d4⟩ := hq
      have hKd : w'.heap[D]? = some (.deferred (some [])) := (d3.2.2.2.2 D hDw (by rintro (e | e) <;> omega)).trans hK
      obtain ⟨tm, df⟩ := a'
      obtain rfl : df = _ := hdf
      have hpo : ∀ b, b ≠ D → (w'.putObj D (.deferred none)).heap[b]? = w'.heap[b]? := fun b hb => World.putObj_heap_other hb
      have hall : ∀ b, b < w.heap.size → b ≠ G → b ≠ MO → ¬ S b → (w'.putObj D (.deferred none)).heap[b]? = w.heap[b]? := fun b hb h1 h2 h3 => by
        rw [hpo b (by omega), d3.2.2.2.2 b (by have := hk.2.2.2.1; omega) (by rintro (e | e); exact h1 e; exact h2 e), hk.2.2.2.2 b (by omega) h3, hb0.block b hb]
      refine ⟨by simp, .inl ⟨_, _, rfl, run_takeDeferred hKd, ?_⟩⟩
      refine ⟨_, results_none rfl _ _ _, rfl, fun j hj => ?_, d1.of_block (hpo MO (by omega)), ?_, fun j j0 j1 => ?_, ?_⟩
      · have hj1 := (hcs j hj).1
        rw [hys] at hj1
        have hjw := hVw j hj
        rw [World.cell?_of_block (a := ⟨V j, 5, none⟩) (hpo (V j) (by omega)), d3.cell (by show V j < _; have := hk.2.2.2.1; omega) (by rintro (e | e); exact hVG j hj e.symm; exact hVM j hj e.symm), hj1]
        simp [hj]
      · rw [World.cell?_of_block (a := ⟨G, 19, none⟩) (hpo G (by omega))]; exact d2
      · rw [World.cell?_of_block (a := ⟨G, j, none⟩) (hpo G (by omega)), d4 j j0 j1, hGW]
      · exact ⟨d3.1.trans (hk.1.trans hb0.os), d3.2.1.trans (hk.2.1.trans hb0.tape), d3.2.2.1.trans (hk.2.2.1.trans hb0.output), by have h1 := d3.size; have h2 := hk.2.2.2.1; have h3 := hb0.size; simp; omega, fun b hb hns => hall b hb (fun e => hns (Or.inl e)) (fun e => hns (Or.inr (Or.inl e))) (fun e => hns (Or.inr (Or.inr (by rw [hS] at e; exact e))))⟩
  case stop =>
    rintro D c pre W _ _ h _
    exact h.elim
end Go.Proofs.YbulkldcFmt
