import Derived.Test.YbulkldcFmtFacts
import Derived.WalkKit
import Derived.WalkSpells
import Derived.Laws.CopyOwn
import Derived.LaidEql
namespace Go.Proofs.YbulkldcFmt
open Go.RowKit Go.Extern.Stop Go.Stop Go.Extern
attribute [local go_sem] Ybaf.call39 Ybaf.guard Ybaf.fmtA Ybaf.fmtAr Ybaf.act2_100w Ybaf.op2_100w Ybaf.ptr105 Ybaf.elem105 Ybaf.isError105

theorem catA : (⟨#[100, 101, 99, 111, 100, 105, 110, 103, 32, 116, 104, 101, 32, 115, 116, 97, 116, 101, 58, 32]⟩ : ByteArray) ++ ⟨#[97, 32, 118, 97, 108, 117, 101, 32, 37, 100]⟩ = ⟨#[100, 101, 99, 111, 100, 105, 110, 103, 32, 116, 104, 101, 32, 115, 116, 97, 116, 101, 58, 32, 97, 32, 118, 97, 108, 117, 101, 32, 37, 100]⟩ := by decide +kernel
attribute [local go_sem] catA

def readingA (n : Int) : List (List UInt8) :=
  [[100, 101, 99, 111, 100, 105, 110, 103, 32, 116, 104, 101, 32, 115, 116, 97, 116, 101, 58, 32, 97, 32, 118, 97, 108, 117, 101, 32, 37, 100], Ybaf.shape2, digits 8 (n % 18446744073709551616).toNat]

set_option maxHeartbeats 400000 in
/-- (*Decoder).Fail, no error kept yet. -/
theorem fail_new (F : Interp) (b : Nat) (sl : Value) (n : Int) (w : World) (hF : F.answers w.tape) (g : Nat) (hlt : b < w.heap.size)
    (hb : w.cell? ⟨b, 0, none⟩ = some sl) (he : w.cell? ⟨b, 1, none⟩ = some .nilIface) (f0 : w.frozen? ⟨b, 0, none⟩ = false) (f1 : w.frozen? ⟨b, 1, none⟩ = false)
    (hg : w.cell? ⟨g, 0, none⟩ = some (.iface 2 (.int .i64 n))) :
    Calls Ybaf.prog 8 #[.pointer (some ⟨b, 0, none⟩), .string ⟨#[97, 32, 118, 97, 108, 117, 101, 32, 37, 100]⟩, .slice (some ⟨g, 0, none⟩) 1 1] w fun e w' =>
      e = .returned (.tuple #[]) ∧ w' = (((w.setCell ⟨b, 1, none⟩ (.iface 105 (.pointer (some ⟨w.heap.size, 0, none⟩)))).setCell ⟨b, 0, none⟩ (.slice none 0 0)).alloc (.cells #[.string (FmtStop.textOf (F "fmt.errorf" (readingA n) 0))] 107)).drew := by
  have hF' := answers_open hF
  go_enter Ybaf.func8, Ybaf.ntmps8
  go_wp2
  apply rows_value Ybaf.nextTurns
  case hr =>
    go_simp
    exact ⟨rfl, rfl⟩
  case h =>
    go_wp2
    go_end0
    exact ⟨rfl, rfl⟩

set_option maxHeartbeats 400000 in
/-- (*Decoder).Fail, an error kept already. -/
theorem fail_old (b : Nat) (sl fm ar : Value) (t : TypeId) (x : Value) (w : World)
    (hb : w.cell? ⟨b, 0, none⟩ = some sl) (he : w.cell? ⟨b, 1, none⟩ = some (.iface t x)) (f0 : w.frozen? ⟨b, 0, none⟩ = false) :
    Calls Ybaf.prog 8 #[.pointer (some ⟨b, 0, none⟩), fm, ar] w fun e w' => e = .returned (.tuple #[]) ∧ w' = w.setCell ⟨b, 0, none⟩ (.slice none 0 0) := by
  go_enter Ybaf.func8, Ybaf.ntmps8
  go_wp2
  go_end0
  exact ⟨rfl, rfl⟩

theorem hide {p : Prop} (h : p) : Hid p := h

/-- WHAT THE WALK IS TOLD OF A SLICE OF INTEGERS THAT CAME IN (the kit's proof-skeleton). -/
def IsRow (k : IntKind) (w : World) (a : Option Addr) (len cap : Nat) (zs : List Int) : Prop :=
  (a = none ∧ len = 0 ∧ cap = 0 ∧ zs = []) ∨
  ∃ x, a = some x ∧ len ≤ cap ∧ cap ≤ maxLen ∧ zs.length = cap ∧ (∀ i, i < zs.length → w.cell? (x.add i) = some (.int k (zs.getD i 0))) ∧ ∀ n ∈ zs, (Lit.int k n).wf = true

theorem Ybaf.info5 : (Ybaf.prog.info? 5).map (fun i => (i.zero, i.size, i.bytes)) = some (some (.int .u8 0), 1, 1) := by kernel_rfl

theorem row_of_made {w1 : World} {base g n : Nat} {e : TypeId} {xs : List Value} (h : w1.ownsRow base e 1 (.slice (some ⟨g, 0, none⟩) n n) n xs) :
    ∃ cur : List Value, cur.length = n ∧ w1.heap[g]? = some (.cells cur.toArray e (0, 0)) := by
  obtain ⟨_, h | ⟨g', cap, cur, hv, _, hh, _, _, hs, _⟩⟩ := h
  · simp at h
  · simp only [Value.slice.injEq, Option.some.injEq, Addr.mk.injEq] at hv
    obtain ⟨⟨rfl, _⟩, _, rfl⟩ := hv
    exact ⟨cur.toList, by simpa using hs, by simpa using hh⟩

theorem src_cells {k : IntKind} {w : World} {a : Option Addr} {len cap : Nat} {zs : List Int} (h : IsRow k w a len cap zs) :
    ((zs.take len).map (Value.int k)).length = len ∧ (0 < len → ∃ ad, a = some ad ∧ ad.block < w.heap.size ∧ ∀ j v, ((zs.take len).map (Value.int k))[j]? = some v → w.cell? (ad.add j) = some v) := by
  rcases h with ⟨rfl, rfl, rfl, rfl⟩ | ⟨x, rfl, hl, _, hz, hc, _⟩
  · simp
  · refine ⟨by simp; omega, fun h0 => ⟨x, rfl, ?_, ?_⟩⟩
    · have := hc 0 (by omega)
      simpa [Addr.add] using World.block_lt_of_cell? w _ this
    · intro j v hj
      rw [List.getElem?_map, List.getElem?_take] at hj
      split at hj
      · have hjz : j < zs.length := by omega
        rw [hc j hjz]
        simpa [hjz, List.getD] using hj
      · simp at hj

/-- 'c := make([]byte, len(b)); copy(c, b)': the copy's run. -/
theorem copy_into {w w1 : World} {a0 : Option Addr} {len0 cap0 : Nat} {z0 : List Int} (h0 : IsRow .u8 w a0 len0 cap0 z0) {base : Nat} {xs : List Value} (hbase : base = w.heap.size)
    (hown : w1.ownsRow base 5 1 (.slice (some ⟨base, 0, none⟩) len0 len0) len0 xs) (hgrow : w.grownBy w1 none) :
    ∃ w2, Sem.run Ybaf.prog (Builtin.copy_ #[22, 22] 3 #[.slice (some ⟨base, 0, none⟩) len0 len0, .slice a0 len0 cap0]) w1 = .ok (.int .i64 len0) w2 ∧ Below w.heap.size w w2 := by
  subst hbase
  obtain ⟨i0, hi, hz0, hz1, hz2⟩ := info_parts Ybaf.info5
  have hsz : (Ybaf.prog.info? 5).map (·.size) = some 1 := by rw [hi]; simp [hz1]
  have hb1 := (Below.refl w.heap.size w).grown hgrow (Nat.le_refl _) (by simp)
  obtain ⟨hcl, hsrc⟩ := src_cells h0
  obtain ⟨cur, hcur, hcg⟩ := row_of_made hown
  by_cases hl : len0 = 0
  · subst hl
    exact ⟨w1, run_copy_none w1 22 22 3 5 _ _ _ _ _ _ Ybaf.underlying22 hsz (by simp), hb1⟩
  · obtain ⟨ad, rfl, hbl, hcc⟩ := hsrc (by omega)
    have hrun := run_copy_row (P := Ybaf.prog) w1 22 22 3 5 w.heap.size 0 len0 len0 ad len0 cap0 cur.toArray 5 ((z0.take len0).map (Value.int .u8)) Ybaf.underlying22 hsz hcg (by rw [hcl]; simp)
      (fun j v hj => by rw [hb1.cell (by simp only [Addr.add]; split <;> exact hbl)]; exact hcc j v hj) (by rw [hcl]; simp; omega) (fun v hv => by obtain ⟨z, _, rfl⟩ := List.mem_map.1 hv; rfl)
    rw [hcl] at hrun
    exact ⟨_, hrun, below_setRow hb1 (Nat.le_refl _) _⟩

theorem neq_same (w : World) (a : Addr) : (binOp .neq 26 (.iface 105 (.pointer (some a))) (.iface 105 (.pointer (some a)))).run Ybaf.prog w = .ok (.bool false) w := by
  have h105 : (Ybaf.prog.info? 105).map (·.comparable) = some true := by kernel_rfl
  have h107 : (Ybaf.prog.info? 107).isSome = true := by kernel_rfl
  obtain ⟨i, hi, hc⟩ : ∃ i, Ybaf.prog.info? 105 = some i ∧ i.comparable = true := by simpa [Option.map_eq_some_iff] using h105
  obtain ⟨j, hj⟩ := Option.isSome_iff_exists.1 h107
  simp only [binOp]
  simp [Op.equal, Op.maxDepth, run_equalIn_iface_ptr_same w 9998 a Ybaf.underlying26 Ybaf.underlying105 hi hc hj]

theorem neq_nil (w : World) : (binOp .neq 22 (.slice none 0 0) (.slice none 0 0)).run Ybaf.prog w = .ok (.bool false) w := by kernel_rfl

set_option maxHeartbeats 400000 in
set_option maxRecDepth 100000 in
theorem keeps_walk (F : Interp) (a0 : Option Addr) (len0 cap0 : Nat) (z0 : List Int) (pre : Bool) (n : Int) (w : World) (hF : F.answers w.tape) (w0 : IsRow .u8 w a0 len0 cap0 z0) :
    Calls Ybaf.prog 3 #[.slice a0 len0 cap0, .bool pre, .int .i64 n] w fun e w' => e = .returned (.bool true) ∧ Below w.heap.size w w' := by
  obtain ⟨i0, hi, hz0, hz1, hz2⟩ := info_parts Ybaf.info5
  by_cases hlen : len0 ≤ 1024
  · have hd : ¬ (1024 : Int) < (len0 : Int) := by omega
    cases pre with
    | true =>
      have hne := neq_same
      have hnn := neq_nil
      go_enter Ybaf.func3, Ybaf.ntmps3
      go_wp2_with (first
        | (at_make; refine wpList_make_full _ rfl _ _ 22 rfl w.heap.size 5 i0 (.int .u8 0) 1 Ybaf.underlying22 hi hz0 hz1 _ _ _ _ len0 rfl rfl rfl rfl (by rw [hz2]; omega) (by unfold maxLen; omega) (Nat.le_refl _) ?_; intro w1 hown hgrow; obtain ⟨w2, hrun, hb2⟩ := copy_into w0 rfl hown hgrow; clear hown hgrow w0 hi hz0 hz1 hz2)
        | (go_at_call 6; go_in)
        | (go_at_call 7; go_in)
        | (go_at_call 8; go_in)
        | (go_at_call 9; go_in))
      go_end0
      go_wp2_with (go_at_call 9; go_in)
      go_ret
      exact ⟨rfl, by repeat (first | exact hb2 | apply Below.drew | (refine Below.alloc ?_ (by have := hb2.size; first | exact this | (simp; omega)) _))⟩
    | false =>
      have hnn := neq_nil
      go_enter Ybaf.func3, Ybaf.ntmps3
      go_wp2_with (first
        | (at_make; refine wpList_make_full _ rfl _ _ 22 rfl w.heap.size 5 i0 (.int .u8 0) 1 Ybaf.underlying22 hi hz0 hz1 _ _ _ _ len0 rfl rfl rfl rfl (by rw [hz2]; omega) (by unfold maxLen; omega) (Nat.le_refl _) ?_; intro w1 hown hgrow; obtain ⟨w2, hrun, hb2⟩ := copy_into w0 rfl hown hgrow; clear hown hgrow w0 hi hz0 hz1 hz2)
        | (go_at_call 6; go_in))
      refine (fail_new F w2.heap.size (.slice (some ⟨w.heap.size, 0, none⟩) len0 len0) n _ (by show F.answers w2.tape; rw [hb2.tape]; exact hF) (w2.heap.size + 1) (by simp; omega) (by go_simp) (by go_simp) (by go_simp) (by go_simp) (by go_simp)).mono ?_
      rintro e w' ⟨rfl, rfl⟩
      go_wp2_with (go_at_call 9; go_in)
      go_ret
      exact ⟨rfl, by repeat (first | exact hb2 | apply Below.drew | (refine Below.alloc ?_ (by have := hb2.size; first | exact this | (simp; omega)) _))⟩
  · have hd : (1024 : Int) < (len0 : Int) := by omega
    go_enter Ybaf.func3, Ybaf.ntmps3
    go_wp2
    go_ret
    exact ⟨rfl, Below.refl _ _⟩
end Go.Proofs.YbulkldcFmt
