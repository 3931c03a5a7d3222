import Derived.Test.YbulklfuRowsAt
namespace Go.Proofs.Ybulklfu
open Go.RowKit
set_option linter.unusedVariables false

/-- The row at the head of block g: its first n cells. -/
def SrcRow (w : World) (g : Nat) (k : IntKind) (n : Nat) (f : Nat → Int) : Prop := g < w.heap.size ∧ ∀ j, j < n → w.cell? ⟨g, j, none⟩ = some (.int k (f j))

theorem SrcRow.carry {w w' : World} {g : Nat} {k : IntKind} {n : Nat} {f : Nat → Int} (h : SrcRow w g k n f) (hb : Below w.heap.size w w') : SrcRow w' g k n f :=
  ⟨Nat.lt_of_lt_of_le h.1 hb.size, fun j hj => by rw [hb.cell (by simpa using h.1)]; exact h.2 j hj⟩

theorem SrcRow.of_own {w : World} {base e g cap : Nat} {k : IntKind} {n : Nat} {f : Nat → Int} (h : w.ownsRow base e 1 (.slice (some ⟨g, 0, none⟩) n cap) n (tab k f n)) : SrcRow w g k n f :=
  ⟨(h.lt _ rfl).2, fun j hj => by rw [h.cellAt j (by omega), tab_get _ _ _ _ hj]⟩

theorem SrcRow.news {w w' : World} {g : Nat} {k : IntKind} {n : Nat} {f : Nat → Int} (h : SrcRow w g k n f) (hb : Below w.heap.size w w') : ∀ j u, (tab k f n)[j]? = some u → w'.cell? ((⟨g, 0, none⟩ : Addr).add j) = some u := by
  intro j u hj
  by_cases hjn : j < n
  · rw [tab_get _ _ _ _ hjn] at hj
    rw [hb.cell (by simp only [Addr.add]; split <;> exact h.1)]
    have := h.2 j hjn
    simp only [Addr.add]
    split
    · rename_i h0; subst h0; rw [this]; exact hj
    · simp only [Nat.zero_add]; rw [this]; exact hj
  · rw [List.getElem?_eq_none (by rw [tab_length]; omega)] at hj
    cases hj

theorem tab_one (k : IntKind) (f : Nat → Int) (n : Nat) : ∀ u ∈ tab k f n, u.oneCell' = true := by
  intro u hu
  obtain ⟨i, _, rfl⟩ := List.mem_map.1 hu
  rfl

theorem rows_built (w : World) (g1 g2 la lb : Nat) (cols ctrs : Nat → Int) (k1 : SrcRow w g1 .i32 (la + lb) cols) (k2 : SrcRow w g2 .u64 (la + lb) ctrs) :
    IsRows ((((w.alloc (.cells #[.slice (some ⟨g1, 0, none⟩) (la + lb) (la + lb)] 24)).alloc (.cells #[.slice (some ⟨g2, 0, none⟩) (la + lb) (la + lb)] 23)).alloc
      (.cells #[.int .i32 0, .int .i32 0, .int .i32 la, .int .i32 0, .int .i32 la, .int .i32 (la + lb)] 60)).alloc
      (.cells #[.slice (some ⟨w.heap.size, 0, none⟩) 1 1, .slice (some ⟨w.heap.size + 1, 0, none⟩) 1 1, .slice (some ⟨w.heap.size + 1 + 1, 0, none⟩) 2 2, .int .i32 0, .int .i32 0, .int .i32 0] 63))
      ((((w.alloc (.cells #[.slice (some ⟨g1, 0, none⟩) (la + lb) (la + lb)] 24)).alloc (.cells #[.slice (some ⟨g2, 0, none⟩) (la + lb) (la + lb)] 23)).alloc
      (.cells #[.int .i32 0, .int .i32 0, .int .i32 la, .int .i32 0, .int .i32 la, .int .i32 (la + lb)] 60)).alloc
      (.cells #[.slice (some ⟨w.heap.size, 0, none⟩) 1 1, .slice (some ⟨w.heap.size + 1, 0, none⟩) 1 1, .slice (some ⟨w.heap.size + 1 + 1, 0, none⟩) 2 2, .int .i32 0, .int .i32 0, .int .i32 0] 63)).heap.size
      (w.heap.size + 1 + 1 + 1) la lb cols ctrs := by
  obtain ⟨b1, c1⟩ := k1
  obtain ⟨b2, c2⟩ := k2
  have hx : ∀ g j (o1 o2 o3 o4 : Obj), g < w.heap.size → ((((w.alloc o1).alloc o2).alloc o3).alloc o4).cell? ⟨g, j, none⟩ = w.cell? ⟨g, j, none⟩ := by
    intro g j o1 o2 o3 o4 hg
    exact (((((Below.refl w.heap.size w).alloc (Nat.le_refl _) o1).alloc (by simp) o2).alloc (by simp; omega) o3).alloc (by simp; omega) o4).cell (by exact hg)
  refine ⟨w.heap.size, w.heap.size + 1, w.heap.size + 1 + 1, g1, g2, ?_, ?_, ?_, ?_, ?_, ?_, ?_, ?_, ?_, ?_, ?_, ?_, ?_, ?_, ?_, ?_, ?_, ?_, ?_⟩
  all_goals first
    | (simp; done)
    | (simp; omega)
    | (go_simp; done)
    | (intro j hj; rw [hx _ _ _ _ _ _ b1]; exact c1 j hj)
    | (intro j hj; rw [hx _ _ _ _ _ _ b2]; exact c2 j hj)

set_option maxHeartbeats 1000000 in
set_option maxRecDepth 100000 in
theorem brows_any (g1 g2 g3 g4 la lb : Nat) (A TA Bf TB : Nat → Int) (w : World) (hla : la ≤ 1024) (hlb : lb ≤ 1024) (h1 : SrcRow w g1 .i32 la A) (h2 : SrcRow w g2 .u64 la TA) (h3 : SrcRow w g3 .i32 lb Bf) (h4 : SrcRow w g4 .u64 lb TB) :
    Calls Yba.prog 8 #[.slice (some ⟨g1, 0, none⟩) la la, .slice (some ⟨g2, 0, none⟩) la la, .slice (some ⟨g3, 0, none⟩) lb lb, .slice (some ⟨g4, 0, none⟩) lb lb] w fun e w' =>
      ∃ R, e = .returned (.pointer (some ⟨R, 0, none⟩)) ∧ IsRows w' w'.heap.size R la lb (cat la A Bf) (cat la TA TB) ∧ Below w.heap.size w w' := by
  obtain ⟨i0, hi, hz0, hz1, hz2⟩ := info_parts Yba.info21
  obtain ⟨j0, hj, hy0, hy1, hy2⟩ := info_parts Yba.info31
  go_enter Yba.func8, Yba.ntmps8
  go_wp2_with (first
    | (at_make; refine wpList_make_own _ rfl _ _ 24 rfl w.heap.size 21 i0 (.int .i32 0) 1 Yba.underlying24 hi hz0 hz1 _ _ _ (la + lb) rfl rfl (by omega) (by rw [hz2]; omega) (by unfold maxLen; omega) (Nat.le_refl _) ?_; intro w1 hown1 hgrow1; have hb1 := (Below.refl w.heap.size w).grown hgrow1 (Nat.le_refl _) (by simp); have hlt1 : w.heap.size < w1.heap.size := (hown1.lt _ rfl).2)
    | (at_make; refine wpList_make_own _ rfl _ _ 23 rfl w.heap.size 31 j0 (.int .u64 0) 1 Yba.underlying23 hj hy0 hy1 _ _ _ (la + lb) rfl rfl (by omega) (by rw [hy2]; omega) (by unfold maxLen; omega) hb1.size ?_; intro w2 hown2 hgrow2; have hb2 := hb1.grown hgrow2 hb1.size (by simp); have hown1' := hown1.kept hgrow2 (Or.inr (by simp [Value.ownBlock])))
    | (at_builtin; refine wpList_append_fits _ rfl (.tmp 25) (.tmp 26) 24 rfl w.heap.size 21 i0 1 Yba.underlying24 hi hz1 w.heap.size 0 (la + lb) _ rfl hown1' ⟨g1, 0, none⟩ la la (tab .i32 A la) rfl (by simp [tab_length]) (h1.news hb2) (tab_one _ _ _) (by omega) ?_; intro w3 hown3 hgrow3; simp only [Nat.zero_add, List.nil_append] at hown3; have hb3 := hb2.grown hgrow3 hb2.size (by simp); have hown2' := hown2.kept hgrow3 (Or.inr (by simp [Value.ownBlock]; omega)))
    | (at_builtin; refine wpList_append_fits _ rfl (.tmp 28) (.tmp 29) 24 rfl w.heap.size 21 i0 1 Yba.underlying24 hi hz1 w.heap.size la (la + lb) _ rfl hown3 ⟨g3, 0, none⟩ lb lb (tab .i32 Bf lb) rfl (by simp [tab_length]) (h3.news hb3) (tab_one _ _ _) (by omega) ?_; intro w4 hown4 hgrow4; have hb4 := hb3.grown hgrow4 hb3.size (by simp); have hown2'' := hown2'.kept hgrow4 (Or.inr (by simp [Value.ownBlock]; omega)))
    | (at_builtin; refine wpList_append_fits _ rfl (.tmp 31) (.tmp 32) 23 rfl w.heap.size 31 j0 1 Yba.underlying23 hj hy1 w1.heap.size 0 (la + lb) _ rfl hown2'' ⟨g2, 0, none⟩ la la (tab .u64 TA la) rfl (by simp [tab_length]) (h2.news hb4) (tab_one _ _ _) (by omega) ?_; intro w5 hown5 hgrow5; simp only [Nat.zero_add, List.nil_append] at hown5; have hb5 := hb4.grown hgrow5 hb4.size (by simp; omega); have hown4' := hown4.kept hgrow5 (Or.inr (by simp [Value.ownBlock]; omega)))
    | (at_builtin; refine wpList_append_fits _ rfl (.tmp 34) (.tmp 35) 23 rfl w.heap.size 31 j0 1 Yba.underlying23 hj hy1 w1.heap.size la (la + lb) _ rfl hown5 ⟨g4, 0, none⟩ lb lb (tab .u64 TB lb) rfl (by simp [tab_length]) (h4.news hb5) (tab_one _ _ _) (by omega) ?_; intro w6 hown6 hgrow6; have hb6 := hb5.grown hgrow6 hb5.size (by simp; omega); have hown4'' := hown4'.kept hgrow6 (Or.inr (by simp [Value.ownBlock]; omega))))
  go_ret
  rw [tab_cat] at hown6 hown4''
  have k1 := SrcRow.of_own hown4''
  have k2 := SrcRow.of_own hown6
  refine ⟨_, rfl, rows_built w6 w.heap.size w1.heap.size la lb (cat la A Bf) (cat la TA TB) k1 k2, ?_⟩
  have hs := hb6.size
  exact (((hb6.alloc hs _).alloc (by simp; omega) _).alloc (by simp; omega) _).alloc (by simp; omega) _

set_option maxHeartbeats 400000 in
set_option maxRecDepth 100000 in
/-- newLaidClock. -/
theorem newLaid_any (R m : Nat) (w : World) (hm1 : 1 ≤ m) (hm : m ≤ 16) (hR : R < w.heap.size) :
    Calls Yba.prog 9 #[.pointer (some ⟨R, 0, none⟩), .int .i64 m] w fun e w' => ∃ L H, e = .returned (.pointer (some ⟨L, 0, none⟩)) ∧ L ≠ H ∧ w.heap.size ≤ L ∧ w.heap.size ≤ H ∧ IsLaid w' w'.heap.size L R H m (fun _ => 0) ∧
      w'.cell? ⟨L, 2, none⟩ = some (.int .i64 0) ∧ (∀ j, w'.frozen? ⟨L, j, none⟩ = false) ∧ (∀ j, w'.frozen? ⟨H, j, none⟩ = false) ∧ Below w.heap.size w w' := by
  obtain ⟨j0, hj, hy0, hy1, hy2⟩ := info_parts Yba.info31
  go_enter Yba.func9, Yba.ntmps9
  go_wp2_with (first
    | (at_make; refine wpList_make_full _ rfl _ _ 23 rfl w.heap.size 31 j0 (.int .u64 0) 1 Yba.underlying23 hj hy0 hy1 _ _ _ _ m rfl rfl rfl rfl (by rw [hy2]; omega) (by unfold maxLen; omega) (Nat.le_refl _) ?_; intro w1 hown1 hgrow1))
  go_ret
  have hb1 := (Below.refl w.heap.size w).grown hgrow1 (Nat.le_refl _) (by simp)
  have hlt : w.heap.size < w1.heap.size := (hown1.lt _ rfl).2
  have hx : ∀ j (o : Obj), (w1.alloc o).cell? ⟨w.heap.size, j, none⟩ = w1.cell? ⟨w.heap.size, j, none⟩ := fun j o => ((Below.refl w1.heap.size w1).alloc (Nat.le_refl _) o).cell (by exact hlt)
  have hf : ∀ j (o : Obj), (w1.alloc o).frozen? ⟨w.heap.size, j, none⟩ = w1.frozen? ⟨w.heap.size, j, none⟩ := fun j o => ((Below.refl w1.heap.size w1).alloc (Nat.le_refl _) o).frozen (by exact hlt)
  refine ⟨_, w.heap.size, rfl, by omega, hb1.size, Nat.le_refl _, ⟨by simp, by simp; omega, by go_simp, by go_simp, ?_⟩, by go_simp, ?_, ?_, hb1.alloc hb1.size _⟩
  · intro j hj
    rw [hx, hown1.cellAt j (by omega)]
    have e : (madeCells (Value.int .u64 0).cells (m * 1)).toList = List.replicate m (Value.int .u64 0) := by rw [Nat.mul_one]; exact toList_madeCells_one _ _
    rw [e]
    simp [hj]
  · intro j
    go_simp
  · intro j
    rw [hf]
    exact hown1.frozenAt j
end Go.Proofs.Ybulklfu
