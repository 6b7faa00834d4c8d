/- SEAT b6627778a, WALKS 2: (*Config).ShareSettings, (*Config).Switches, (*Config).IntSettings. -/
import Derived.Test.Qxb6627778aTakes
import Derived.Test.Qxb6627778aWalks1
import Derived.Lib.SmallJoins
namespace Go.Proofs.Qxb6627778a
open Go.ChangeShapes Go.WideShapes Go.ChangeAt Go.RowKit

def takes7 (b : Nat) : List (Nat × Value) := [(0, .pointer (some ⟨b, 0, none⟩)), (1, .pointer (some ⟨b, 0, none⟩)), (2, .pointer (some ⟨b, 10, none⟩)), (3, .agg #[.string n15, .string a15, .pointer (some ⟨b, 10, none⟩), .float .f64 4597166413228745425, .float .f64 0, .float .f64 4607182418800017408]), (4, .pointer (some ⟨b, 0, none⟩)), (5, .pointer (some ⟨b, 0, none⟩)), (6, .pointer (some ⟨b, 11, none⟩)), (7, .agg #[.string n16, .string a16, .pointer (some ⟨b, 11, none⟩), .float .f64 4598031104357200560, .float .f64 0, .float .f64 4607182418800017408]), (8, .pointer (some ⟨b, 0, none⟩)), (9, .pointer (some ⟨b, 0, none⟩)), (10, .pointer (some ⟨b, 12, none⟩)), (11, .agg #[.string n17, .string a17, .pointer (some ⟨b, 12, none⟩), .float .f64 4589052728140074739, .float .f64 0, .float .f64 4607182418800017408]), (12, .pointer (some ⟨b, 0, none⟩)), (13, .pointer (some ⟨b, 0, none⟩)), (14, .pointer (some ⟨b, 17, none⟩)), (15, .pointer (some ⟨b, 17, none⟩)), (16, .agg #[.string n18, .string a18, .pointer (some ⟨b, 17, none⟩), .float .f64 4582862980812216730, .float .f64 0, .float .f64 4607182418800017408]), (17, .pointer (some ⟨b, 0, none⟩)), (18, .pointer (some ⟨b, 0, none⟩)), (19, .pointer (some ⟨b, 17, none⟩)), (20, .pointer (some ⟨b, 18, none⟩)), (21, .agg #[.string n19, .string a19, .pointer (some ⟨b, 18, none⟩), .float .f64 4606281698874543309, .float .f64 0, .float .f64 4607182418800017408]), (22, .pointer (some ⟨b, 0, none⟩)), (23, .pointer (some ⟨b, 0, none⟩)), (24, .pointer (some ⟨b, 17, none⟩)), (25, .pointer (some ⟨b, 19, none⟩)), (26, .agg #[.string n20, .string a20, .pointer (some ⟨b, 19, none⟩), .float .f64 4591870180066957722, .float .f64 0, .float .f64 4607182418800017408])]
def takes6 (b : Nat) : List (Nat × Value) := [(0, .pointer (some ⟨b, 0, none⟩)), (1, .pointer (some ⟨b, 0, none⟩)), (2, .pointer (some ⟨b, 0, none⟩)), (4, .pointer (some ⟨b, 0, none⟩)), (5, .pointer (some ⟨b, 0, none⟩)), (6, .pointer (some ⟨b, 4, none⟩)), (7, .agg #[.string n4, .string a4, .pointer (some ⟨b, 4, none⟩), .int .i64 15, .int .i64 2, .int .i64 1000]), (8, .pointer (some ⟨b, 0, none⟩)), (9, .pointer (some ⟨b, 0, none⟩)), (10, .pointer (some ⟨b, 5, none⟩)), (11, .agg #[.string n5, .string a5, .pointer (some ⟨b, 5, none⟩), .int .i64 15, .int .i64 1, .int .i64 1000]), (12, .pointer (some ⟨b, 0, none⟩)), (13, .pointer (some ⟨b, 0, none⟩)), (14, .pointer (some ⟨b, 6, none⟩)), (15, .agg #[.string n6, .string a6, .pointer (some ⟨b, 6, none⟩), .int .i64 3, .int .i64 1, .int .i64 12]), (16, .pointer (some ⟨b, 0, none⟩)), (17, .pointer (some ⟨b, 0, none⟩)), (18, .pointer (some ⟨b, 7, none⟩)), (19, .agg #[.string n7, .string a7, .pointer (some ⟨b, 7, none⟩), .int .i64 3, .int .i64 1, .int .i64 2147483647]), (20, .pointer (some ⟨b, 0, none⟩)), (21, .pointer (some ⟨b, 0, none⟩)), (22, .pointer (some ⟨b, 8, none⟩)), (23, .agg #[.string n8, .string a8, .pointer (some ⟨b, 8, none⟩), .int .i64 3, .int .i64 0, .int .i64 2147483647]), (24, .pointer (some ⟨b, 0, none⟩)), (25, .pointer (some ⟨b, 0, none⟩)), (26, .pointer (some ⟨b, 9, none⟩)), (27, .agg #[.string n9, .string a9, .pointer (some ⟨b, 9, none⟩), .int .i64 3, .int .i64 1, .int .i64 2147483647]), (28, .pointer (some ⟨b, 0, none⟩)), (29, .pointer (some ⟨b, 0, none⟩)), (30, .pointer (some ⟨b, 14, none⟩)), (31, .agg #[.string n10, .string a10, .pointer (some ⟨b, 14, none⟩), .int .i64 10, .int .i64 1, .int .i64 1000]), (32, .pointer (some ⟨b, 0, none⟩)), (33, .pointer (some ⟨b, 0, none⟩)), (34, .pointer (some ⟨b, 15, none⟩)), (35, .agg #[.string n11, .string a11, .pointer (some ⟨b, 15, none⟩), .int .i64 300, .int .i64 1, .int .i64 2147483647]), (36, .pointer (some ⟨b, 0, none⟩)), (37, .pointer (some ⟨b, 0, none⟩)), (38, .pointer (some ⟨b, 16, none⟩)), (39, .agg #[.string n12, .string a12, .pointer (some ⟨b, 16, none⟩), .int .i64 2, .int .i64 1, .int .i64 2147483647]), (40, .pointer (some ⟨b, 0, none⟩)), (41, .pointer (some ⟨b, 0, none⟩)), (42, .pointer (some ⟨b, 17, none⟩)), (43, .pointer (some ⟨b, 20, none⟩)), (44, .agg #[.string n13, .string a13, .pointer (some ⟨b, 20, none⟩), .int .i64 40, .int .i64 1, .int .i64 2147483647]), (45, .pointer (some ⟨b, 0, none⟩)), (46, .pointer (some ⟨b, 0, none⟩)), (47, .pointer (some ⟨b, 17, none⟩)), (48, .pointer (some ⟨b, 21, none⟩)), (49, .agg #[.string n14, .string a14, .pointer (some ⟨b, 21, none⟩), .int .i64 40, .int .i64 1, .int .i64 2147483647])]

set_option maxRecDepth 100000 in
set_option maxHeartbeats 4000000 in
theorem shares_any (b : Nat) (w : World) :
    Calls Try.prog 7 #[.pointer (some ⟨b, 0, none⟩)] w fun e w' => e = .returned (.slice (some ⟨w.heap.size, 0, none⟩) 6 6) ∧ w' = (w.alloc (.cells (flat b shares).toArray 42)).drew := by
  go_enter Try.func7, Try.ntmps7
  go_wp2
  refine wp_region_any (by kernel_rfl) ?_
  refine wpAny_takes (by kernel_rfl) (fun c d v a w h => by cases d <;> exact h) (takes7 b) _ _ _ _ 2 rfl (by kernel_rfl) ?_ ?_
  · unfold takes7
    repeat (refine ⟨⟨_, rfl, by kernel_rfl, fun w => by kernel_rfl⟩, ?_⟩)
    trivial
  · refine wpAny_one (i := 27) (by kernel_rfl) ?_
    refine wpOp_value (v := .slice (some ⟨w.heap.size, 0, none⟩) 6 6) (w' := (w.alloc (.cells (flat b shares).toArray 42)).drew) rfl (by kernel_rfl) (by kernel_rfl) ?_
    refine wpAny_one (i := 28) (by kernel_rfl) ?_
    refine wpOp_value (v := .slice (some ⟨w.heap.size, 0, none⟩) 6 6) (w' := (w.alloc (.cells (flat b shares).toArray 42)).drew) rfl (by kernel_rfl) (by kernel_rfl) ?_
    refine wpAny_done (by kernel_rfl) ?_ _
    rename_i hK
    refine hK _ _ ?_
    apply wp_ret
    exact bodyPost_ret (v := .slice (some ⟨w.heap.size, 0, none⟩) 6 6) (by kernel_rfl) (by kernel_rfl) ⟨rfl, rfl⟩

set_option maxRecDepth 100000 in
set_option maxHeartbeats 4000000 in
theorem switches_any (b : Nat) (w : World) :
    Calls Try.prog 8 #[.pointer (some ⟨b, 0, none⟩)] w fun e w' => e = .returned (.slice (some ⟨w.heap.size, 0, none⟩) 1 1) ∧ w' = w.alloc (.cells (switches b).toArray 45) := by
  go_enter Try.func8, Try.ntmps8
  go_wp2
  go_ret
  exact ⟨rfl, rfl⟩

theorem zero39 : ∃ i, Try.prog.info? 39 = some i ∧ i.zero = some (.agg #[.string ByteArray.empty, .string ByteArray.empty, .pointer none, .int .i64 0, .int .i64 0, .int .i64 0]) ∧ i.size = 6 ∧ i.bytes = 64 := by
  have h := info39
  cases hq : Try.prog.info? 39 with
  | none => simp [hq] at h
  | some i => simp [hq] at h; exact ⟨i, rfl, h⟩

theorem flat_len (b : Nat) (rs : List SRow) : (flat b rs).length = rs.length * 6 := by
  induction rs with
  | nil => rfl
  | cons r rs ih =>
    show (r.cells b ++ flat b rs).length = _
    rw [List.length_append, ih, List.length_cons]
    show 6 + _ = _
    omega

theorem one_cells (b : Nat) : ∀ rs : List SRow, (∀ r ∈ rs, r.dflt.oneCell' = true ∧ r.lo.oneCell' = true ∧ r.hi.oneCell' = true) → ∀ u ∈ flat b rs, u.oneCell' = true := by
  intro rs h u hu
  simp only [flat, List.mem_flatMap] at hu
  obtain ⟨r, hr, hu⟩ := hu
  obtain ⟨h1, h2, h3⟩ := h r hr
  simp only [SRow.cells, List.mem_cons, List.not_mem_nil, or_false] at hu
  rcases hu with rfl | rfl | rfl | rfl | rfl | rfl
  · rfl
  · rfl
  · rfl
  · exact h1
  · exact h2
  · exact h3

theorem more_one (b : Nat) : ∀ u ∈ flat b more, u.oneCell' = true := one_cells b more (by
  intro r hr
  simp only [more, List.mem_cons, List.not_mem_nil, or_false] at hr
  rcases hr with rfl | rfl | rfl | rfl | rfl | rfl | rfl | rfl | rfl | rfl | rfl <;> exact ⟨rfl, rfl, rfl⟩)

/-- What an append leaves, as a range. -/
theorem range_of_owns {w : World} {base g cap n size : Nat} {e : TypeId} {xs : List Value} (h : w.ownsRow base e size (.slice (some ⟨g, 0, none⟩) n cap) n xs) : w.rangeAt g 0 xs := fun j v hj => by
  have hl : j < n * size := by rw [← h.1]; exact (List.getElem?_eq_some_iff.1 hj).1
  rw [Nat.zero_add, h.cellAt j hl]
  exact hj

theorem add_range {w : World} {g : Nat} {cs : List Value} (h : w.rangeAt g 0 cs) : ∀ j u, cs[j]? = some u → w.cell? ((⟨g, 0, none⟩ : Addr).add j) = some u := fun j u hu => by
  rw [Addr.add_mid]
  exact h j u hu

set_option maxRecDepth 100000 in
set_option maxHeartbeats 4000000 in
theorem ints_any (b : Nat) (w : World) :
    Calls Try.prog 6 #[.pointer (some ⟨b, 0, none⟩)] w fun e w' => ∃ g cap, e = .returned (.slice (some ⟨g, 0, none⟩) 15 cap) ∧ w.heap.size ≤ g ∧ w'.rangeAt g 0 (flat b ints) ∧ Below w.heap.size w w' := by
  obtain ⟨i39, hi, hz, hsz, hby⟩ := zero39
  have hfl : flat b ints = flat b rules ++ flat b more := by simp [flat, ints]
  go_enter Try.func6, Try.ntmps6
  go_wp2
  rename_i hK
  refine wp_region_any (by kernel_rfl) ?_
  refine wpAny_takes (by kernel_rfl) (fun c d v a w h => by cases d <;> exact h) (takes6 b) _ _ _ _ 4 rfl (by kernel_rfl) ?_ ?_
  · unfold takes6
    repeat (refine ⟨⟨_, rfl, by kernel_rfl, fun w => by kernel_rfl⟩, ?_⟩)
    trivial
  · refine wpAny_two (i := 3) (j := 50) (by kernel_rfl) ?_ ?_
    · -- the call first
      refine wpOp_call rfl (by kernel_rfl) 11 [.pointer (some ⟨b, 0, none⟩)] [.tmp 5] _ rfl (by kernel_rfl) (callFunc11 _ _) ?_
      refine (settings_any b _).mono fun e W1 ⟨he, hW1⟩ => ⟨_, he, ?_⟩
      have hb1 : Below w.heap.size w W1 := by rw [hW1]; exact ((Below.refl _ _).drew.alloc (Nat.le_refl _) _).drew
      have hr4 : W1.rangeAt w.heap.size 0 (flat b rules) := by rw [hW1]; exact fun j v hj => rangeAt_new w (flat b rules) 39 j v hj
      clear hW1 he
      refine wpAny_one (i := 50) (by kernel_rfl) ?_
      refine wpOp_value (v := .slice (some ⟨W1.heap.size, 0, none⟩) 11 11) (w' := W1.alloc (.cells (flat b more).toArray 39)) rfl (by kernel_rfl) (by kernel_rfl) ?_
      have hb2 : Below w.heap.size w (W1.alloc (.cells (flat b more).toArray 39)) := hb1.alloc hb1.size _
      have hr4' := World.rangeAt_alloc hr4 (.cells (flat b more).toArray 39)
      have hr11 := rangeAt_new W1 (flat b more) 39
      refine wpAny_one (i := 51) (by kernel_rfl) ?_
      refine wpOp_if rfl (step_append_grows rfl (.tmp 6) (.tmp 53) 30 rfl 39 i39 _ 6 64 Try.underlying30 hi hz hsz hby rfl (by decide) (some ⟨w.heap.size, 0, none⟩) 4 4 (flat b rules) (by kernel_rfl) (fun h => by cases h) (flat_len b rules) (fun q hq => by cases hq; exact add_range hr4')
        ⟨W1.heap.size, 0, none⟩ 11 11 (flat b more) (by kernel_rfl) (flat_len b more) (add_range hr11) (more_one b) (by decide) (by decide) (by decide) ?_)
      intro v' w' hown hgrow
      obtain ⟨g, cap, rfl⟩ := Joins.ownsRow_form hown (by decide)
      refine wpAny_one (i := 52) (by kernel_rfl) ?_
      refine wpOp_value (v := .slice (some ⟨g, 0, none⟩) 15 cap) (w' := w') rfl (by kernel_rfl) (by kernel_rfl) ?_
      refine wpAny_done (by kernel_rfl) ?_ _
      refine hK _ _ ?_
      apply wp_ret
      refine bodyPost_ret (v := .slice (some ⟨g, 0, none⟩) 15 cap) (by kernel_rfl) (by kernel_rfl) ⟨g, cap, rfl, ?_, ?_, ?_⟩
      · have := (hown.lt g rfl).1
        exact Nat.le_trans hb2.size this
      · rw [hfl]; exact range_of_owns hown
      · exact hb2.grown hgrow hb2.size (fun k hk => by cases hk)
    · -- the new row first
      have hb1 : Below w.heap.size w ((w.alloc (.cells (flat b more).toArray 39)).drew) := ((Below.refl _ _).alloc (Nat.le_refl _) _).drew
      have hr11 : (w.alloc (.cells (flat b more).toArray 39)).drew.rangeAt w.heap.size 0 (flat b more) := fun j v hj => rangeAt_new w (flat b more) 39 j v hj
      refine wpOp_value (v := .slice (some ⟨w.heap.size, 0, none⟩) 11 11) (w' := (w.alloc (.cells (flat b more).toArray 39)).drew) rfl (by kernel_rfl) (by kernel_rfl) ?_
      generalize (w.alloc (.cells (flat b more).toArray 39)).drew = W1 at hb1 hr11 ⊢
      refine wpAny_one (i := 3) (by kernel_rfl) ?_
      refine wpOp_call rfl (by kernel_rfl) 11 [.pointer (some ⟨b, 0, none⟩)] [.tmp 5] _ rfl (by kernel_rfl) (callFunc11 _ _) ?_
      refine (settings_any b _).mono fun e W2 ⟨he, hW2⟩ => ⟨_, he, ?_⟩
      have hb2 : Below w.heap.size w W2 := by rw [hW2]; exact (hb1.alloc hb1.size _).drew
      have hr11' : W2.rangeAt w.heap.size 0 (flat b more) := by rw [hW2]; exact fun j v hj => World.rangeAt_alloc hr11 _ j v hj
      have hr4 : W2.rangeAt W1.heap.size 0 (flat b rules) := by rw [hW2]; exact fun j v hj => rangeAt_new W1 (flat b rules) 39 j v hj
      clear hW2 he
      refine wpAny_one (i := 51) (by kernel_rfl) ?_
      refine wpOp_if rfl (step_append_grows rfl (.tmp 6) (.tmp 53) 30 rfl 39 i39 _ 6 64 Try.underlying30 hi hz hsz hby rfl (by decide) (some ⟨W1.heap.size, 0, none⟩) 4 4 (flat b rules) (by kernel_rfl) (fun h => by cases h) (flat_len b rules) (fun q hq => by cases hq; exact add_range hr4)
        ⟨w.heap.size, 0, none⟩ 11 11 (flat b more) (by kernel_rfl) (flat_len b more) (add_range hr11') (more_one b) (by decide) (by decide) (by decide) ?_)
      intro v' w' hown hgrow
      obtain ⟨g, cap, rfl⟩ := Joins.ownsRow_form hown (by decide)
      refine wpAny_one (i := 52) (by kernel_rfl) ?_
      refine wpOp_value (v := .slice (some ⟨g, 0, none⟩) 15 cap) (w' := w') rfl (by kernel_rfl) (by kernel_rfl) ?_
      refine wpAny_done (by kernel_rfl) ?_ _
      refine hK _ _ ?_
      apply wp_ret
      refine bodyPost_ret (v := .slice (some ⟨g, 0, none⟩) 15 cap) (by kernel_rfl) (by kernel_rfl) ⟨g, cap, rfl, ?_, ?_, ?_⟩
      · have := (hown.lt g rfl).1
        exact Nat.le_trans hb2.size this
      · rw [hfl]; exact range_of_owns hown
      · exact hb2.grown hgrow hb2.size (fun k hk => by cases hk)

end Go.Proofs.Qxb6627778a
