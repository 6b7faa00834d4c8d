/- SEAT b6627778a, WALKS 4: DefaultConfig. -/
import Derived.Test.Qxb6627778aWalks3
namespace Go.Proofs.Qxb6627778a
open Go.ChangeShapes Go.WideShapes Go.ChangeAt Go.RowKit

def cfg0 : Array Value := #[.int .i64 0, .int .i64 0, .int .i64 0, .int .i64 0, .int .i64 0, .int .i64 0, .int .i64 0, .int .i64 0, .int .i64 0, .int .i64 0, .float .f64 0, .float .f64 0, .float .f64 0, .bool false, .int .i64 0, .int .i64 0, .int .i64 0, .float .f64 0, .float .f64 0, .float .f64 0, .int .i64 0, .int .i64 0]
/-- The published defaults, cell by cell. -/
def cfg : Array Value := #[.int .i64 40, .int .i64 5, .int .i64 10, .int .i64 5, .int .i64 15, .int .i64 15, .int .i64 3, .int .i64 3, .int .i64 3, .int .i64 3, .float .f64 4597166413228745425, .float .f64 4598031104357200560, .float .f64 4589052728140074739, .bool true,
  .int .i64 10, .int .i64 300, .int .i64 2, .float .f64 4582862980812216730, .float .f64 4606281698874543309, .float .f64 4591870180066957722, .int .i64 40, .int .i64 40]
theorem cfg_made : (applyRows shares (applyRows ints cfg0)).setIfInBounds 13 (.bool true) = cfg := by kernel_rfl
theorem zeroI28 : (Try.prog.info? 28).map (fun i => (i.zero, i.size)) = some (some (.agg cfg0), 22) := by kernel_rfl
theorem size28 : (Try.prog.info? 28).map (·.size) = some 22 := by kernel_rfl
theorem zeroI45 : (Try.prog.info? 45).map (fun i => (i.zero, i.size)) = some (some (.agg #[.string ByteArray.empty, .string ByteArray.empty, .pointer none, .bool false]), 4) := by kernel_rfl
theorem size45 : (Try.prog.info? 45).map (·.size) = some 4 := by kernel_rfl
theorem ints_ok : ∀ r ∈ ints, r.off < 22 ∧ r.lo.oneCell' = true ∧ r.hi.oneCell' = true ∧ ∃ d, r.dflt = .int .i64 d := by
  intro r hr
  simp only [ints, rules, more, List.cons_append, List.nil_append, List.mem_cons, List.not_mem_nil, or_false] at hr
  rcases hr with rfl | rfl | rfl | rfl | rfl | rfl | rfl | rfl | rfl | rfl | rfl | rfl | rfl | rfl | rfl <;> exact ⟨by decide, rfl, rfl, _, rfl⟩
theorem shares_ok : ∀ r ∈ shares, r.off < 22 ∧ r.lo.oneCell' = true ∧ r.hi.oneCell' = true ∧ ∃ d : Nat, r.dflt = .float .f64 d := by
  intro r hr
  simp only [shares, List.mem_cons, List.not_mem_nil, or_false] at hr
  rcases hr with rfl | rfl | rfl | rfl | rfl | rfl <;> exact ⟨by decide, rfl, rfl, _, rfl⟩

theorem grown_block {w w' : World} {r k : Nat} {o : Obj} (hg : w.grownBy w' (some r)) (h : w.heap[k]? = some o) (hne : k ≠ r) : w'.heap[k]? = some o := by
  have hlt : k < w.heap.size := (Array.getElem?_eq_some_iff.1 h).1
  rw [hg.block k hlt (fun e => hne (by cases e; rfl))]
  exact h
theorem below_block {w w' : World} {k : Nat} {o : Obj} (hb : Below w.heap.size w w') (h : w.heap[k]? = some o) : w'.heap[k]? = some o := by
  rw [hb.block k (Array.getElem?_eq_some_iff.1 h).1]
  exact h
theorem below_grown {B : Nat} {a w w' : World} {r : Nat} (h : Below B a w) (hg : w.grownBy w' (some r)) (hB : B ≤ w.heap.size) (hr : B ≤ r) : Below B a w' :=
  h.grown hg hB (fun k hk => by cases hk; exact hr)

/-- What DefaultConfig knows of its two blocks. -/
def Two (w wr : World) (C : Array Value) : Prop := Below w.heap.size w wr ∧ wr.heap[w.heap.size]? = some (.cells cfg0 28 (0, 0)) ∧ wr.heap[w.heap.size + 1]? = some (.cells C 28 (0, 0))

theorem Two.below {w wr w' : World} {C : Array Value} (h : Two w wr C) (hb : Below wr.heap.size wr w') : Two w w' C :=
  ⟨h.1.trans (hb.mono h.1.size), below_block hb h.2.1, below_block hb h.2.2⟩
theorem Two.grown {w wr w' : World} {C C' : Array Value} (h : Two w wr C) (hg : wr.grownBy w' (some (w.heap.size + 1))) (hC : w'.heap[w.heap.size + 1]? = some (.cells C' 28 (0, 0))) : Two w w' C' :=
  ⟨below_grown h.1 hg h.1.size (by omega), grown_block hg h.2.1 (by omega), hC⟩

theorem results_cell_mid {P : Program} {fn : Func} {p : Tmp} {ty : TypeId} {tmps : Array Value} {w : World} {b o : Nat} {v : Value} (h : fn.results = #[.cell p ty]) (hp : tmps.getD p undef = .pointer (some ⟨b, o, none⟩)) (hl : (loadVar ty ⟨b, o, none⟩).run P w = .ok v w) :
    (results fn tmps).run P w = .ok v w := by
  have hp' : tmps[p]?.getD undef = .pointer (some ⟨b, o, none⟩) := by simpa using hp
  simp [results, h, hp', asAddr, hl]

set_option maxHeartbeats 4000000 in
theorem default_any (w : World) : Calls Try.prog 5 #[] w fun e w' => e = .returned (.agg cfg) ∧ Below w.heap.size w w' := by
  have h0 : Two w ((w.alloc (.cells cfg0 28)).alloc (.cells cfg0 28)) cfg0 := by
    refine ⟨((Below.refl _ _).alloc (Nat.le_refl _) _).alloc (by rw [size_alloc]; omega) _, ?_, ?_⟩
    · rw [Below.heap_alloc _ _ _ (by rw [size_alloc]; omega)]
      exact Go.heap_alloc_new w _
    · have := Go.heap_alloc_new (w.alloc (.cells cfg0 28)) (.cells cfg0 28)
      rwa [size_alloc] at this
  go_enter Try.func5, Try.ntmps5
  go_wp2_with (refine wpList_alloc_row rfl 28 rfl _ 22 zeroI28 ?_)
  generalize ((w.alloc (.cells cfg0 28)).alloc (.cells cfg0 28)) = W0 at h0 ⊢
  refine (ints_any (w.heap.size + 1) W0).mono ?_
  rintro e w1 ⟨g, cap, rfl, hg, hr1, hb1⟩
  have h1 := h0.below hb1
  have hgne : g ≠ w.heap.size + 1 := by
    have := (Array.getElem?_eq_some_iff.1 h0.2.2).1
    omega
  go_wp2_with fail
  refine (setInts (w.heap.size + 1) g cap ints cfg0 28 w1 hr1 hgne h1.2.2 (by decide) ints_ok).mono ?_
  rintro e w2 ⟨rfl, hg2, hC2⟩
  have h2 := h1.grown hg2 hC2
  clear h1 h0 hb1 hr1 hg2 hC2 hgne hg
  go_wp2_with fail
  refine (shares_any (w.heap.size + 1) w2).mono ?_
  rintro e w3 ⟨rfl, hw3⟩
  have hb3 : Below w2.heap.size w2 w3 := by rw [hw3]; exact ((Below.refl _ _).alloc (Nat.le_refl _) _).drew
  have hr3 : w3.rangeAt w2.heap.size 0 (flat (w.heap.size + 1) shares) := by rw [hw3]; exact fun j v hj => rangeAt_new w2 _ 42 j v hj
  have h3 := h2.below hb3
  have hne3 : w2.heap.size ≠ w.heap.size + 1 := by
    have := (Array.getElem?_eq_some_iff.1 h2.2.2).1
    omega
  clear hw3
  go_wp2_with fail
  refine (setShares (w.heap.size + 1) w2.heap.size 6 shares _ 28 w3 hr3 hne3 h3.2.2 (by decide) (by rw [applyRows_size]; exact shares_ok)).mono ?_
  rintro e w4 ⟨rfl, hg4, hC4⟩
  have h4 := h3.grown hg4 hC4
  clear h2 h3 hb3 hr3 hg4 hC4 hne3
  go_wp2_with fail
  refine (switches_any (w.heap.size + 1) w4).mono ?_
  rintro e w5 ⟨rfl, hw5⟩
  have hb5 : Below w4.heap.size w4 w5 := by rw [hw5]; exact (Below.refl _ _).alloc (Nat.le_refl _) _
  have hr5 : w5.rangeAt w4.heap.size 0 (switches (w.heap.size + 1)) := by rw [hw5]; exact rangeAt_new w4 _ 45
  have h5 := h4.below hb5
  clear hw5
  go_wp2
  have hcb : w5.cell? ⟨w.heap.size + 1, 13, none⟩ = some (.bool false) := by rw [cell_of_row w5 _ _ _ 28 (0, 0) h5.2.2]; kernel_rfl
  have hfb : w5.frozen? ⟨w.heap.size + 1, 13, none⟩ = false := frozen_of_row w5 _ _ _ 28 h5.2.2
  have hlt5 : w.heap.size + 1 < w5.heap.size := (Array.getElem?_eq_some_iff.1 h5.2.2).1
  have hset := grown_set (off := 13) (v := .bool true) (grown_refl w5 (some (w.heap.size + 1))) h5.2.2 (.cells #[.string n21, .string a21, .pointer (some ⟨w.heap.size + 1, 13, none⟩), .bool true] 45)
  rw [cfg_made] at hset
  have h6 := h5.grown hset.1 hset.2
  clear hset
  refine wp_loop_rounds 2 ?_
  rw [rounds_succ]
  go_wp2_with (first | (refine wpList_load_mid rfl 45 _ rfl w4.heap.size 0 rfl [.string n21, .string a21, .pointer (some ⟨w.heap.size + 1, 13, none⟩), .bool true] _ hr5 Try.underlying45 rfl size45 ?_) | (refine wpList_alloc_row rfl 45 rfl _ 4 zeroI45 ?_) | (refine wpList_store_new rfl 45 _ _ rfl _ #[.string n21, .string a21, .pointer (some ⟨w.heap.size + 1, 13, none⟩), .bool true] rfl rfl size45 rfl rfl ?_))
  clear hcb hfb hr5 hb5
  generalize ((w5.setCell ⟨w.heap.size + 1, 13, none⟩ (.bool true)).alloc (.cells #[.string n21, .string a21, .pointer (some ⟨w.heap.size + 1, 13, none⟩), .bool true] 45)) = W6 at h6 ⊢
  have hth : W6.there w.heap.size 0 cfg.size := fun j hj => by
    have hj' : j < 22 := hj
    refine ⟨?_, frozen_of_row W6 _ _ cfg0 28 h6.2.1⟩
    rw [cell_of_row W6 _ _ cfg0 28 (0, 0) h6.2.1, Nat.zero_add]
    have : cfg0.size = 22 := rfl
    simp [this, hj']
  have hth' : W6.there w.heap.size 0 cfg.toList.length := hth
  have hrg : (W6.setCells w.heap.size 0 cfg.toList).rangeAt w.heap.size 0 cfg.toList := World.rangeAt_setCells_same _ _ _ _ hth'
  have hbW : Below w.heap.size w (W6.setCells w.heap.size 0 cfg.toList) := by
    have : ∀ (cs : List Value) (o : Nat) (wx : World), Below w.heap.size w wx → Below w.heap.size w (wx.setCells w.heap.size o cs) := by
      intro cs
      induction cs with
      | nil => intro o wx h; exact h
      | cons v r ih => intro o wx h; rw [World.setCells]; exact ih _ _ (h.setCell (p := ⟨w.heap.size, o, none⟩) (Nat.le_refl _) v)
    exact this _ _ _ h6.1
  have hl := run_loadVar_mid (P := Try.prog) _ _ _ 28 cfg.toList _ hrg Try.underlying28 rfl size28
  rw [rounds_succ]
  go_wp2_with (first | (refine wpList_load_row rfl 28 _ rfl (w.heap.size + 1) rfl 28 cfg (0, 0) _ h6.2.2 Try.underlying28 rfl size28 ?_) | (refine wpList_store_mid rfl 28 _ _ rfl w.heap.size 0 cfg rfl rfl hth size28 (by kernel_rfl) ?_))
  refine bodyPost_ret (v := .agg cfg) ?_ rfl ⟨rfl, hbW⟩
  exact results_cell_mid rfl rfl (by simpa using hl)

end Go.Proofs.Qxb6627778a
