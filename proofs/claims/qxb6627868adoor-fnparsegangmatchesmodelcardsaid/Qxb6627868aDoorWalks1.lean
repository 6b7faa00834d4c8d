/- SEAT b6627868aD, WALKS 1: Atoi in one contract; (Gang).count. -/
import Derived.Test.Qxb6627868aDoorShelf
import Derived.WalkKit
import Derived.ProofKit
import Derived.OpenShut
import Derived.WalkSpells
import Derived.WalkLawsBesides
import Derived.Deep.MidRow
import Derived.Deep.QuietTactic
import Derived.BigQuiet
import Derived.Laws.StructEq
import Derived.Deep.DeepCutAuto
import Derived.Deep.CutBlock
import Derived.Lib.AtoiAllCases
namespace Go.Proofs.Qxb6627868aDoor
open Go.ChangeShapes Go.WideShapes Go.ChangeAt Go.RowKit

/-- The library's two errors lie in their variables. -/
def EV (w : World) : Prop := (∃ t p, w.var? Tryd.prog "strconv.ErrSyntax" = some #[.iface t p]) ∧ (∃ t p, w.var? Tryd.prog "strconv.ErrRange" = some #[.iface t p])
theorem var_below {w w' : World} {nm : String} {x : Array Value} (h : w.var? Tryd.prog nm = some x) (hb : Below w.heap.size w w') : w'.var? Tryd.prog nm = some x := by
  unfold World.var? at h ⊢
  cases hg : Tryd.prog.globalNamed nm with
  | none => rw [hg] at h; cases h
  | some g =>
    rw [hg] at h
    simp only [Option.bind_some] at h ⊢
    by_cases hlt : g < w.heap.size
    · rw [hb.block g hlt]; exact h
    · rw [Array.getElem?_eq_none (by omega)] at h; cases h
theorem EV.below {w w' : World} (h : EV w) (hb : Below w.heap.size w w') : EV w' := by
  obtain ⟨⟨t, p, h0⟩, ⟨t1, p1, h1⟩⟩ := h
  exact ⟨⟨t, p, var_below h0 hb⟩, ⟨t1, p1, var_below h1 hb⟩⟩

theorem same_heap {B : Nat} {w a b : World} (h : Below B w a) (h1 : b.heap = a.heap) (h2 : b.os = a.os) (h3 : b.tape = a.tape) (h4 : b.output = a.output) : Below B w b :=
  ⟨h2.trans h.os, h3.trans h.tape, h4.trans h.output, by rw [h1]; exact h.size, fun k hk => by rw [h1]; exact h.block k hk⟩

/-- What Atoi makes of a text. -/
def AtoiEnds (l : List UInt8) (n : Int) (err : Value) : Prop := (Lib.atoiAll l = .ok n ∧ err = .nilIface) ∨ ((∀ v, Lib.atoiAll l ≠ .ok v) ∧ ∃ N, err = .iface 54 (.pointer (some ⟨N, 0, none⟩)))

theorem atoi_any (s : ByteArray) (w : World) (hE : EV w) (hs : s.size ≤ 281474976710656) :
    Calls Tryd.prog 13 #[.string s] w fun e w' => ∃ n err, e = .returned (.tuple #[.int .i64 n, err]) ∧ AtoiEnds s.data.toList n err ∧ Below w.heap.size w w' := by
  obtain ⟨⟨t, p, h0⟩, ⟨t1, p1, h1⟩⟩ := hE
  rcases h : Lib.atoiAll s.data.toList with v | _ | _
  · refine (Tryd.strconv_Atoi_ok s (by omega) v h w).mono ?_
    rintro e w' ⟨rfl, hw⟩
    refine ⟨v, .nilIface, rfl, .inl ⟨h, rfl⟩, ?_⟩
    rcases hw with rfl | ⟨t, rfl⟩
    · exact Below.refl _ _
    · exact Lib.bytesWorld_below _ _ _
  · refine (Tryd.strconv_Atoi_bad s hs (fun v hv => by rw [h] at hv; cases hv) (fun hv => by rw [h] at hv; cases hv) t p w h0).mono ?_
    rintro e w' ⟨N, rfl, _, _, hb⟩
    exact ⟨0, _, rfl, .inr ⟨fun v hv => (by rw [h] at hv; cases hv), N, rfl⟩, hb⟩
  · refine (Tryd.strconv_Atoi_range s hs h t1 p1 w h1).mono ?_
    rintro e w' ⟨N, rfl, _, _, hb⟩
    exact ⟨_, _, rfl, .inr ⟨fun v hv => (by rw [h] at hv; cases hv), N, rfl⟩, hb⟩

/-- A count's text: no whole count (none), zero (some none), or a count. -/
abbrev CK := Option (Option Int)
def ck (l : List UInt8) : CK := match Lib.atoiAll l with
  | .ok v => if v < 0 then none else if v = 0 then some none else some (some v)
  | _ => none

/-- A fault as it lies: problem, setting, value, gang. -/
def fcells (pb st : Int) (s id : ByteArray) (c m : Int) (lab : ByteArray) : Array Value := #[.int .i64 pb, .int .i64 st, .string s, .string id, .int .i64 c, .int .i64 m, .string lab]

/-- What count answers. -/
def CountEnds (k : CK) (st : Int) (s id : ByteArray) (c m : Int) (lab : ByteArray) (e : Ending) (w' : World) : Prop := match k with
  | some (some n) => e = .returned (.tuple #[.int .i64 n, .pointer none])
  | some none => ∃ N, e = .returned (.tuple #[.int .i64 0, .pointer (some ⟨N, 0, none⟩)]) ∧ w'.heap[N]? = some (.cells (fcells 3 st s id c m lab) 33 (0, 0))
  | none => ∃ N, e = .returned (.tuple #[.int .i64 0, .pointer (some ⟨N, 0, none⟩)]) ∧ w'.heap[N]? = some (.cells (fcells 2 st s id c m lab) 33 (0, 0))

set_option maxHeartbeats 2000000 in
theorem count_any (id lab : ByteArray) (c m st : Int) (s : ByteArray) (w : World) (hE : EV w) (hs : s.size ≤ 281474976710656) :
    Calls Tryd.prog 10 #[.agg #[.string id, .int .i64 c, .int .i64 m, .string lab], .int .i64 st, .string s] w fun e w' => CountEnds (ck s.data.toList) st s id c m lab e w' ∧ Below w.heap.size w w' := by
  go_enter Tryd.func10, Tryd.ntmps10
  go_wp2_with fail
  refine (atoi_any s _ (hE.below ((Below.refl _ _).alloc (Nat.le_refl _) _)) hs).mono ?_
  rintro e w1 ⟨n, err, rfl, hends, hb1⟩
  have hblk : w1.heap[w.heap.size]? = some (.cells #[.string id, .int .i64 c, .int .i64 m, .string lab] 24 (0, 0)) := by
    rw [hb1.block w.heap.size (by simp)]
    exact Go.heap_alloc_new w _
  have hb0 : Below w.heap.size w w1 := ((Below.refl _ _).alloc (Nat.le_refl _) _).trans (hb1.mono (by simp))
  have hlt : w.heap.size < w1.heap.size := (Array.getElem?_eq_some_iff.1 hblk).1
  clear hb1
  have k0 : w1.cell? ⟨w.heap.size, 0, none⟩ = some (.string id) := by rw [cell_of_row w1 w.heap.size _ _ 24 (0, 0) hblk]; rfl
  have k1 : w1.cell? ⟨w.heap.size, 1, none⟩ = some (.int .i64 c) := by rw [cell_of_row w1 w.heap.size _ _ 24 (0, 0) hblk]; rfl
  have k2 : w1.cell? ⟨w.heap.size, 2, none⟩ = some (.int .i64 m) := by rw [cell_of_row w1 w.heap.size _ _ 24 (0, 0) hblk]; rfl
  have k3 : w1.cell? ⟨w.heap.size, 3, none⟩ = some (.string lab) := by rw [cell_of_row w1 w.heap.size _ _ 24 (0, 0) hblk]; rfl
  clear hblk
  unfold AtoiEnds at hends
  have hsz : w.heap.size ≤ w1.heap.size := Nat.le_of_lt hlt
  rcases hends with ⟨ha, rfl⟩ | ⟨ha, N, rfl⟩
  · by_cases hn : n < 0
    · have hck : ck s.data.toList = none := by unfold ck; rw [ha]; simp only [if_pos hn]
      have HCK : Hid _ := hck
      clear hck ha
      go_wp2_with fail
      go_region
      go_wp2
      go_ret2
      refine ⟨?_, same_heap (hb0.alloc hb0.size _) rfl rfl rfl rfl⟩
      unfold CountEnds
      rw [HCK.out]
      exact ⟨_, rfl, Go.heap_alloc_new w1 _⟩
    · by_cases h0 : n = 0
      · have hck : ck s.data.toList = some none := by unfold ck; rw [ha]; simp only [if_neg hn, if_pos h0]
        have HCK : Hid _ := hck
        subst h0
        clear hck ha hn
        go_wp2_with fail
        go_region
        go_wp2
        go_ret2
        refine ⟨?_, same_heap (hb0.alloc hb0.size _) rfl rfl rfl rfl⟩
        unfold CountEnds
        rw [HCK.out]
        exact ⟨_, rfl, Go.heap_alloc_new w1 _⟩
      · have hck : ck s.data.toList = some (some n) := by unfold ck; rw [ha]; simp only [if_neg hn, if_neg h0]
        have HCK : Hid _ := hck
        have h0' : (n == 0) = false := by simp [h0]
        clear hck ha
        go_wp2
        go_ret2
        refine ⟨?_, hb0⟩
        unfold CountEnds
        rw [HCK.out]
        rfl
  · have hck : ck s.data.toList = none := by
      unfold ck
      rcases h : Lib.atoiAll s.data.toList with v | _ | _
      · exact absurd h (ha v)
      · rfl
      · rfl
    have HCK : Hid _ := hck
    clear hck ha
    go_wp2_with fail
    go_region
    go_wp2
    go_ret2
    refine ⟨?_, same_heap (hb0.alloc hb0.size _) rfl rfl rfl rfl⟩
    unfold CountEnds
    rw [HCK.out]
    exact ⟨_, rfl, Go.heap_alloc_new w1 _⟩

end Go.Proofs.Qxb6627868aDoor
