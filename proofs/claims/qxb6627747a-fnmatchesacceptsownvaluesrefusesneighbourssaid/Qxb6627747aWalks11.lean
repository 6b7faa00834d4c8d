/- WALKS OF SEAT b6627747a, 11: the law FnMatchesAcceptsOwnValuesRefusesNeighbours. -/
import Derived.Test.Qxb6627747aWalks10
namespace Go.Proofs.Qxb6627747a
open Go.ChangeShapes Go.WideShapes Go.ChangeAt Go.RowKit
open Go.Maps (Keyed)

/-- What the law knows of its world from the report body on. -/
def Mid4 (w wr : World) (m rt : List Int) (pb : Nat) : Prop := Mid6 w wr m rt ∧ ∀ r, r < 5 → wr.rangeAt pb (regOff r) (bs (regOf m rt r))

theorem Mid4.below {w wr w' : World} {m rt : List Int} {pb : Nat} (h : Mid4 w wr m rt pb) (hm : m.length = 48) (hrt : rt.length = 192) (hb : Below wr.heap.size wr w') : Mid4 w w' m rt pb :=
  ⟨h.1.below hm hrt hb, fun r hr => rangeAt_below (h.2 r hr) hb (rangeAt_lt (h.2 r hr) (by rw [bs_length, regOf_length m rt r hm hrt hr]; omega))⟩

theorem Mid4.grown {w wr w' : World} {m rt : List Int} {pb bm : Nat} (h : Mid4 w wr m rt pb) (hg : wr.grownBy w' (some bm)) (hmap : ∃ es c, wr.heap[bm]? = some (.map es c)) (hbm : w.heap.size ≤ bm) : Mid4 w w' m rt pb :=
  ⟨⟨below_grown h.1.1 hg h.1.1.size hbm, rangeAt_grown h.1.2.1 hg hmap, rangeAt_grown h.1.2.2 hg hmap⟩, fun r hr => rangeAt_grown (h.2 r hr) hg hmap⟩

theorem Mid4.body {w wr : World} {m rt : List Int} (h : Mid6 w wr m rt) (cs : Array Value) (h1 : ∀ j v, (bs m)[j]? = some v → cs[136 + j]? = some v) (h2 : ∀ j v, (bs rt)[j]? = some v → cs[328 + j]? = some v) (hm : m.length = 48) (hrt : rt.length = 192) :
    Mid4 w (wr.alloc (.cells cs 35)) m rt wr.heap.size :=
  ⟨h.below hm hrt ((Below.refl _ _).alloc (Nat.le_refl _) _), fun r _ => regs_of_body (heap_alloc_new wr (.cells cs 35)) m rt h1 h2 r⟩

/-- An entry boxed: '&tdx.Measurement{..}' ; its cells. -/
theorem entry_cells (wr : World) (a b : ByteArray) (bm : Nat) : (wr.alloc (.cells #[.string a, .string b, .map (some bm)] 29)).cell? ⟨wr.heap.size, 1, none⟩ = some (.string b) ∧ (wr.alloc (.cells #[.string a, .string b, .map (some bm)] 29)).cell? ⟨wr.heap.size, 2, none⟩ = some (.map (some bm)) := by
  rw [World.cell?_alloc_at _ _ _ _ rfl, World.cell?_alloc_at _ _ _ _ rfl]
  exact ⟨rfl, rfl⟩

/-- matches, called through ZZMatches, at a map that was built. -/
theorem zz_built {w wr : World} {m rt : List Int} {pb pm bm n : Nat} {D : DataW Value} {V : Int → List (List Int)} {et at_ : ByteArray} (res : Bool) (h4 : Mid4 w wr m rt pb) (hm : m.length = 48) (hrt : rt.length = 192)
    (hown : wr.ownsMap Try.prog 3 tok bm n D) (hV : ∀ k v, D.atKey (.int .i64 k) .nil = .held v → SliceAt wr v (V k)) (hc1 : wr.cell? ⟨pm, 1, none⟩ = some (.string et)) (hc2 : wr.cell? ⟨pm, 2, none⟩ = some (.map (some bm)))
    (hres : res = true ↔ (et.toList == at_.toList) = true ∧ ∀ k : Int, Maps.has D (.int .i64 k) = true → 0 ≤ k ∧ k < 5 ∧ (V k).contains (regOf m rt k.toNat) = true) :
    Calls Try.prog 5 #[.pointer (some ⟨pm, 0, none⟩), .string at_, .pointer (some ⟨pb, 0, none⟩)] wr fun e w' => e = .returned (.bool res) ∧ Below wr.heap.size wr w' :=
  zzmatches pm pb at_ res wr (matches_map pm pb bm n et at_ D V m rt res wr hc1 hc2 hown hV hm hrt h4.2 hres)

theorem mid6_start (w : World) (m rt : List Int) : Mid6 w ((w.alloc (.cells (bs m).toArray 23)).alloc (.cells (bs rt).toArray 24)) m rt := by
  refine ⟨((Below.refl _ _).alloc (Nat.le_refl _) _).alloc (by rw [size_alloc]; omega) _, World.rangeAt_alloc (rangeAt_new w (bs m) 23) _, ?_⟩
  have h := rangeAt_new (w.alloc (.cells (bs m).toArray 23)) (bs rt) 24
  rwa [size_alloc] at h

theorem below_two (w : World) (a b : Obj) : Below w.heap.size w ((w.alloc a).alloc b) := ((Below.refl _ _).alloc (Nat.le_refl _) _).alloc (by rw [size_alloc]; omega) _

set_option maxRecDepth 100000 in
set_option maxHeartbeats 4000000 in
theorem law4_early (at_ ot : ByteArray) (m rt : List Int) (a : Option Addr) (n cap : Nat) (pos mask out : Int) (w : World) (ha : at_.size ≤ maxLen) (ho : ot.size ≤ maxLen) (hn : n ≤ maxLen) (hm : m.length = 48) (hrt : rt.length = 192)
    (hearly : 1048576 < (at_.size : Int) ∨ 1048576 < (ot.size : Int) ∨ 4096 < (n : Int) ∨ 1048576 < (at_.size : Int) + ot.size + 48 * n ∨ pos < 0 ∨ (n : Int) < pos ∨ (0 ≤ out ∧ out < 5)) :
    Calls Try.prog 4 #[.string at_, .string ot, .agg (bs m).toArray, .agg (bs rt).toArray, .slice a n cap, .int .i64 pos, .int .u8 mask, .int .i64 out] w fun e w' => e = .returned (.bool true) ∧ Below w.heap.size w w' := by
  have hmid0 := mid6_start w m rt
  have HA : Hid _ := ha
  have HO : Hid _ := ho
  have HN : Hid _ := hn
  unfold maxLen at ha ho hn
  go_enter Try.func4, Try.ntmps4
  go_wp2_with (first | (refine wpList_load_mid rfl 23 _ rfl w.heap.size 0 rfl (bs m) _ hmid0.2.1 Try.underlying23 rfl (info23l _ hm) ?_) | (refine wpList_load_mid rfl 24 _ rfl (w.heap.size + 1) 0 rfl (bs rt) _ hmid0.2.2 Try.underlying24 rfl (info24l _ hrt) ?_))
  refine (bytes_any at_ ot m rt a n cap pos mask out _ HA.out HO.out HN.out).mono ?_
  rintro e w1 ⟨⟨b, rfl⟩, hw1⟩
  have hmid1 : Mid6 w w1 m rt := by rw [hw1]; exact hmid0.below hm hrt (below_two _ _ _)
  clear hw1 hmid0 HA HO HN
  cases b
  · go_wp2
    go_ret
    exact ⟨rfl, hmid1.1⟩
  · by_cases c1 : 1048576 < (at_.size : Int)
    · go_wp2
      go_ret
      exact ⟨rfl, hmid1.1⟩
    by_cases c2 : 1048576 < (ot.size : Int)
    · go_wp2
      go_ret
      exact ⟨rfl, hmid1.1⟩
    by_cases c3 : 4096 < (n : Int)
    · go_wp2
      go_ret
      exact ⟨rfl, hmid1.1⟩
    by_cases c4 : 1048576 < (at_.size : Int) + ot.size + 48 * n
    · go_wp2
      go_ret
      exact ⟨rfl, hmid1.1⟩
    by_cases c5 : pos < 0
    · go_wp2
      go_ret
      exact ⟨rfl, hmid1.1⟩
    by_cases c6 : (n : Int) < pos
    · go_wp2
      go_ret
      exact ⟨rfl, hmid1.1⟩
    have c7 : 0 ≤ out := by omega
    have c8 : out < 5 := by omega
    go_wp2
    go_ret
    exact ⟨rfl, hmid1.1⟩

end Go.Proofs.Qxb6627747a
