/- SEAT b6627826a, WALKS 3: zzBuild, ZZPath, ZZPointer. -/
import Derived.Test.Qxb6627826aWalks2
namespace Go.Proofs.Qxb6627826a
open Go.ChangeShapes Go.WideShapes Go.ChangeAt Go.RowKit

/-- The names, as they lie behind the slice's address. -/
def NS (w : World) (a0 : Option Addr) (S : List ByteArray) : Prop := ∀ j (hj : j < S.length), ∃ b off, a0 = some ⟨b, off, none⟩ ∧ b < w.heap.size ∧ w.cell? ⟨b, off + j, none⟩ = some (.string S[j])
theorem NS.below {w w' : World} {a0 : Option Addr} {S : List ByteArray} (h : NS w a0 S) (hb : Below w.heap.size w w') : NS w' a0 S := fun j hj => by
  obtain ⟨b, off, h1, h2, h3⟩ := h j hj
  exact ⟨b, off, h1, Nat.lt_of_lt_of_le h2 hb.size, (hb.cell (p := ⟨b, off + j, none⟩) h2).trans h3⟩

theorem Row.below {base : Nat} {w w' : World} {v : Value} {xs : List UInt8} (h : Row base w v xs) (hb : Below w.heap.size w w') : Row base w' v xs := by
  refine ⟨h.1, ?_⟩
  rcases h.2 with e | ⟨g, cap, cur, hv, hbg, hg, hr⟩
  · exact .inl e
  · exact .inr ⟨g, cap, cur, hv, hbg, by rw [hb.block g (Array.getElem?_eq_some_iff.1 hg).1]; exact hg, hr⟩
theorem PB'.below {w w' : World} {b : Nat} {p q : Value} {bp bq : List UInt8} (h : PB' w b p q bp bq) (hb : Below w.heap.size w w') : PB' w' b p q bp bq :=
  ⟨by rw [hb.block b h.lt]; exact h.blk, h.path.below hb, h.ptr.below hb, h.apart⟩
theorem PB.below {w w' : World} {b : Nat} {bp bq : List UInt8} (h : PB w b bp bq) (hb : Below w.heap.size w w') : PB w' b bp bq := by
  obtain ⟨p, q, h⟩ := h
  exact ⟨p, q, h.below hb⟩

theorem stepP_len (p s : List UInt8) : (stepP p s).length ≤ p.length + 1 + s.length := by
  unfold stepP; split
  · omega
  · split
    · omega
    · simp only [List.length_append, List.length_cons, List.length_nil]; omega
theorem stepQ_len (q s : List UInt8) : (stepQ q s).length ≤ q.length + 1 + 2 * s.length := by
  unfold stepQ; split
  · omega
  · simp only [seg, List.length_append, List.length_cons]
    have := flat_len s
    omega

/-- The bytes of the names. -/
def txt (S : List ByteArray) : List (List UInt8) := S.map fun s => s.data.toList
theorem txt_len (S : List ByteArray) : (txt S).length = S.length := by simp [txt]
theorem txt_get (S : List ByteArray) (k : Nat) (hk : k < S.length) : (txt S)[k]'(by rw [txt_len]; exact hk) = S[k].data.toList := by simp [txt]

theorem fold_step {α : Type} (f : α → List UInt8 → α) (z : α) (L : List (List UInt8)) (k : Nat) (hk : k < L.length) : (L.take (k + 1)).foldl f z = f ((L.take k).foldl f z) L[k] := by
  rw [List.take_succ_eq_append_getElem hk, List.foldl_append]
  rfl

theorem drop_get (S : List ByteArray) (lo k : Nat) (h : lo + k < S.length) : ((txt S).drop lo)[k]'(by rw [List.length_drop, txt_len]; omega) = S[lo + k].data.toList := by
  rw [List.getElem_drop]
  exact txt_get S (lo + k) h

/-- The path, the pointer of the k names from lo on. -/
def pU (S : List ByteArray) (lo k : Nat) : List UInt8 := (((txt S).drop lo).take k).foldl stepP []
def qU (S : List ByteArray) (lo k : Nat) : List UInt8 := (((txt S).drop lo).take k).foldl stepQ []
theorem pU_succ (S : List ByteArray) (lo k : Nat) (h : lo + k < S.length) : pU S lo (k + 1) = stepP (pU S lo k) S[lo + k].data.toList := by
  unfold pU; rw [fold_step stepP [] ((txt S).drop lo) k (by rw [List.length_drop, txt_len]; omega), drop_get S lo k h]
theorem qU_succ (S : List ByteArray) (lo k : Nat) (h : lo + k < S.length) : qU S lo (k + 1) = stepQ (qU S lo k) S[lo + k].data.toList := by
  unfold qU; rw [fold_step stepQ [] ((txt S).drop lo) k (by rw [List.length_drop, txt_len]; omega), drop_get S lo k h]

theorem U_len (S : List ByteArray) (lo k : Nat) (h : lo + k ≤ S.length) (hsz : ∀ s ∈ S, s.size ≤ 1048576) : (pU S lo k).length ≤ k * 1048577 ∧ (qU S lo k).length ≤ k * 2097153 := by
  induction k with
  | zero => exact ⟨Nat.zero_le _, Nat.zero_le _⟩
  | succ k ih =>
    have ⟨i1, i2⟩ := ih (by omega)
    have hs1 := hsz _ (List.getElem_mem (show lo + k < S.length by omega))
    have hl : S[lo + k].data.toList.length = S[lo + k].size := by simp
    have g1 := stepP_len (pU S lo k) S[lo + k].data.toList
    have g2 := stepQ_len (qU S lo k) S[lo + k].data.toList
    rw [pU_succ S lo k (by omega), qU_succ S lo k (by omega)]
    omega

theorem path_any (b : Nat) (p : Value) (w : World) (h : w.cell? ⟨b, 0, none⟩ = some p) : Calls Try.prog 7 #[.pointer (some ⟨b, 0, none⟩)] w fun e w' => e = .returned p ∧ w' = w := by
  go_enter Try.func7, Try.ntmps7
  go_wp2
  go_ret
  exact ⟨rfl, rfl⟩
theorem pointer_any (b : Nat) (p : Value) (w : World) (h : w.cell? ⟨b, 1, none⟩ = some p) : Calls Try.prog 8 #[.pointer (some ⟨b, 0, none⟩)] w fun e w' => e = .returned p ∧ w' = w := by
  go_enter Try.func8, Try.ntmps8
  go_wp2
  go_ret
  exact ⟨rfl, rfl⟩

set_option maxHeartbeats 2000000 in
theorem build_any (a0 : Option Addr) (S : List ByteArray) (cap lo hi : Nat) (w : World) (hlo : lo ≤ hi) (hhi : hi ≤ S.length) (hNS : NS w a0 S) (hn : S.length ≤ 65536) (hsz : ∀ s ∈ S, s.size ≤ 1048576) :
    Calls Try.prog 6 #[.slice a0 S.length cap, .int .i64 lo, .int .i64 hi] w fun e w' => ∃ b, e = .returned (.pointer (some ⟨b, 0, none⟩)) ∧ PB w' b (pU S lo (hi - lo)) (qU S lo (hi - lo)) ∧ Below w.heap.size w w' := by
  have hlt0 : (w.alloc (.cells #[.slice none 0 0, .slice none 0 0] 34)).heap.size = w.heap.size + 1 := by simp
  have hPB0 : PB (w.alloc (.cells #[.slice none 0 0, .slice none 0 0] 34)) w.heap.size [] [] :=
    ⟨_, _, Go.heap_alloc_new w _, World.ownsRow_nil _ _ _ _, World.ownsRow_nil _ _ _ _, fun k hk => by cases hk⟩
  go_enter Try.func6, Try.ntmps6
  go_wp2_with fail
  go_loopw [8] (fun i wr => ∃ k : Nat, k ≤ hi - lo ∧ i = .int .i64 (lo + k : Nat) ∧ Below w.heap.size w wr ∧ PB wr w.heap.size (pU S lo k) (qU S lo k)) (fun i _ => hi - (intOf i).toNat)
  case atStart => exact ⟨0, by omega, rfl, (Below.refl _ _).alloc (Nat.le_refl _) _, hPB0⟩
  case round =>
    obtain ⟨k, hk, rfl, hB, hPB⟩ := hrel
    clear hPB0 hlt0
    by_cases hlt : k < hi - lo
    · have hlt' : ((lo + k : Nat) : Int) < (hi : Int) := by omega
      have hltS : lo + k < S.length := by omega
      have hltS' : ((lo + k : Nat) : Int) < (S.length : Int) := by omega
      obtain ⟨b, off, rfl, hbl, hc⟩ := (hNS.below hB) (lo + k) hltS
      have hs1 := hsz _ (List.getElem_mem hltS)
      have ⟨l1, l2⟩ := U_len S lo k (by omega) hsz
      have HN := name_any w.heap.size _ _ S[lo + k] wr hPB (by unfold maxB; omega) (by unfold maxB; omega)
      rw [← pU_succ S lo k hltS, ← qU_succ S lo k hltS] at HN
      generalize S[lo + k] = sk at *
      go_wp2_with fail
      refine HN.mono ?_
      rintro e w1 ⟨rfl, hPB1, hB1⟩
      go_wp2_with fail
      go_roundw
      case rel => exact ⟨k + 1, by omega, by go_num, hB.trans hB1, hPB1⟩
      case measure => simp [intOf]; omega
    · have hke : k = hi - lo := by omega
      subst hke
      go_wp2
      go_ret
      exact ⟨_, rfl, hPB, hB⟩

end Go.Proofs.Qxb6627826a
