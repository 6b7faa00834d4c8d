/- SEAT b6627826a, WALKS 7: zzDecodeToken. -/
import Derived.Test.Qxb6627826aPlain
namespace Go.Proofs.Qxb6627826a
open Go.ChangeShapes Go.WideShapes Go.ChangeAt Go.RowKit

theorem grew_below {B : Nat} {W wx w' : World} {v v' : Value} {xs : List UInt8} (h : Below B W wx) (hr : Row B wx v xs) (g : Grew wx w' v v') (hB : B ≤ wx.heap.size) : Below B W w' :=
  h.grown g.1 hB (fun k hk => (World.ownsRow.lt hr k hk).1)

/-- Where the token's byte k begins. -/
def idx (pre s : List UInt8) (k : Nat) : Nat := pre.length + 1 + ((s.take k).flatMap esc).length
theorem idx_step (pre s : List UInt8) (k : Nat) (hk : k < s.length) : idx pre s (k + 1) = idx pre s k + (esc s[k]).length := by
  unfold idx; rw [take_esc s k hk, List.length_append]; omega
theorem idx_end (pre s : List UInt8) : idx pre s s.length = (pre ++ seg s).length := by
  unfold idx seg; rw [List.take_length, List.length_append, List.length_cons]; omega
theorem xs_at (pre s post : List UInt8) (k : Nat) (hk : k < s.length) : pre ++ seg s ++ post = (pre ++ 47 :: (s.take k).flatMap esc) ++ (esc s[k] ++ ((s.drop (k + 1)).flatMap esc ++ post)) := by
  have h : s = s.take k ++ s[k] :: s.drop (k + 1) := by rw [← List.drop_eq_getElem_cons hk, List.take_append_drop]
  have h2 : s.flatMap esc = (s.take k).flatMap esc ++ (esc s[k] ++ (s.drop (k + 1)).flatMap esc) := by
    conv => lhs; rw [h]
    rw [List.flatMap_append, List.flatMap_cons]
  unfold seg
  rw [h2]
  simp only [List.append_assoc, List.cons_append]
theorem idx_len (pre s : List UInt8) (k : Nat) : (pre ++ 47 :: (s.take k).flatMap esc).length = idx pre s k := by
  unfold idx; rw [List.length_append, List.length_cons]; omega

theorem flat_ge (s : List UInt8) : s.length ≤ (s.flatMap esc).length := by
  induction s with
  | nil => simp
  | cons c s ih =>
    simp only [List.flatMap_cons, List.length_append, List.length_cons]
    have : 1 ≤ (esc c).length := by
      unfold esc; split
      · simp
      · split <;> simp
    omega

set_option maxHeartbeats 4000000 in
theorem decode_any (base : Nat) (v : Value) (pre s post : List UInt8) (w : World) (hR : Row base w v (pre ++ seg s ++ post)) (hpost : post = [] ∨ ∃ t, post = 47 :: t) (hb : (pre ++ seg s ++ post).length ≤ maxB) :
    Calls Try.prog 10 #[v, .int .i64 pre.length] w fun e w' => ∃ tok, e = .returned (.tuple #[tok, .int .i64 (pre ++ seg s).length, .bool true]) ∧ Row w.heap.size w' tok s ∧ Below w.heap.size w w' := by
  obtain ⟨a, cap, rfl, hat⟩ := hR.at
  have hl0 : pre.length < (pre ++ seg s ++ post).length := by simp only [seg, List.length_append, List.length_cons]; omega
  obtain ⟨g, rfl, hg, hx0⟩ := hat _ hl0
  clear hx0
  have hc : ∀ A c B, pre ++ seg s ++ post = A ++ c :: B → A.length < (pre ++ seg s ++ post).length ∧ w.cell? ⟨g, A.length, none⟩ = some (.int .u8 (UInt8.toNat c)) := fun A c B h => by
    have hl : A.length < (pre ++ seg s ++ post).length := by rw [h, List.length_append, List.length_cons]; omega
    obtain ⟨g', he, _, hc⟩ := hat _ hl
    cases he
    refine ⟨hl, ?_⟩
    rw [hc]
    simp only [h, List.getElem_append_right (Nat.le_refl _), Nat.sub_self, List.getElem_cons_zero]
  have hsl : (pre ++ seg s ++ post).length < 4611686018427387904 := by unfold maxB at hb; omega
  have f0 := hc pre 47 (s.flatMap esc ++ post) (by simp [seg])
  -- the byte(s) at k
  have f1 : ∀ k (hk : k < s.length), esc s[k] = [126, 48] → idx pre s k + 1 < (pre ++ seg s ++ post).length ∧ w.cell? ⟨g, idx pre s k, none⟩ = some (.int .u8 126) ∧ w.cell? ⟨g, idx pre s k + 1, none⟩ = some (.int .u8 48) := fun k hk he => by
    have hx := xs_at pre s post k hk
    rw [he] at hx
    have h1 := hc (pre ++ 47 :: (s.take k).flatMap esc) 126 (48 :: ((s.drop (k + 1)).flatMap esc ++ post)) hx
    have h2 := hc (pre ++ 47 :: (s.take k).flatMap esc ++ [126]) 48 ((s.drop (k + 1)).flatMap esc ++ post) (by rw [hx]; simp)
    have hl2 : (pre ++ 47 :: (s.take k).flatMap esc ++ [126]).length = idx pre s k + 1 := by rw [List.length_append, idx_len]; rfl
    rw [idx_len] at h1
    rw [hl2] at h2
    exact ⟨h2.1, h1.2, h2.2⟩
  have f2 : ∀ k (hk : k < s.length), esc s[k] = [126, 49] → idx pre s k + 1 < (pre ++ seg s ++ post).length ∧ w.cell? ⟨g, idx pre s k, none⟩ = some (.int .u8 126) ∧ w.cell? ⟨g, idx pre s k + 1, none⟩ = some (.int .u8 49) := fun k hk he => by
    have hx := xs_at pre s post k hk
    rw [he] at hx
    have h1 := hc (pre ++ 47 :: (s.take k).flatMap esc) 126 (49 :: ((s.drop (k + 1)).flatMap esc ++ post)) hx
    have h2 := hc (pre ++ 47 :: (s.take k).flatMap esc ++ [126]) 49 ((s.drop (k + 1)).flatMap esc ++ post) (by rw [hx]; simp)
    have hl2 : (pre ++ 47 :: (s.take k).flatMap esc ++ [126]).length = idx pre s k + 1 := by rw [List.length_append, idx_len]; rfl
    rw [idx_len] at h1
    rw [hl2] at h2
    exact ⟨h2.1, h1.2, h2.2⟩
  have f3 : ∀ k (hk : k < s.length), esc s[k] = [s[k]] → idx pre s k < (pre ++ seg s ++ post).length ∧ w.cell? ⟨g, idx pre s k, none⟩ = some (.int .u8 s[k].toNat) := fun k hk he => by
    have hx := xs_at pre s post k hk
    rw [he] at hx
    have h1 := hc (pre ++ 47 :: (s.take k).flatMap esc) s[k] ((s.drop (k + 1)).flatMap esc ++ post) hx
    simp only [idx_len] at h1
    exact h1
  have f4 : idx pre s s.length = (pre ++ seg s ++ post).length ∨ (idx pre s s.length < (pre ++ seg s ++ post).length ∧ w.cell? ⟨g, idx pre s s.length, none⟩ = some (.int .u8 47)) := by
    rw [idx_end]
    rcases hpost with rfl | ⟨t, rfl⟩
    · left; rw [List.append_nil]
    · right; exact hc (pre ++ seg s) 47 t rfl
  have hsx : s.length < (pre ++ seg s ++ post).length := by
    have := flat_ge s
    simp only [seg, List.length_append, List.length_cons]; omega
  have f5 := idx_step pre s
  have hie := idx_end pre s
  have hi0 : idx pre s 0 = pre.length + 1 := rfl
  rw [← hie]
  generalize pre ++ seg s ++ post = xs at *
  clear hc hat hR hpost hie
  have F1 : Hid _ := f1
  have F2 : Hid _ := f2
  have F3 : Hid _ := f3
  have F4 : Hid _ := f4
  have F5 : Hid _ := f5
  clear f1 f2 f3 f4 f5
  generalize hI : idx pre s = I at *
  clear hI
  obtain ⟨hp0, hp1'⟩ := f0
  have hp1 : w.cell? ⟨g, pre.length, none⟩ = some (.int .u8 47) := hp1'
  clear hp1'
  generalize pre.length = n0 at *
  have hn0 : ¬ (xs.length : Int) ≤ (n0 : Int) := by omega
  go_enter Try.func10, Try.ntmps10
  go_wp2_with fail
  go_loopw [7, 8] (fun i t wr => ∃ (k : Nat) (t' : Value), t' = t ∧ k ≤ s.length ∧ i = .int .i64 (I k) ∧ Row w.heap.size wr t (s.take k) ∧ Below w.heap.size w wr) (fun i _ _ => xs.length - (intOf i).toNat)
  case atStart => exact ⟨0, _, rfl, by omega, by rw [hi0]; go_num, World.ownsRow_nil _ _ _ _, Below.refl _ _⟩
  case round =>
    obtain ⟨k, t, rfl, hk, rfl, hT, hB⟩ := hrel
    have hgr : g < wr.heap.size := Nat.lt_of_lt_of_le hg hB.size
    by_cases hlt : k < s.length
    · have htk : s.take (k + 1) = s.take k ++ [s[k]] := List.take_succ_eq_append_getElem hlt
      have hst := F5.out k hlt
      have htl : (s.take k).length + 1 ≤ maxB := by rw [List.length_take]; omega
      by_cases h1 : s[k] = 126
      · have he : esc s[k] = [126, 48] := by rw [h1]; rfl
        obtain ⟨l1, c1, c2⟩ := F1.out k hlt he
        rw [← hB.cell (p := ⟨g, I k, none⟩) hg] at c1
        rw [← hB.cell (p := ⟨g, I k + 1, none⟩) hg] at c2
        rw [he] at hst
        rw [h1] at htk
        simp only [List.length_cons, List.length_nil] at hst
        have l2 : ((I k : Nat) : Int) < (xs.length : Int) := by omega
        have l3 : ¬ (xs.length : Int) ≤ (I k : Int) + 1 := by omega
        have l4 : (I k : Int) + 1 < (xs.length : Int) := by omega
        clear h1 he
        go_wp2_with (at_builtin; refine append_one rfl _ _ rfl w.heap.size _ _ rfl hT 126 _ rfl _ rfl rfl htl hB.size ?_)
        intro v2 w2 r2 g2
        have b2 := grew_below hB hT g2 hB.size
        try go_frame
        go_wp2_with fail
        go_roundw
        case rel => exact ⟨k + 1, _, rfl, by omega, by rw [hst]; go_num, by rw [htk]; exact r2, b2⟩
        case measure => simp [intOf]; omega
      · by_cases h2 : s[k] = 47
        · have he : esc s[k] = [126, 49] := by rw [h2]; rfl
          obtain ⟨l1, c1, c2⟩ := F2.out k hlt he
          rw [← hB.cell (p := ⟨g, I k, none⟩) hg] at c1
          rw [← hB.cell (p := ⟨g, I k + 1, none⟩) hg] at c2
          rw [he] at hst
          rw [h2] at htk
          simp only [List.length_cons, List.length_nil] at hst
          have l2 : ((I k : Nat) : Int) < (xs.length : Int) := by omega
          have l3 : ¬ (xs.length : Int) ≤ (I k : Int) + 1 := by omega
          have l4 : (I k : Int) + 1 < (xs.length : Int) := by omega
          clear h1 h2 he
          go_wp2_with (at_builtin; refine append_one rfl _ _ rfl w.heap.size _ _ rfl hT 47 _ rfl _ rfl rfl htl hB.size ?_)
          intro v2 w2 r2 g2
          have b2 := grew_below hB hT g2 hB.size
          try go_frame
          go_wp2_with fail
          go_roundw
          case rel => exact ⟨k + 1, _, rfl, by omega, by rw [hst]; go_num, by rw [htk]; exact r2, b2⟩
          case measure => simp [intOf]; omega
        · have he : esc s[k] = [s[k]] := by rw [esc, if_neg h1, if_neg h2]
          obtain ⟨l1, c1⟩ := F3.out k hlt he
          rw [← hB.cell (p := ⟨g, I k, none⟩) hg] at c1
          rw [he] at hst
          simp only [List.length_cons, List.length_nil] at hst
          have l2 : ((I k : Nat) : Int) < (xs.length : Int) := by omega
          have hk8 := u8_eq s[k]
          have e1 : ((s[k].toNat : Int) == 126) = false := by rw [show (126 : Int) = ((126 : Nat) : Int) from rfl, hk8 126 (by decide)]; simpa using h1
          have e2 : ((s[k].toNat : Int) == 47) = false := by rw [show (47 : Int) = ((47 : Nat) : Int) from rfl, hk8 47 (by decide)]; simpa using h2
          have e3 : ((s[k].toNat : Int) != 47) = true := by rw [bne, e2]; rfl
          clear h1 h2 he hk8
          generalize s[k] = c at *
          go_wp2_with (at_builtin; refine append_one rfl _ _ rfl w.heap.size _ _ rfl hT c _ rfl _ rfl rfl htl hB.size ?_)
          intro v2 w2 r2 g2
          have b2 := grew_below hB hT g2 hB.size
          try go_frame
          go_wp2_with fail
          go_roundw
          case rel => exact ⟨k + 1, _, rfl, by omega, by rw [hst]; go_num, by rw [htk]; exact r2, b2⟩
          case measure => simp [intOf]; omega
    · have hke : k = s.length := by omega
      subst hke
      rw [List.take_length] at hT
      rcases F4.out with h4 | ⟨h4, h5⟩
      · have l2 : ¬ ((I s.length : Nat) : Int) < (xs.length : Int) := by omega
        clear h4
        go_wp2
        go_ret3
        exact ⟨_, rfl, hT, hB⟩
      · have l2 : ((I s.length : Nat) : Int) < (xs.length : Int) := by omega
        rw [← hB.cell (p := ⟨g, I s.length, none⟩) hg] at h5
        go_wp2
        go_ret3
        exact ⟨_, rfl, hT, hB⟩

end Go.Proofs.Qxb6627826a
