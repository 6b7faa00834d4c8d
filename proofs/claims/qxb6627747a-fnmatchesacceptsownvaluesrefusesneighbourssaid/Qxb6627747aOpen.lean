/- SEAT b6627747a: the arguments opened; the plain law on the map's keys. -/
import Derived.Test.Qxb6627747aWalks7
import Derived.Deep.Slices
import Derived.ChangeOld
namespace Go.Proofs.Qxb6627747a
open Go.ChangeShapes Go.WideShapes Go.ChangeAt Go.RowKit
open Go.Maps (Keyed)
open Go.WideElems (Fit rd rg pl rd_key rd_val rg_of elemAt)

theorem cells5 : Try.prog.cellsOf 5 = 1 := by kernel_rfl
theorem cells23 : Try.prog.cellsOf 23 = 48 := by kernel_rfl
theorem cells24 : Try.prog.cellsOf 24 = 192 := by kernel_rfl

/-! ### cells that are bytes -/
theorem bs_of_bytes : ∀ (cs : List Value), (∀ v ∈ cs, ∃ n, v = .int .u8 n) → ∃ x, cs = bs x ∧ x.length = cs.length
  | [], _ => ⟨[], rfl, rfl⟩
  | v :: cs, h => by
    obtain ⟨n, rfl⟩ := h v (by simp)
    obtain ⟨x, rfl, hl⟩ := bs_of_bytes cs (fun v hv => h v (by simp [hv]))
    exact ⟨n :: x, rfl, by simpa using hl⟩

section
variable {H : Type} {enc : TypeId × Value → H} {w : World} {base : Nat} {spare : Nat → Bool} {held : Bool} {fuel : Nat} {cs : List Value} {x : DataW H × List MemPlace}

theorem bytes_of_23 (h : DataW.trod enc Try.prog w base spare held fuel 23 cs = some x) : cs.length = 48 ∧ ∀ v ∈ cs, ∃ n, v = .int .u8 n := by
  obtain ⟨xs, m, _, _, hl, hxl, hx⟩ := DataW.trod_array Try.underlying23 h
  rw [cells23] at hl
  refine ⟨hl, fun v hv => ?_⟩
  obtain ⟨i, hi, rfl⟩ := List.mem_iff_getElem.1 hv
  have h1 := hx i (by omega)
  rw [cells5, Nat.mul_one] at h1
  have e1 : (cs.drop i).take 1 = [cs[i]] := by
    rw [List.drop_eq_getElem_cons hi]; rfl
  rw [e1, List.getElem?_eq_getElem (by omega)] at h1
  obtain ⟨a, e0, _⟩ := DataW.trod_int Try.underlying5 h1
  exact ⟨a, by simpa using e0⟩

theorem bytes_of_24 (h : DataW.trod enc Try.prog w base spare held fuel 24 cs = some x) : cs.length = 192 ∧ ∀ v ∈ cs, ∃ n, v = .int .u8 n := by
  obtain ⟨xs, m, _, _, hl, hxl, hx⟩ := DataW.trod_array Try.underlying24 h
  rw [cells24] at hl
  refine ⟨hl, fun v hv => ?_⟩
  obtain ⟨i, hi, rfl⟩ := List.mem_iff_getElem.1 hv
  have h1 := hx (i / 48) (by omega)
  rw [cells23, List.getElem?_eq_getElem (by omega)] at h1
  refine (bytes_of_23 h1).2 _ (List.mem_iff_getElem?.2 ⟨i % 48, ?_⟩)
  rw [List.getElem?_take_of_lt (by omega), List.getElem?_drop, ← List.getElem?_eq_getElem hi]
  congr 1
  omega

theorem open23 {v : Value} {d : DataW H} {ps : List MemPlace} {r : Reach} {base' : Nat} (ho : Value.okWide Try.prog w r base' 23 v) (h : DataW.Trod enc Try.prog w base spare held 23 v d ps) : ∃ x, v = .agg (bs x).toArray ∧ x.length = 48 := by
  unfold Value.okWide at ho
  rw [Try.underlying23] at ho
  obtain ⟨c, rfl, _⟩ := ho
  obtain ⟨n, hn⟩ := h
  obtain ⟨h1, h2⟩ := bytes_of_23 hn
  obtain ⟨x, hx, hl⟩ := bs_of_bytes _ h2
  refine ⟨x, ?_, by omega⟩
  rw [← hx]
  simp [Value.cells]

theorem open24 {v : Value} {d : DataW H} {ps : List MemPlace} {r : Reach} {base' : Nat} (ho : Value.okWide Try.prog w r base' 24 v) (h : DataW.Trod enc Try.prog w base spare held 24 v d ps) : ∃ x, v = .agg (bs x).toArray ∧ x.length = 192 := by
  unfold Value.okWide at ho
  rw [Try.underlying24] at ho
  obtain ⟨c, rfl, _⟩ := ho
  obtain ⟨n, hn⟩ := h
  obtain ⟨h1, h2⟩ := bytes_of_24 hn
  obtain ⟨x, hx, hl⟩ := bs_of_bytes _ h2
  refine ⟨x, ?_, by omega⟩
  rw [← hx]
  simp [Value.cells]

/-- A slice of such arrays, as it was read. -/
theorem open25 (h : DataW.trod enc Try.prog w base spare held fuel 25 cs = some x) : ∃ a l c vals, cs = [.slice a l c] ∧ SliceAt w (.slice a l c) vals := by
  rcases Deep.open_slice Try.underlying25 h with ⟨rfl, _⟩ | ⟨a, len, cap, m, n, D, Pl, rfl, hb, hl, hm, hmm, _, hx⟩
  · exact ⟨none, 0, 0, [], rfl, none, 0, rfl, by decide, by simp, fun h => by simp at h⟩
  · have hlen : len ≤ m := by rw [hmm]; split <;> omega
    -- each element's bytes
    have hel : ∀ i, i < len → ∃ y : List Int, y.length = 48 ∧ w.cells? base (a.add (i * 48)) 48 = some (bs y) := fun i hi => by
      obtain ⟨cs', h1, h2⟩ := hx i (by omega)
      rw [cells23] at h1
      obtain ⟨h3, h4⟩ := bytes_of_23 h2
      obtain ⟨y, rfl, hy⟩ := bs_of_bytes _ h4
      exact ⟨y, by omega, h1⟩
    obtain ⟨Y, hY⟩ := Deep.choose_lt (α := List Int) (p := fun i y => y.length = 48 ∧ w.cells? base (a.add (i * 48)) 48 = some (bs y)) hel
    refine ⟨some a, len, cap, (List.range len).map Y, rfl, some a, cap, by simp, ?_, ?_, ?_⟩
    · simp; unfold maxLen at hm; omega
    · intro y hy
      simp only [List.mem_map, List.mem_range] at hy
      obtain ⟨i, hi, rfl⟩ := hy
      exact (hY i hi).1
    · intro h0
      simp at h0
      obtain ⟨hc0, hl0, hcell0⟩ := World.cells?_some (hY 0 h0).2
      have hY0 : 0 < (Y 0).length := by rw [(hY 0 h0).1]; omega
      have h00 := hcell0 0 (by omega)
      have e0 : (a.add (0 * 48)).add 0 = a := by simp [Addr.add]
      rw [e0, List.getElem?_eq_getElem (by rw [bs_length]; exact hY0)] at h00
      obtain ⟨b, off, spot⟩ := a
      have hspot : spot = none := World.cell?_spot h00
      subst hspot
      refine ⟨b, off, rfl, fun j y hj => ?_⟩
      simp only [List.getElem?_map, Option.map_eq_some_iff] at hj
      obtain ⟨i, hi, rfl⟩ := hj
      have hjl : j < len := by
        have := (List.getElem?_eq_some_iff.1 hi).1
        simpa using this
      have hij : i = j := by
        rw [List.getElem?_range hjl] at hi
        cases hi; rfl
      subst hij
      obtain ⟨_, _, hcell⟩ := World.cells?_some (hY i hjl).2
      intro q v hv
      have hq : q < 48 := by
        have := (List.getElem?_eq_some_iff.1 hv).1
        rw [bs_length, (hY i hjl).1] at this
        exact this
      have h2 := hcell q hq
      rw [Addr.add_mid, Addr.add_mid, hv] at h2
      exact h2

/-! ### the map -/
/-- An entry's value is a slice that lies in memory. -/
theorem open_entry {v : Value} {n : Nat} {y : DataW H × List MemPlace} (h : elemAt enc Try.prog w base spare held n 25 v = some y) : ∃ a l c vals, v = .slice a l c ∧ SliceAt w v vals := by
  unfold elemAt at h
  split at h
  · rename_i hf
    obtain ⟨a, l, c, vals, hcs, hs⟩ := open25 h
    have hv : v = .slice a l c := by
      cases v <;> simp [Value.cells] at hcs
      · obtain ⟨rfl, rfl, rfl⟩ := hcs; rfl
      · rename_i q
        simp [Value.formed, Try.underlying25] at hf
    exact ⟨a, l, c, vals, hv, by rw [hv]; exact hs⟩
  · cases h

theorem tok_some {a : Option Addr} {l c : Nat} : tok (.slice a l c) = some (.held (.slice a l c), []) := rfl

/-- The map that came in, told by its slices themselves. -/
theorem fit_tok {n : Nat} {es : Array MapEntry} {clock : Nat} (F : Fit Try.prog 3 (elemAt enc Try.prog w base spare held n 25) es clock) : Fit Try.prog 3 tok es clock := by
  refine ⟨F.size, F.stamped, fun x hx => ?_⟩
  obtain ⟨y, hy⟩ := F.reads x hx
  obtain ⟨z, hz, _⟩ := rd_val hy
  have hk := rd_key hy
  obtain ⟨a, l, c, vals, hv, _⟩ := open_entry hz
  exact ⟨_, by unfold rd; rw [hk, hv]; rfl⟩

theorem atKey_held {n : Nat} {es : Array MapEntry} {clock : Nat} (F : Fit Try.prog 3 (elemAt enc Try.prog w base spare held n 25) es clock) {k : Int} {v : Value}
    (h : (DataW.map ((es.toList.map (rg Try.prog 3 tok)).foldr DataW.insert [])).atKey (.int .i64 k) .nil = .held v) : ∃ vals, SliceAt w v vals := by
  unfold DataW.atKey at h
  simp only at h
  split at h
  · rename_i p hp
    have hm := mem_sorted.1 (List.mem_of_find?_eq_some hp)
    obtain ⟨x, hx, rfl⟩ := List.mem_map.1 hm
    obtain ⟨y, hy⟩ := F.reads x hx
    obtain ⟨z, hz, _⟩ := rd_val hy
    have hk := rd_key hy
    obtain ⟨a, l, c, vals, hv, hs⟩ := open_entry hz
    have e : rg Try.prog 3 tok x = (y.1, .held x.val) := by
      unfold rg rd
      rw [hk, hv]
      rfl
    rw [e] at h
    simp only [DataW.held.injEq] at h
    subst h
    exact ⟨vals, hs⟩
  · cases h
end

theorem atKey_default {H : Type} {D : DataW H} {k : Lit} (h : Maps.has D k = true) (z z' : DataW H) : D.atKey k z = D.atKey k z' := by
  cases D <;> try (cases h; done)
  rename_i es
  obtain ⟨p, hp, hpk⟩ := List.any_eq_true.1 h
  have hs : (es.find? (fun p => p.1.sameKey k)).isSome = true := List.find?_isSome.2 ⟨p, hp, hpk⟩
  obtain ⟨x, hx⟩ := Option.isSome_iff_exists.1 hs
  simp [DataW.atKey, hx]

theorem zero25 (w : World) : (zeroValue 25).run Try.prog w = .ok (.slice none 0 0) w := by kernel_rfl

theorem look_map {w : World} {bm n : Nat} {D : DataW Value} {V : Int → List (List Int)} (hown : w.ownsMap Try.prog 3 tok bm n D) (hV : ∀ k v, D.atKey (.int .i64 k) .nil = .held v → SliceAt w v (V k)) :
    Look w (some bm) (fun k => Maps.has D (.int .i64 k)) V (Maps.size D) := by
  intro w' hb
  have hown' := ownsMap_below hown hb hown.lt
  refine ⟨fun k h0 h5 => ?_, fun ty => hown'.len Try.underlying22 ty⟩
  have hkey : keyOf Try.prog 3 (.int .i64 k) = some (.int .i64 k) := Maps.keyOf_int_mk Try.underlying3 (WalkArith.wf_i64 (by omega))
  obtain ⟨v, ps, hrun, hv⟩ := hown'.look_ok law3 Try.underlying22 (zero25 w') (zd := .held (.slice none 0 0)) (zp := []) tok_some hkey
  cases v <;> simp [tok] at hv
  rename_i a l c
  refine ⟨a, l, c, hrun, fun hh => ?_⟩
  refine sliceAt_below (hV k _ ?_) hb
  rw [atKey_default hh .nil (.held (.slice none 0 0)), ← hv.1]

theorem look_nil {w : World} (V : Int → List (List Int)) : Look w none (fun _ => false) V 0 := by
  intro w' hb
  refine ⟨fun k h0 h5 => ?_, fun ty => Maps.len_nil Try.underlying22 ty⟩
  have hkey : keyOf Try.prog 3 (.int .i64 k) = some (.int .i64 k) := Maps.keyOf_int_mk Try.underlying3 (WalkArith.wf_i64 (by omega))
  have := Maps.look_nil (w := w') true law3 Try.underlying22 (zero25 w') hkey
  exact ⟨none, 0, 0, by simpa using this, fun h => by cases h⟩

/-! ### the plain law: as many of 0 to 4 are keys as the map has keys, just if every key is one of 0 to 4 -/
theorem cntH_flip (f g : Int → Bool) (k0 : Nat) (hf : f k0 = true) (hg : g k0 = false) (he : ∀ r : Nat, r ≠ k0 → f r = g r) : ∀ n, cntH f n = cntH g n + if k0 < n then 1 else 0
  | 0 => by simp [cntH_zero]
  | n + 1 => by
    rw [cntH_succ, cntH_succ, cntH_flip f g k0 hf hg he n]
    by_cases h : n = k0
    · subst h
      rw [hf, hg]
      simp
    · rw [he n h]
      by_cases h1 : k0 < n
      · rw [if_pos h1, if_pos (show k0 < n + 1 by omega)]; omega
      · rw [if_neg h1, if_neg (show ¬ k0 < n + 1 by omega)]; omega

theorem cntH_congr (f g : Int → Bool) : ∀ n, (∀ r : Nat, r < n → f r = g r) → cntH f n = cntH g n
  | 0, _ => rfl
  | n + 1, h => by rw [cntH_succ, cntH_succ, cntH_congr f g n (fun r hr => h r (by omega)), h n (by omega)]

def inR (p : Lit × DataW Value) : Bool := match p.1 with | .int .i64 k => decide (0 ≤ k ∧ k < 5) | _ => false

theorem cnt_entries : ∀ (es : List (Lit × DataW Value)), es.Pairwise (fun p q => p.1 ≠ q.1) → (∀ p ∈ es, ∃ k, p.1 = .int .i64 k) →
    cntH (fun k => Maps.has (.map es) (.int .i64 k)) 5 = (es.filter inR).length
  | [], _, _ => by
    rw [cntH_congr _ (fun _ => false) 5 (fun _ _ => rfl)]
    rfl
  | p :: es, hp, hk => by
    obtain ⟨h1, h2⟩ := List.pairwise_cons.1 hp
    have ih := cnt_entries es h2 (fun q hq => hk q (by simp [hq]))
    obtain ⟨k0, hk0⟩ := hk p (by simp)
    have hh : ∀ k, Maps.has (.map (p :: es)) (.int .i64 k) = (decide (k0 = k) || Maps.has (.map es) (.int .i64 k)) := fun k => by
      show ((p :: es).any fun p => p.1.sameKey (.int .i64 k)) = _
      rw [List.any_cons, hk0]
      simp [Lit.sameKey, Maps.has]
    have hno : Maps.has (.map es) (.int .i64 k0) = false := by
      show (es.any fun p => p.1.sameKey (.int .i64 k0)) = false
      rw [List.any_eq_false]
      intro q hq hs
      exact h1 q hq (by rw [hk0]; exact (WideAt.sameKey_eq hs).symm)
    by_cases hin : 0 ≤ k0 ∧ k0 < 5
    · obtain ⟨r0, rfl⟩ := Int.eq_ofNat_of_zero_le hin.1
      have e1 : inR p = true := by unfold inR; rw [hk0]; simp; omega
      rw [cntH_flip (fun k => Maps.has (.map (p :: es)) (.int .i64 k)) (fun k => Maps.has (.map es) (.int .i64 k)) r0 (by rw [hh]; simp) hno (fun r hr => by
        show Maps.has (.map (p :: es)) (.int .i64 r) = Maps.has (.map es) (.int .i64 r)
        rw [hh]
        have : decide ((r0 : Int) = (r : Int)) = false := by simp; omega
        rw [this, Bool.false_or]) 5, if_pos (by omega), ih, List.filter_cons, e1]
      simp
    · have e1 : inR p = false := by unfold inR; rw [hk0]; simp; omega
      rw [cntH_congr (fun k => Maps.has (.map (p :: es)) (.int .i64 k)) (fun k => Maps.has (.map es) (.int .i64 k)) 5 (fun r hr => by
        show Maps.has (.map (p :: es)) (.int .i64 r) = Maps.has (.map es) (.int .i64 r)
        rw [hh]
        have : decide (k0 = (r : Int)) = false := by simp; omega
        rw [this, Bool.false_or]), ih, List.filter_cons, e1]
      simp

theorem plain_law {w : World} {bm n : Nat} {D : DataW Value} (hown : w.ownsMap Try.prog 3 tok bm n D) (G : Int → Prop) :
    (∀ k : Int, Maps.has D (.int .i64 k) = true → 0 ≤ k ∧ k < 5 ∧ G k) ↔ ((∀ r : Nat, r < 5 → Maps.has D (.int .i64 (r : Int)) = true → G r) ∧ cntH (fun k => Maps.has D (.int .i64 k)) 5 = Maps.size D) := by
  have hkeys : ∃ es, D = .map es ∧ es.Pairwise (fun p q => p.1 ≠ q.1) ∧ ∀ p ∈ es, ∃ k, p.1 = .int .i64 k := by
    obtain ⟨es', hD, hp, _⟩ := hown.entries law3
    refine ⟨es', hD, hp, fun p hpm => ?_⟩
    obtain ⟨es, clock, _, F, _, hD2⟩ := hown
    rw [hD] at hD2
    simp only [DataW.map.injEq] at hD2
    rw [hD2] at hpm
    obtain ⟨x, hx, rfl⟩ := List.mem_map.1 (mem_sorted.1 hpm)
    obtain ⟨y, hy⟩ := F.reads x hx
    obtain ⟨k, _, hk, _⟩ := Maps.keyOf_int_inv Try.underlying3 (rd_key hy)
    exact ⟨k, by rw [rg_of hy]; exact hk⟩
  obtain ⟨es, rfl, hp, hk⟩ := hkeys
  rw [cnt_entries es hp hk]
  show _ ↔ _ ∧ _ = es.length
  rw [List.length_filter_eq_length_iff]
  have hhas : ∀ p ∈ es, Maps.has (.map es) p.1 = true := fun p hpm => by
    obtain ⟨k, hk⟩ := hk p hpm
    exact List.any_eq_true.2 ⟨p, hpm, by rw [hk]; simp [Lit.sameKey]⟩
  constructor
  · intro h
    refine ⟨fun r hr hh => (h r hh).2.2, fun p hpm => ?_⟩
    obtain ⟨k, hkp⟩ := hk p hpm
    have := h k (by rw [← hkp]; exact hhas p hpm)
    unfold inR
    rw [hkp]
    simp
    omega
  · rintro ⟨h1, h2⟩ k hh
    obtain ⟨p, hpm, hs⟩ := List.any_eq_true.1 hh
    have hkp := WideAt.sameKey_eq hs
    have h3 := h2 p hpm
    unfold inR at h3
    rw [hkp] at h3
    simp at h3
    refine ⟨h3.1, h3.2, ?_⟩
    obtain ⟨r, rfl⟩ := Int.eq_ofNat_of_zero_le h3.1
    exact h1 r (by omega) hh

end Go.Proofs.Qxb6627747a
