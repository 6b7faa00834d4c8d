/- SEAT b6627868aD: gangDecimal as a plain function, and that it says what Atoi says. -/
import Derived.Test.Qxb6627868aDoorWalks1
namespace Go.Proofs.Qxb6627868aDoor

/-- gangDecimal's loop: what the digits spell, and whether they have passed the greatest int; none: a byte that is no digit. -/
def gloop (n : Nat) (over : Bool) : List UInt8 → Option (Nat × Bool)
  | [] => some (n, over)
  | c :: r =>
    if 48 ≤ c.toNat ∧ c.toNat ≤ 57 then
      if over = true then gloop n true r
      else if (9223372036854775807 - (c.toNat - 48)) / 10 < n then gloop n true r
      else gloop (n * 10 + (c.toNat - 48)) false r
    else none

theorem parse_mono : ∀ (l : List UInt8) (acc u : Nat), Lib.parseUint10 acc l = .ok u → acc ≤ u
  | [], acc, u, h => by
    simp only [Lib.parseUint10] at h
    injection h with h
    omega
  | c :: r, acc, u, h => by
    simp only [Lib.parseUint10] at h
    split at h
    · split at h
      · cases h
      · split at h
        · cases h
        · have := parse_mono r _ u h
          omega
    · cases h

theorem gloop_over : ∀ (l : List UInt8) (n m : Nat) (b : Bool), gloop n true l = some (m, b) → b = true
  | [], n, m, b, h => by
    simp only [gloop, Option.some.injEq, Prod.mk.injEq] at h
    exact h.2.symm
  | c :: r, n, m, b, h => by
    simp only [gloop, if_true] at h
    split at h
    · exact gloop_over r n m b h
    · cases h

/-- The loop against the library's. -/
theorem gloop_parse : ∀ (l : List UInt8) (n : Nat), n ≤ 9223372036854775807 →
    (∃ m, gloop n false l = some (m, false) ∧ Lib.parseUint10 n l = .ok m ∧ m ≤ 9223372036854775807) ∨
    ((∀ m, gloop n false l ≠ some (m, false)) ∧ ∀ u, Lib.parseUint10 n l = .ok u → 9223372036854775807 < u)
  | [], n, hn => .inl ⟨n, rfl, rfl, hn⟩
  | c :: r, n, hn => by
    by_cases hd : 48 ≤ c.toNat ∧ c.toNat ≤ 57
    · by_cases ho : (9223372036854775807 - (c.toNat - 48)) / 10 < n
      · right
        have e1 : gloop n false (c :: r) = gloop n true r := by simp [gloop, hd, ho]
        refine ⟨fun m h => ?_, fun u hu => ?_⟩
        · rw [e1] at h
          have := gloop_over r n m false h
          cases this
        · simp only [Lib.parseUint10, if_pos hd] at hu
          split at hu
          · cases hu
          · split at hu
            · cases hu
            · have := parse_mono r _ u hu
              omega
      · have e1 : gloop n false (c :: r) = gloop (n * 10 + (c.toNat - 48)) false r := by simp [gloop, hd, ho]
        have hle : n * 10 + (c.toNat - 48) ≤ 9223372036854775807 := by omega
        have e2 : Lib.parseUint10 n (c :: r) = Lib.parseUint10 (n * 10 + (c.toNat - 48)) r := by
          simp only [Lib.parseUint10, if_pos hd]
          rw [if_neg (by omega), if_neg (by omega)]
        rw [e1, e2]
        exact gloop_parse r _ hle
    · right
      have e1 : gloop n false (c :: r) = none := by simp [gloop, hd]
      refine ⟨fun m h => ?_, fun u hu => ?_⟩
      · rw [e1] at h; cases h
      · simp only [Lib.parseUint10, if_neg hd] at hu
        cases hu

/-- What stands behind the sign, as gangDecimal reads it. -/
def gkind (neg : Bool) (l : List UInt8) : CK :=
  if l = [] then none
  else match gloop 0 false l with
    | none => none
    | some (n, over) => if n = 0 ∧ over = false then some none else if neg = true ∨ over = true then none else some (some n)

def ckOf (e : Lib.NumEnd Int) : CK := match e with
  | .ok v => if v < 0 then none else if v = 0 then some none else some (some v)
  | _ => none
theorem ck_eq (l : List UInt8) : ck l = ckOf (Lib.atoiAll l) := rfl

theorem gkind_less (l : List UInt8) : gkind false l = ckOf (Lib.signless (Lib.parseMag l)) := by
  unfold gkind Lib.parseMag
  by_cases hl : l = []
  · rw [if_pos hl, if_pos hl]; rfl
  · rw [if_neg hl, if_neg hl]
    rcases gloop_parse l 0 (by omega) with ⟨m, h1, h2, h3⟩ | ⟨h1, h2⟩
    · have hR : ckOf (Lib.signless (.ok m)) = (if m = 0 then some none else some (some (m : Int)) : CK) := by
        have e1 : Lib.signless (.ok m) = .ok (m : Int) := if_neg (by omega)
        rw [e1]
        by_cases hm : m = 0
        · subst hm; rfl
        · rw [if_neg hm]
          show (if (m : Int) < 0 then (none : CK) else if (m : Int) = 0 then some none else some (some m)) = _
          rw [if_neg (by omega), if_neg (by omega)]
      rw [h1, h2, hR]
      by_cases hm : m = 0 <;> simp [hm]
    · have hR : ckOf (Lib.signless (Lib.parseUint10 0 l)) = none := by
        rcases hp : Lib.parseUint10 0 l with u | _ | _
        · have := h2 u hp
          simp only [Lib.signless]
          rw [if_pos (by omega)]
          rfl
        · rfl
        · rfl
      rw [hR]
      cases hg : gloop 0 false l with
      | none => rfl
      | some q =>
        obtain ⟨m, b⟩ := q
        cases b
        · exact absurd hg (h1 m)
        · simp

theorem gkind_neg (l : List UInt8) : gkind true l = ckOf (Lib.signed (Lib.parseMag l)) := by
  unfold gkind Lib.parseMag
  by_cases hl : l = []
  · rw [if_pos hl, if_pos hl]; rfl
  · rw [if_neg hl, if_neg hl]
    rcases gloop_parse l 0 (by omega) with ⟨m, h1, h2, h3⟩ | ⟨h1, h2⟩
    · have hR : ckOf (Lib.signed (.ok m)) = (if m = 0 then some none else none : CK) := by
        have e1 : Lib.signed (.ok m) = .ok (-(m : Int)) := if_neg (by omega)
        rw [e1]
        by_cases hm : m = 0
        · subst hm; rfl
        · rw [if_neg hm]
          show (if -(m : Int) < 0 then (none : CK) else if -(m : Int) = 0 then some none else some (some (-(m : Int)))) = _
          rw [if_pos (by omega)]
      rw [h1, h2, hR]
      by_cases hm : m = 0 <;> simp [hm]
    · have hR : ckOf (Lib.signed (Lib.parseUint10 0 l)) = none := by
        rcases hp : Lib.parseUint10 0 l with u | _ | _
        · have := h2 u hp
          simp only [Lib.signed]
          split
          · rfl
          · simp only [ckOf]
            rw [if_pos (by omega)]
        · rfl
        · rfl
      rw [hR]
      cases hg : gloop 0 false l with
      | none => rfl
      | some q =>
        obtain ⟨m, b⟩ := q
        cases b
        · exact absurd hg (h1 m)
        · simp

/-- gangDecimal, whole. -/
def gk (l : List UInt8) : CK := match l with
  | [] => none
  | c :: r => if c.toNat = 43 then gkind false r else if c.toNat = 45 then gkind true r else gkind false (c :: r)

theorem gk_ck (l : List UInt8) : gk l = ck l := by
  rw [ck_eq]
  cases l with
  | nil => rfl
  | cons c r =>
    unfold gk
    by_cases h43 : c.toNat = 43
    · have hc : c = 43 := by rw [← UInt8.toNat_inj]; exact h43
      subst hc
      simp only [if_pos h43]
      rw [Lib.atoiAll_plus, gkind_less]
    · by_cases h45 : c.toNat = 45
      · have hc : c = 45 := by rw [← UInt8.toNat_inj]; exact h45
        subst hc
        simp only [if_neg h43, if_pos h45]
        rw [Lib.atoiAll_minus, gkind_neg]
      · simp only [if_neg h43, if_neg h45]
        rw [Lib.atoiAll_plain c r h43 h45, gkind_less]

end Go.Proofs.Qxb6627868aDoor
