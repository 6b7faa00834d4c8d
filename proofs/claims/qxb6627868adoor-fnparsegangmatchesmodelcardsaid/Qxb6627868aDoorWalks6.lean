/- SEAT b6627868aD, WALKS 6: gangDecimal. -/
import Derived.Test.Qxb6627868aDoorPlain
namespace Go.Proofs.Qxb6627868aDoor
open Go.ChangeShapes Go.WideShapes Go.ChangeAt Go.RowKit

/-- gangDecimal's two results. -/
def DV (k : CK) : Value := match k with
  | none => .tuple #[.int .i64 0, .int .i64 0]
  | some none => .tuple #[.int .i64 1, .int .i64 0]
  | some (some n) => .tuple #[.int .i64 2, .int .i64 n]

theorem gloop_step (L : List UInt8) (k : Nat) (hk : k < L.length) (n : Nat) (over : Bool) : gloop n over (L.drop k) =
    if 48 ≤ L[k].toNat ∧ L[k].toNat ≤ 57 then (if over = true then gloop n true (L.drop (k + 1)) else if (9223372036854775807 - (L[k].toNat - 48)) / 10 < n then gloop n true (L.drop (k + 1)) else gloop (n * 10 + (L[k].toNat - 48)) false (L.drop (k + 1))) else none := by
  rw [List.drop_eq_getElem_cons hk, gloop]

set_option maxHeartbeats 400000 in
theorem dec_nil (s : ByteArray) (hs : s.size = 0) (w : World) : Calls Tryd.prog 11 #[.string s] w fun e w' => e = .returned (DV none) ∧ w' = w := by
  have h0 : ¬ (0 : Int) < (s.size : Int) := by omega
  have h1 : ((0 : Int) == (s.size : Int)) = true := by simp [hs]
  go_enter Tryd.func11, Tryd.ntmps11
  go_wp2
  go_ret2
  exact ⟨rfl, rfl⟩

/-- The sign's end, and what it says. -/
def signEnd (l : List UInt8) : Nat := match l with
  | [] => 0
  | c :: _ => if c.toNat = 43 ∨ c.toNat = 45 then 1 else 0
def signNeg (l : List UInt8) : Bool := match l with
  | [] => false
  | c :: _ => decide (c.toNat = 45)
theorem gk_sign (l : List UInt8) (hl : l ≠ []) : gk l = gkind (signNeg l) (l.drop (signEnd l)) := by
  cases l with
  | nil => exact absurd rfl hl
  | cons c r =>
    unfold gk signNeg signEnd
    by_cases h43 : c.toNat = 43
    · simp [h43]
    · by_cases h45 : c.toNat = 45
      · simp [h45]
      · simp [h43, h45]

set_option maxHeartbeats 400000 in
theorem dec_some (s : ByteArray) (c0 : UInt8) (r0 : List UInt8) (hs : s.data.toList = c0 :: r0) (hn : s.size ≤ 1099511627776) (w : World) : Calls Tryd.prog 11 #[.string s] w fun e w' => e = .returned (DV (gk s.data.toList)) ∧ w' = w := by
  have hlen : s.data.toList.length = s.size := by simp
  have hpos : 0 < s.size := by rw [← hlen, hs]; simp
  have hpos' : (0 : Int) < (s.size : Int) := by omega
  have hget : s[0]'hpos = c0 := by
    have h : s.data.toList[0]'(by rw [hlen]; exact hpos) = s[0]'hpos := by simp [ByteArray.getElem_eq_getElem_data]
    rw [← h]
    simp [hs]
  go_enter Tryd.func11, Tryd.ntmps11
  go_upto_region 3 with fail
  go_cut [23] from 11 (fun c wx => c = .bool (decide (c0.toNat = 43 ∨ c0.toNat = 45)) ∧ wx = w)
  case first =>
    by_cases h43 : c0.toNat = 43
    · have e1 : ((c0.toNat : Int) == 43) = true := by rw [h43]; rfl
      have H : Hid _ := h43
      clear h43
      go_wp2
      go_meet
      exact ⟨by rw [decide_eq_true (show c0.toNat = 43 ∨ c0.toNat = 45 from .inl H.out)], rfl⟩
    · have e1 : ((c0.toNat : Int) == 43) = false := by simp; omega
      by_cases h45 : c0.toNat = 45
      · have e2 : ((c0.toNat : Int) == 45) = true := by rw [h45]; rfl
        have H : Hid _ := h45
        clear h45 h43
        go_wp2
        go_meet
        exact ⟨by rw [decide_eq_true (show c0.toNat = 43 ∨ c0.toNat = 45 from .inr H.out)], rfl⟩
      · have e2 : ((c0.toNat : Int) == 45) = false := by simp; omega
        have H : Hid (¬ (c0.toNat = 43 ∨ c0.toNat = 45)) := fun h => h.elim h43 h45
        clear h43 h45
        go_wp2
        go_meet
        exact ⟨by rw [decide_eq_false H.out], rfl⟩
  case rest =>
  obtain ⟨rfl, rfl⟩ := hcut
  go_upto_if 23 with fail
  go_cut [4, 5] from 11 (fun i n wx => i = .int .i64 (signEnd s.data.toList) ∧ n = .bool (signNeg s.data.toList) ∧ wx = wc)
  case first =>
    have hsE : signEnd s.data.toList = if c0.toNat = 43 ∨ c0.toNat = 45 then 1 else 0 := by rw [hs]; rfl
    have hsN : signNeg s.data.toList = decide (c0.toNat = 45) := by rw [hs]; rfl
    by_cases h45 : c0.toNat = 45
    · have e2 : ((c0.toNat : Int) == 45) = true := by rw [h45]; rfl
      rw [decide_eq_true (show c0.toNat = 43 ∨ c0.toNat = 45 from .inr h45)]
      rw [if_pos (.inr h45)] at hsE
      rw [decide_eq_true h45] at hsN
      have HE : Hid _ := hsE
      have HN : Hid _ := hsN
      clear hsE hsN h45
      go_wp2
      go_meet
      exact ⟨by rw [HE.out]; rfl, by rw [HN.out], rfl⟩
    · have e2 : ((c0.toNat : Int) == 45) = false := by simp; omega
      rw [decide_eq_false h45] at hsN
      by_cases h43 : c0.toNat = 43
      · rw [decide_eq_true (show c0.toNat = 43 ∨ c0.toNat = 45 from .inl h43)]
        rw [if_pos (.inl h43)] at hsE
        have HE : Hid _ := hsE
        have HN : Hid _ := hsN
        clear hsE hsN h45 h43
        go_wp2
        go_meet
        exact ⟨by rw [HE.out]; rfl, by rw [HN.out], rfl⟩
      · rw [decide_eq_false (show ¬ (c0.toNat = 43 ∨ c0.toNat = 45) from fun h => h.elim h43 h45)]
        rw [if_neg (fun h => h.elim h43 h45)] at hsE
        have HE : Hid _ := hsE
        have HN : Hid _ := hsN
        clear hsE hsN h45 h43
        go_wp2
        go_meet
        exact ⟨by rw [HE.out]; rfl, by rw [HN.out], rfl⟩
  case rest =>
  obtain ⟨rfl, rfl, rfl⟩ := hcut
  have hgk := gk_sign s.data.toList (by rw [hs]; simp)
  have hse : signEnd s.data.toList ≤ s.data.toList.length := by
    rw [hs]
    show (if c0.toNat = 43 ∨ c0.toNat = 45 then 1 else 0) ≤ (c0 :: r0).length
    split <;> simp
  have HGK : Hid _ := hgk
  clear hgk hget hpos hpos' hs
  generalize signEnd s.data.toList = i0 at *
  generalize signNeg s.data.toList = neg at *
  by_cases hie : i0 = s.size
  · subst hie
    have hdv : gk s.data.toList = none := by
      rw [HGK.out, List.drop_of_length_le (by omega)]; rfl
    have HDV : Hid _ := hdv
    clear hdv
    have e1 : ((s.size : Int) == (s.size : Int)) = true := by simp
    go_wp2
    go_ret2
    exact ⟨by rw [HDV.out]; rfl, rfl⟩
  · have e1 : ((i0 : Int) == (s.size : Int)) = false := by simp; omega
    have hL : (s.data.toList.drop i0).length = s.size - i0 := by rw [List.length_drop, hlen]
    go_wp2_with fail
    go_loopw [4, 7, 8] (fun i nv ov wr => ∃ (k n : Nat) (z : Int) (over : Bool), k ≤ s.size - i0 ∧ i = .int .i64 (i0 + k : Nat) ∧ nv = .int .i64 z ∧ ov = .bool over ∧ Hid (z = (n : Int)) ∧ 0 ≤ z ∧ z ≤ 9223372036854775807 ∧ Hid (gloop 0 false (s.data.toList.drop i0) = gloop n over ((s.data.toList.drop i0).drop k)) ∧ wr = wc) (fun i _ _ _ => s.size - (intOf i).toNat)
    case atStart => exact ⟨0, 0, 0, false, by omega, by rfl, rfl, rfl, rfl, by omega, by omega, rfl, rfl⟩
    case round =>
      obtain ⟨k, n, z, over, hk, rfl, rfl, rfl, HZ, hz0, hz1, HG, rfl⟩ := hrel
      by_cases hlt : k < s.size - i0
      · have hix : i0 + k < s.size := by omega
        have hix' : ((i0 + k : Nat) : Int) < (s.size : Int) := by omega
        have hLk : (s.data.toList.drop i0)[k]'(by rw [hL]; exact hlt) = s[i0 + k]'hix := by
          rw [List.getElem_drop]
          simp [ByteArray.getElem_eq_getElem_data]
        have hst := gloop_step (s.data.toList.drop i0) k (by rw [hL]; exact hlt) n over
        rw [hLk] at hst
        have HST : Hid _ := hst
        clear hst hLk
        have hc256 : (s[i0 + k]'hix).toNat < 256 := (s[i0 + k]'hix).toNat_lt
        by_cases hdl : ((s[i0 + k]'hix).toNat : Int) < 48
        · have hv : gk s.data.toList = none := by
            have hg := HG.out
            rw [HST.out, if_neg (by omega)] at hg
            rw [HGK.out, gkind, hg]
            split <;> rfl
          have HV : Hid _ := hv
          clear hv
          go_wp2
          go_ret2
          exact ⟨by rw [HV.out]; rfl, rfl⟩
        by_cases hdh : (57 : Int) < ((s[i0 + k]'hix).toNat : Int)
        · have hv : gk s.data.toList = none := by
            have hg := HG.out
            rw [HST.out, if_neg (by omega)] at hg
            rw [HGK.out, gkind, hg]
            split <;> rfl
          have HV : Hid _ := hv
          clear hv
          go_wp2
          go_ret2
          exact ⟨by rw [HV.out]; rfl, rfl⟩
        have hg := HG.out
        rw [HST.out, if_pos ⟨by omega, by omega⟩] at hg
        clear HG HST
        cases over
        · rw [if_neg (by decide)] at hg
          by_cases hov : (9223372036854775807 - (((s[i0 + k]'hix).toNat : Int) - 48)) / 10 < z
          · rw [if_pos (by have := HZ.out; omega)] at hg
            have HG2 : Hid _ := hg
            clear hg
            go_wp2
            go_roundw
            case rel => exact ⟨k + 1, n, z, true, by omega, by go_num, rfl, rfl, HZ, hz0, hz1, HG2, trivial⟩
            case measure => simp [intOf]; omega
          · rw [if_neg (by have := HZ.out; omega)] at hg
            have HG2 : Hid _ := hg
            clear hg
            go_wp2
            go_roundw
            case rel => exact ⟨k + 1, n * 10 + ((s[i0 + k]'hix).toNat - 48), z * 10 + (((s[i0 + k]'hix).toNat : Int) - 48), false, by omega, by go_num, by go_num, rfl, by have := HZ.out; show _ = _; omega, by omega, by omega, HG2, trivial⟩
            case measure => simp [intOf]; omega
        · rw [if_pos rfl] at hg
          have HG2 : Hid _ := hg
          clear hg
          go_wp2
          go_roundw
          case rel => exact ⟨k + 1, n, z, true, by omega, by go_num, rfl, rfl, HZ, hz0, hz1, HG2, trivial⟩
          case measure => simp [intOf]; omega
      · have hke : k = s.size - i0 := by omega
        subst hke
        have hnil : (s.data.toList.drop i0).drop (s.size - i0) = [] := List.drop_of_length_le (by omega)
        have hg := HG.out
        rw [hnil] at hg
        have hne : s.data.toList.drop i0 ≠ [] := fun h => by rw [h] at hL; simp at hL; omega
        have hgk : gk s.data.toList = (if n = 0 ∧ over = false then some none else if neg = true ∨ over = true then none else some (some (n : Int)) : CK) := by
          rw [HGK.out, gkind, if_neg hne, hg]
          rfl
        have HGK2 : Hid _ := hgk
        clear hgk hg hnil hne HG HGK
        have hidx : ((i0 + (s.size - i0) : Nat) : Int) = (s.size : Int) := by omega
        cases over
        · by_cases hz : z = 0
          · have hv : gk s.data.toList = some none := by rw [HGK2.out, if_pos ⟨by have := HZ.out; omega, rfl⟩]
            have HV : Hid _ := hv
            have e5 : (z == 0) = true := by simp [hz]
            clear hv hz
            go_wp2
            go_ret2
            exact ⟨by rw [HV.out]; rfl, rfl⟩
          · have e5 : (z == 0) = false := by simp [hz]
            cases neg
            · have hv : gk s.data.toList = some (some z) := by rw [HGK2.out, if_neg (fun h => hz (by have := HZ.out; have := h.1; omega)), if_neg (by simp), HZ.out]
              have HV : Hid _ := hv
              clear hv hz
              go_wp2
              go_ret2
              exact ⟨by rw [HV.out]; rfl, rfl⟩
            · have hv : gk s.data.toList = none := by rw [HGK2.out, if_neg (fun h => hz (by have := HZ.out; have := h.1; omega)), if_pos (.inl rfl)]
              have HV : Hid _ := hv
              clear hv hz
              go_wp2
              go_ret2
              exact ⟨by rw [HV.out]; rfl, rfl⟩
        · have hv : gk s.data.toList = none := by rw [HGK2.out, if_neg (by simp), if_pos (.inr rfl)]
          have HV : Hid _ := hv
          clear hv
          by_cases hz : z = 0
          · have e5 : (z == 0) = true := by simp [hz]
            clear hz
            cases neg
            · go_wp2
              go_ret2
              exact ⟨by rw [HV.out]; rfl, rfl⟩
            · go_wp2
              go_ret2
              exact ⟨by rw [HV.out]; rfl, rfl⟩
          · have e5 : (z == 0) = false := by simp [hz]
            clear hz
            cases neg
            · go_wp2
              go_ret2
              exact ⟨by rw [HV.out]; rfl, rfl⟩
            · go_wp2
              go_ret2
              exact ⟨by rw [HV.out]; rfl, rfl⟩

/-- gangDecimal at every text. -/
theorem dec_any (s : ByteArray) (hn : s.size ≤ 1099511627776) (w : World) : Calls Tryd.prog 11 #[.string s] w fun e w' => e = .returned (DV (ck s.data.toList)) ∧ w' = w := by
  rw [← gk_ck]
  cases h : s.data.toList with
  | nil =>
    have h0 : s.size = 0 := by have : s.data.toList.length = s.size := by simp
                               rw [← this, h]; rfl
    exact dec_nil s h0 w
  | cons c r =>
    have := dec_some s c r h hn w
    rw [h] at this
    exact this

end Go.Proofs.Qxb6627868aDoor
