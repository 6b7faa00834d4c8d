/- SEAT b6627778a, WALKS 6: facts on the tables; the law FnDefaultConfigAgreesWithSettings, its parts. -/
import Derived.Test.Qxb6627778aWalks4
import Derived.Deep.DeepCutAuto
import Derived.Deep.CutBlock
namespace Go.Proofs.Qxb6627778a
open Go.ChangeShapes Go.WideShapes Go.ChangeAt Go.RowKit

theorem ints_row : ∀ r ∈ ints, ∃ d lo hi : Int, r.dflt = .int .i64 d ∧ r.lo = .int .i64 lo ∧ r.hi = .int .i64 hi ∧ lo ≤ d ∧ d ≤ hi ∧ cfg[r.off]? = some (.int .i64 d) := by
  intro r hr
  simp only [ints, rules, more, List.cons_append, List.nil_append, List.mem_cons, List.not_mem_nil, or_false] at hr
  rcases hr with rfl | rfl | rfl | rfl | rfl | rfl | rfl | rfl | rfl | rfl | rfl | rfl | rfl | rfl | rfl <;> exact ⟨_, _, _, rfl, rfl, rfl, by decide, by decide, rfl⟩
theorem shares_row : ∀ r ∈ shares, ∃ d lo hi : Nat, r.dflt = .float .f64 d ∧ r.lo = .float .f64 lo ∧ r.hi = .float .f64 hi ∧ FloatKind.f64.format.order d d = some .eq ∧ FloatKind.f64.format.order d lo = some .gt ∧ FloatKind.f64.format.order d hi = some .lt ∧ cfg[r.off]? = some (.float .f64 d) := by
  intro r hr
  simp only [shares, List.mem_cons, List.not_mem_nil, or_false] at hr
  rcases hr with rfl | rfl | rfl | rfl | rfl | rfl <;> exact ⟨_, _, _, rfl, rfl, rfl, by kernel_rfl, by kernel_rfl, by kernel_rfl, rfl⟩

theorem apart_of {l : List SRow} (h : (l.map (·.off)).Nodup) (j k : Nat) (hjk : j < k) (hk : k < l.length) : l[j].off ≠ l[k].off := by
  have := List.pairwise_iff_getElem.1 h j k (by simp; omega) (by simpa using hk) hjk
  simpa using this
theorem ints_apart (j k : Nat) (hjk : j < k) (hk : k < ints.length) : ints[j].off ≠ ints[k].off := apart_of (by decide) j k hjk hk
theorem shares_apart (j k : Nat) (hjk : j < k) (hk : k < shares.length) : shares[j].off ≠ shares[k].off := apart_of (by decide) j k hjk hk

/-- The names of all settings, in the order in which the law gathers them. -/
def NL : List ByteArray := ints.map (·.name) ++ (shares.map (·.name) ++ [n21])
theorem NL_len : NL.length = 22 := rfl
theorem NL_apart (j k : Nat) (hjk : j < k) (hk : k < 22) : (NL[j]'(by rw [NL_len]; omega)).toList ≠ (NL[k]'(by rw [NL_len]; omega)).toList := by
  have h : (NL.map (fun b => b.toList)).Nodup := by decide +kernel
  have := List.pairwise_iff_getElem.1 h j k (by simp [NL_len]; omega) (by simp [NL_len]; omega) hjk
  simpa using this
theorem NL_full : ∀ b ∈ NL, 0 < b.size := by
  have h : (NL.all fun b => decide (0 < b.size)) = true := by kernel_rfl
  intro b hb
  simpa using List.all_eq_true.1 h b hb

/-- Two addresses in one block. -/
theorem eql_ptr (t e : TypeId) (n : Nat) (hu : Try.prog.underlying t = some (.pointer e)) (hs : (Try.prog.info? e).map (·.size) = some (n + 1)) (w : World) (b o1 o2 : Nat) :
    (binOp .eql t (.pointer (some ⟨b, o1, none⟩)) (.pointer (some ⟨b, o2, none⟩))).run Try.prog w = .ok (.bool (o1 == o2)) w := by
  cases hq : Try.prog.info? e with
  | none => simp [hq] at hs
  | some i =>
    have hsz : i.size = n + 1 := by simpa [hq] using hs
    have he : ((⟨b, o1, none⟩ : Addr) == ⟨b, o2, none⟩) = (o1 == o2) := by
      rw [Bool.eq_iff_iff]; simp
    have hs' : (sizeOf e).run Try.prog w = .ok (n + 1) w := by simp [sizeOf, typeInfo, hq, hsz]
    have hsa : (sameAddr ⟨b, o1, none⟩ ⟨b, o2, none⟩).run Try.prog w = .ok (o1 == o2) w := by
      unfold sameAddr
      simp only [beq_self_eq_true, if_true, he]
      rfl
    have h1 : (Op.equalIn (9999 + 1) t (.pointer (some ⟨b, o1, none⟩)) (.pointer (some ⟨b, o2, none⟩))).run Try.prog w = .ok (o1 == o2) w := by
      rw [Op.equalIn]
      simp only [Sem.run_bind, run_underlying hu, Result.andThen_ok, hs']
      rw [if_pos (by omega)]
      exact hsa
    have h2 : binOp .eql t (.pointer (some ⟨b, o1, none⟩)) (.pointer (some ⟨b, o2, none⟩)) = (do pure (.bool (← Op.equal t (.pointer (some ⟨b, o1, none⟩)) (.pointer (some ⟨b, o2, none⟩))))) := rfl
    rw [h2]
    simp only [Sem.run_bind, Op.equal, Op.maxDepth]
    rw [h1]
    rfl

end Go.Proofs.Qxb6627778a
