/- SEAT b6627826a, BASE: slices of bytes that a call owns, two side by side; append's laws with the place where the new slice lies. -/
import Derived.Test.Qxb6627826aRows
import Derived.WalkKit
import Derived.ProofKit
import Derived.OpenShut
import Derived.WalkSpells
import Derived.WalkLawsBesides
import Derived.Deep.QuietTactic
import Derived.BigQuiet
import Derived.Maps.AppendAt
import Derived.Lib.AppendStr
import Derived.Laws.AppendOwnNone
import Derived.Deep.DeepCutAuto
import Derived.Deep.CutBlock
namespace Go.Proofs.Qxb6627826a
open Go.ChangeShapes Go.WideShapes Go.ChangeAt Go.RowKit

theorem own : ownKnob Try.prog.godebug = none := by kernel_rfl

/-- Bytes as cells. -/
def cb (x : List UInt8) : List Value := x.map fun b => .int .u8 b.toNat
theorem cb_length (x : List UInt8) : (cb x).length = x.length := by simp [cb]
theorem cb_append (x y : List UInt8) : cb (x ++ y) = cb x ++ cb y := by simp [cb]
theorem cb_one (x : List UInt8) : ∀ u ∈ cb x, u.oneCell' = true := by
  intro u hu
  simp only [cb, List.mem_map] at hu
  obtain ⟨b, _, rfl⟩ := hu
  rfl
theorem strCells_cb (s : ByteArray) : Lib.strCells s = cb s.data.toList := rfl

theorem info5 : (Try.prog.info? 5).map (fun i => (i.zero, i.size, i.bytes)) = some (some (.int .u8 0), 1, 1) := by kernel_rfl

/-- One owned slice has grown: of the old memory only its own row has turned, and it lies in its old row or in a new one. -/
def Grew (w w' : World) (v v' : Value) : Prop := w.grownBy w' v.ownBlock ∧ (v'.ownBlock = v.ownBlock ∨ ∃ k, v'.ownBlock = some k ∧ w.heap.size ≤ k)

theorem Grew.refl (w : World) (v : Value) : Grew w w v v := ⟨⟨rfl, rfl, rfl, Nat.le_refl _, fun _ _ _ => rfl⟩, .inl rfl⟩
theorem Grew.trans {a b c : World} {u v x : Value} (h : Grew a b u v) (k : Grew b c v x) : Grew a c u x := by
  refine ⟨⟨k.1.os.trans h.1.os, k.1.tape.trans h.1.tape, k.1.output.trans h.1.output, Nat.le_trans h.1.size k.1.size, fun i hi hne => ?_⟩, ?_⟩
  · refine (k.1.block i (Nat.lt_of_lt_of_le hi h.1.size) ?_).trans (h.1.block i hi hne)
    rcases h.2 with e | ⟨q, e, hq⟩
    · rw [e]; exact hne
    · rw [e]; intro hc; cases hc; omega
  · rcases k.2 with e | ⟨q, e, hq⟩
    · rcases h.2 with e' | ⟨q', e', hq'⟩
      · exact .inl (e.trans e')
      · exact .inr ⟨q', e.trans e', hq'⟩
    · exact .inr ⟨q, e, Nat.le_trans h.1.size hq⟩
theorem Grew.alloc {a b : World} {u v : Value} (o : Obj) (h : Grew (a.alloc o) b u v) : Grew a b u v := by
  have hs : a.heap.size ≤ (a.alloc o).heap.size := by simp
  refine ⟨⟨h.1.os, h.1.tape, h.1.output, Nat.le_trans hs h.1.size, fun i hi hne => (h.1.block i (Nat.lt_of_lt_of_le hi hs) hne).trans (heap_alloc_old a o hi)⟩, ?_⟩
  rcases h.2 with e | ⟨q, e, hq⟩
  · exact .inl e
  · exact .inr ⟨q, e, Nat.le_trans hs hq⟩

section
variable {P : Program} (w : World)

theorem run_append_own_string_at (base : Nat) (t u ty e : TypeId) (i : TypeInfo) (ht : P.underlying t = some (.slice e)) (hu : P.underlying u = some .string) (hi : P.info? e = some i) (hz : i.zero = some (.int .u8 0))
    (hsize : i.size = 1) (hby : i.bytes = 1)
    (v : Value) (n : Nat) (xs : List Value) (hown : w.ownsRow base e 1 v n xs) (s : ByteArray)
    (h63 : n + s.size ≤ maxLen) (hbytes : n + s.size ≤ 140737488355328) (hbase : base ≤ w.heap.size) :
    ∃ v' w', (Builtin.append_ #[t, u] ty #[v, .string s]).run P w = .ok v' w' ∧ w'.ownsRow base e 1 v' (n + s.size) (xs ++ Lib.strCells s) ∧ w.grownBy w' v.ownBlock ∧
      (v'.ownBlock = v.ownBlock ∨ v'.ownBlock = some w.heap.size) := by
  obtain ⟨v', w', hr, h2, h3, h4⟩ := Lib.run_append_own_string (P := P) w base t u ty e i ht hu hi hz hsize hby v n xs hown s h63 hbytes hbase
  refine ⟨v', w', hr, h2, h3, ?_⟩
  have hxl : xs.length = n := by simpa using hown.1
  rcases hown.2 with ⟨rfl, rfl⟩ | ⟨g, cap, cur, rfl, hbg, hg, hnc, hcm, hcs, htake⟩
  · by_cases hm : s.size = 0
    · rw [h4.2 ⟨rfl, hm⟩]; exact .inl rfl
    · have hr' := run_append_nil_string (P := P) w t u ty e i (.int .u8 0) ht hu hi hz s (by omega) (by unfold maxLen at h63; omega) (by rw [hby]; omega)
      rw [hr] at hr'
      injection hr' with e1 e2
      rw [e1]; exact .inr rfl
  · by_cases hroom : n + s.size ≤ cap
    · have hcs' : cur.size = cap := by simpa using hcs
      have hr' := Lib.run_append_room_string (P := P) w t u ty e i ht hu hi hsize g n cap cur hg s hroom (by omega)
      rw [hr] at hr'
      injection hr' with e1 e2
      rw [e1]; exact .inl rfl
    · have holds : ∀ j u, xs[j]? = some u → w.cell? ((⟨g, 0, none⟩ : Addr).add j) = some u := hown.cells (g := g) rfl
      have hr' := Lib.run_append_grow_string (P := P) w t u ty e i (.int .u8 0) ht hu hi hz ⟨g, 0, none⟩ n cap xs (by rw [hsize]; simpa using hxl) holds s (by omega) (by unfold maxLen at h63; omega) (by rw [hby]; exact growslice_fits (by omega) (by omega))
      rw [hr] at hr'
      injection hr' with e1 e2
      rw [e1]; exact .inr rfl
end

/-- The slice v owns the bytes xs, in a block from base on. -/
def Row (base : Nat) (w : World) (v : Value) (xs : List UInt8) : Prop := w.ownsRow base 5 1 v xs.length (cb xs)

def maxB : Nat := 1099511627776

/-- 'append(b, s...)', s a string. -/
theorem append_text {ops : Array Oper} {rest : List Oper} {o : Oper} {a : Act} {Q : Exit → Act → World → Prop} {w : World} (hgd : o.guard = none) (sl x : Operand)
    (ho : o.op = .call { callee := .builtin .append, args := #[sl, x], argTypes := #[26, 9] })
    (base : Nat) (v : Value) (xs : List UInt8) (hs : a.eval sl = v) (hown : Row base w v xs) (s : ByteArray) (hx : a.eval x = .string s)
    (hb : xs.length + s.size ≤ maxB) (hbase : base ≤ w.heap.size)
    (h : ∀ v' w', Row base w' v' (xs ++ s.data.toList) → Grew w w' v v' → wpList Try.prog ops Q rest (a.put o.dst v') w') : wpList Try.prog ops Q (o :: rest) a w := by
  obtain ⟨i5, hi5, hz5, hs5, hb5⟩ := info_parts info5
  unfold maxB at hb
  refine wpList_plain hgd fun K hK => ?_
  obtain ⟨v', w', hr, h2, h3, h4⟩ := run_append_own_string_at (P := Try.prog) w base 26 9 o.type 5 i5 Try.underlying26 Try.underlying9 hi5 hz5 hs5 hb5 v _ _ hown s (by unfold maxLen; omega) (by omega) hbase
  unfold Oper.wp execOp
  simp only [ho, resolve, invoke, builtin, Sem.run_bind, Sem.run_pure, Result.andThen_ok, List.map_toArray, List.map_cons, List.map_nil, hs, hx, hr]
  refine hK _ _ (h v' w' ?_ ⟨h3, ?_⟩)
  · unfold Row; rw [cb_append, List.length_append]
    exact h2
  · rcases h4 with e | e
    · exact .inl e
    · exact .inr ⟨_, e, Nat.le_refl _⟩

/-- 'append(b, c)': the byte lies in the block that was just laid. -/
theorem append_one {ops : Array Oper} {rest : List Oper} {o : Oper} {a : Act} {Q : Exit → Act → World → Prop} {w : World} (hgd : o.guard = none) (sl x : Operand)
    (ho : o.op = .call { callee := .builtin .append, args := #[sl, x], argTypes := #[26, 26] })
    (base : Nat) (v : Value) (xs : List UInt8) (hs : a.eval sl = v) (hown : Row base w v xs) (c : UInt8) (z : Int) (hz : z = c.toNat) (ad : Addr) (had : ad = ⟨w.heap.size, 0, none⟩)
    (hx : a.eval x = .slice (some ad) 1 1)
    (hb : xs.length + 1 ≤ maxB) (hbase : base ≤ w.heap.size)
    (h : ∀ v' w', Row base w' v' (xs ++ [c]) → Grew w w' v v' → wpList Try.prog ops Q rest (a.put o.dst v') w') : wpList Try.prog ops Q (o :: rest) a (w.alloc (.cells #[.int .u8 z] 5)) := by
  obtain ⟨i5, hi5, hz5, hs5, hb5⟩ := info_parts info5
  unfold maxB at hb
  subst had hz
  refine wpList_append_own_at _ hgd sl x 26 ho base 5 i5 _ 1 1 Try.underlying26 hi5 hz5 hs5 hb5 rfl (by decide) v _ _ hs (World.ownsRow.alloc hown _) _ 1 1 [.int .u8 c.toNat] hx rfl (cell_one_new _ _ _) (by intro u hu; simp only [List.mem_cons, List.not_mem_nil, or_false] at hu; subst hu; rfl) (by unfold maxLen; omega) (by omega) (by simp; omega) ?_
  intro v' w' h2 h3 _ h4
  refine h v' w' ?_ (Grew.alloc (.cells #[.int .u8 c.toNat] 5) ⟨h3, ?_⟩)
  · unfold Row; rw [cb_append, List.length_append]
    exact h2
  · rcases h4 with e | e
    · exact .inl e
    · exact .inr ⟨_, e, Nat.le_refl _⟩

/-- 'append(b, c...)', c another owned slice, perhaps nil. -/
theorem append_row {ops : Array Oper} {rest : List Oper} {o : Oper} {a : Act} {Q : Exit → Act → World → Prop} {w : World} (hgd : o.guard = none) (sl x : Operand)
    (ho : o.op = .call { callee := .builtin .append, args := #[sl, x], argTypes := #[26, 26] })
    (base : Nat) (v : Value) (xs : List UInt8) (hs : a.eval sl = v) (hown : Row base w v xs)
    (base' : Nat) (u : Value) (ys : List UInt8) (hx : a.eval x = u) (hown' : Row base' w u ys)
    (hb : xs.length + ys.length ≤ maxB) (hbase : base ≤ w.heap.size)
    (h : ∀ v' w', Row base w' v' (xs ++ ys) → Grew w w' v v' → wpList Try.prog ops Q rest (a.put o.dst v') w') : wpList Try.prog ops Q (o :: rest) a w := by
  obtain ⟨i5, hi5, hz5, hs5, hb5⟩ := info_parts info5
  unfold maxB at hb
  rcases hown'.2 with ⟨rfl, hn⟩ | ⟨g, cap, cur, rfl, hbg, hg, hnc, hcm, hcs, htake⟩
  · have hy : ys = [] := List.eq_nil_of_length_eq_zero hn
    subst hy
    refine wpList_append_own_none hgd sl x 26 ho base 5 i5 1 Try.underlying26 hi5 v _ _ hs hown hx ?_
    exact h v w (by rw [List.append_nil]; exact hown) (Grew.refl w v)
  · refine wpList_append_own_at _ hgd sl x 26 ho base 5 i5 _ 1 1 Try.underlying26 hi5 hz5 hs5 hb5 rfl (by decide) v _ _ hs hown _ ys.length cap (cb ys) hx (by rw [cb_length, Nat.mul_one]) (World.ownsRow.cells hown' (g := g) rfl) (cb_one ys) (by unfold maxLen; omega) (by omega) hbase ?_
    intro v' w' h2 h3 _ h4
    refine h v' w' ?_ ⟨h3, ?_⟩
    · unfold Row; rw [cb_append, List.length_append]
      exact h2
    · rcases h4 with e | e
      · exact .inl e
      · exact .inr ⟨_, e, Nat.le_refl _⟩

end Go.Proofs.Qxb6627826a
