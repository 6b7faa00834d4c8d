/- WALKS OF SEAT b6627747a, 8: zzInsert. -/
import Derived.Test.Qxb6627747aWalks7
namespace Go.Proofs.Qxb6627747a
open Go.ChangeShapes Go.WideShapes Go.ChangeAt Go.RowKit

def ins (vals : List (List Int)) (p : Nat) (x : List Int) : List (List Int) := vals.take p ++ x :: vals.drop p
theorem ins_length (vals : List (List Int)) (p : Nat) (x : List Int) (hp : p ≤ vals.length) : (ins vals p x).length = vals.length + 1 := by
  simp [ins]; omega
theorem ins_before (vals : List (List Int)) (p : Nat) (x : List Int) (j : Nat) (hj : j < p) (hp : p ≤ vals.length) : (ins vals p x)[j]? = vals[j]? := by
  unfold ins
  rw [List.getElem?_append_left (by simp; omega), List.getElem?_take_of_lt hj]
theorem ins_at (vals : List (List Int)) (p : Nat) (x : List Int) (hp : p ≤ vals.length) : (ins vals p x)[p]? = some x := by
  unfold ins
  have e : (vals.take p).length = p := by simp; omega
  rw [List.getElem?_append_right (by omega), e]
  simp
theorem ins_behind (vals : List (List Int)) (p : Nat) (x : List Int) (j : Nat) (hj : p ≤ j) (hp : p ≤ vals.length) : (ins vals p x)[j + 1]? = vals[j]? := by
  unfold ins
  have e : (vals.take p).length = p := by simp; omega
  rw [List.getElem?_append_right (by omega), e]
  have e2 : j + 1 - p = (j - p) + 1 := by omega
  rw [e2, List.getElem?_cons_succ, List.getElem?_drop]
  congr 1; omega
theorem ins_contains (vals : List (List Int)) (p : Nat) (x : List Int) : (ins vals p x).contains x = true := by
  simp [ins]
theorem ins_48 (vals : List (List Int)) (p : Nat) (x : List Int) (h : ∀ y ∈ vals, y.length = 48) (hx : x.length = 48) : ∀ y ∈ ins vals p x, y.length = 48 := by
  intro y hy
  simp only [ins, List.mem_append, List.mem_cons] at hy
  rcases hy with hy | rfl | hy
  · exact h y (List.mem_of_mem_take hy)
  · exact hx
  · exact h y (List.mem_of_mem_drop hy)

theorem wpList_make25 (w : World) {ops : Array Oper} {rest : List Oper} {o : Oper} {a : Act} {Q : Exit → Act → World → Prop} (hg : o.guard = none) (l c : Operand) (hop : o.op = Op.makeSlice 25 l c) (n : Nat) (hn : n ≤ 65536)
    (hl : a.eval l = .int .i64 n) (hc : a.eval c = .int .i64 n)
    (hK : ∀ C : Array Value, C.size = n * 48 → wpList Try.prog ops Q rest (a.put o.dst (.slice (some ⟨w.heap.size, 0, none⟩) n n)) (w.alloc (.cells C 23))) :
    wpList Try.prog ops Q (o :: rest) a w := by
  refine wpList_plain hg fun K hK' => ?_
  have hinfo : ∃ i, Try.prog.info? 23 = some i ∧ i.zero = some (.agg zeros48) ∧ i.size = 48 ∧ i.bytes = 48 := by
    have h : (Try.prog.info? 23).map (fun i => (i.zero, i.size, i.bytes)) = some (some (.agg zeros48), 48, 48) := by kernel_rfl
    cases hq : Try.prog.info? 23 with
    | none => simp [hq] at h
    | some i => simp [hq] at h; exact ⟨i, rfl, h⟩
  obtain ⟨i, hi, hz, hs, hb⟩ := hinfo
  have hrun := run_make (P := Try.prog) w 25 23 i (.agg zeros48) Try.underlying25 hi hz .i64 .i64 n n (by omega) (by omega) (by rw [hb]; omega) (by omega)
  unfold Oper.wp
  simp only [execOp, hop, hl, hc, Sem.run_bind, hrun, Result.andThen_ok, Sem.run_pure]
  have := hK (madeCells (Value.agg zeros48).cells ((n : Int).toNat * i.size)) (by rw [size_madeCells, hs]; simp)
  exact hK' _ _ this

/-- What zzInsert's loops know of the world: g: the block of the new slice. -/
def Mid9 (w wr : World) (x : List Int) (N K : Nat) (L : List (List Int)) : Prop :=
  Below w.heap.size w wr ∧ wr.rangeAt w.heap.size 0 (bs x) ∧ wr.there (w.heap.size + 1) 0 (N * 48) ∧ ∀ j y, j < K → L[j]? = some y → wr.rangeAt (w.heap.size + 1) (j * 48) (bs y)

theorem there_sub {w : World} {b n : Nat} (h : w.there b 0 n) (o k : Nat) (hk : o + k ≤ n) : w.there b o k := fun j hj => by
  have := h (o + j) (by omega)
  simpa using this

theorem Mid9.store {w wr : World} {x : List Int} {N K : Nat} {L : List (List Int)} (h : Mid9 w wr x N K L) (hN : K < N) (y : List Int) (hy : L[K]? = some y) (hyl : y.length = 48) (hL : ∀ z ∈ L, z.length = 48) :
    Mid9 w (wr.setCells (w.heap.size + 1) (K * 48) (bs y)) x N (K + 1) L := by
  obtain ⟨h1, h2, h3, h4⟩ := h
  have hth : wr.there (w.heap.size + 1) (K * 48) (bs y).length := there_sub h3 (K * 48) _ (by rw [bs_length, hyl]; omega)
  refine ⟨below_setCells h1 _ (by omega) _ _, World.rangeAt_setCells_apart h2 _ _ _ (.inl (by omega)), World.there_setCells h3 _ _ _, fun j z hj hz => ?_⟩
  by_cases e : j = K
  · subst e
    rw [hy] at hz
    cases hz
    exact World.rangeAt_setCells_same _ _ _ _ hth
  · refine World.rangeAt_setCells_apart (h4 j z (by omega) hz) _ _ _ (.inr (.inl ?_))
    rw [bs_length, hL z (List.mem_of_getElem? hz)]
    omega

theorem Mid9.there {w wr : World} {x : List Int} {N K : Nat} {L : List (List Int)} (h : Mid9 w wr x N K L) (hN : K < N) (y : List Int) (hyl : y.length = 48) : wr.there (w.heap.size + 1) (K * 48) (bs y).toArray.size := by
  refine there_sub h.2.2.1 (K * 48) _ ?_
  rw [List.size_toArray, bs_length, hyl]; omega

set_option maxHeartbeats 2000000 in
theorem insert_any (v : Value) (vals : List (List Int)) (p : Nat) (x : List Int) (w : World) (hv : SliceAt w v vals) (hx : x.length = 48) (hp : p ≤ vals.length) (hmax : vals.length ≤ 4096) :
    Calls Try.prog 9 #[v, .int .i64 p, .agg (bs x).toArray] w fun e w' => ∃ a l c, e = .returned (.slice a l c) ∧ SliceAt w' (.slice a l c) (ins vals p x) ∧ Below w.heap.size w w' := by
  obtain ⟨a, cap, rfl, _, h48, hcells⟩ := hv
  have hil := ins_length vals p x hp
  have hi48 := ins_48 vals p x h48 hx
  have HIL : Hid _ := hil
  clear hil
  go_enter Try.func9, Try.ntmps9
  go_wp2_with (at_make; refine wpList_make25 _ rfl _ _ rfl (vals.length + 1) (by omega) rfl rfl ?_)
  intro C hC
  have hmid0 : Mid9 w ((w.alloc (.cells (bs x).toArray 23)).alloc (.cells C 23)) x (vals.length + 1) 0 (ins vals p x) := by
    refine ⟨((Below.refl _ _).alloc (Nat.le_refl _) _).alloc (by rw [size_alloc]; omega) _, World.rangeAt_alloc (rangeAt_new w (bs x) 23) _, ?_, fun j y hj => by omega⟩
    have h := there_new (w.alloc (.cells (bs x).toArray 23)) C 23
    rwa [size_alloc, hC] at h
  clear hC
  generalize ((w.alloc (.cells (bs x).toArray 23)).alloc (.cells C 23)) = W0 at hmid0 ⊢
  try go_frame
  go_wp2
  go_loopw [8] (fun i wr => ∃ k : Nat, k ≤ p ∧ i = .int .i64 k ∧ Mid9 w wr x (vals.length + 1) k (ins vals p x)) (fun i _ => p - (intOf i).toNat)
  case atStart => exact ⟨0, Nat.zero_le _, rfl, hmid0⟩
  case round =>
    obtain ⟨k, hk, rfl, hmid⟩ := hrel
    clear hmid0
    by_cases hlt : k < p
    · have hlt' : (k : Int) < (p : Int) := by omega
      have hkl : k < vals.length := by omega
      have hkl1 : (k : Int) < (vals.length : Int) := by omega
      have hkl2 : (k : Int) < ((vals.length + 1 : Nat) : Int) := by omega
      obtain ⟨b, off, rfl, hr⟩ := hcells (by omega)
      have hk48 : vals[k].length = 48 := h48 _ (List.getElem_mem _)
      have hrw := hr k vals[k] (List.getElem?_eq_getElem hkl)
      have hrk : wr.rangeAt b (off + k * 48) (bs vals[k]) := rangeAt_below hrw hmid.1 (rangeAt_lt hrw (by rw [bs_length, hk48]; omega))
      have hmid1 := hmid.store (by omega) vals[k] (by rw [ins_before vals p x k hlt hp]; exact List.getElem?_eq_getElem hkl) hk48 hi48
      have hth := hmid.there (K := k) (by omega) vals[k] hk48
      clear hcells hr
      go_wp2_with (first | (refine wpList_load_mid rfl 23 _ rfl b (off + k * 48) rfl (bs vals[k]) _ hrk Try.underlying23 rfl (info23l _ hk48) ?_) | (refine wpList_store_mid rfl 23 _ _ rfl (w.heap.size + 1) (k * 48) (bs vals[k]).toArray rfl rfl hth (info23a _ hk48) (bs_oneCell _) ?_))
      go_roundw
      case rel => exact ⟨k + 1, by omega, by go_num, hmid1⟩
      case measure => simp [intOf]; omega
    · have hkp : k = p := by omega
      subst hkp
      have hpl : (k : Int) < ((vals.length + 1 : Nat) : Int) := by omega
      have hpl' : (k : Int) < (vals.length : Int) + 1 := by omega
      have hmid1 := hmid.store (by omega) x (ins_at vals k x hp) hx hi48
      have hth := hmid.there (K := k) (by omega) x hx
      have hbx := hmid.2.1
      have hnlt : ¬ ((k : Int) < (k : Int)) := by omega
      go_wp2_with (first | (refine wpList_load_mid rfl 23 _ rfl w.heap.size 0 rfl (bs x) _ hbx Try.underlying23 rfl (info23l _ hx) ?_) | (refine wpList_store_mid rfl 23 _ _ rfl (w.heap.size + 1) (k * 48) (bs x).toArray rfl rfl hth (info23a _ hx) (bs_oneCell _) ?_))
      clear hbx hth hmid
      generalize (wr.setCells (w.heap.size + 1) (k * 48) (bs x)) = W1 at hmid1 ⊢
      go_loopw [9] (fun i wr => ∃ q : Nat, k ≤ q ∧ q ≤ vals.length ∧ i = .int .i64 q ∧ Mid9 w wr x (vals.length + 1) (q + 1) (ins vals k x)) (fun i _ => vals.length - (intOf i).toNat)
      case atStart => exact ⟨k, Nat.le_refl _, hp, rfl, hmid1⟩
      case round =>
        obtain ⟨q, hkq, hq, rfl, hmid⟩ := hrel
        clear hmid1
        by_cases hlt2 : q < vals.length
        · have hq1 : (q : Int) < (vals.length : Int) := by omega
          have hq2 : (q : Int) + 1 < ((vals.length + 1 : Nat) : Int) := by omega
          have hq3 : (q : Int) + 1 < (vals.length : Int) + 1 := by omega
          have eq1 : ((q : Int) + 1).toNat = q + 1 := by omega
          obtain ⟨b, off, rfl, hr⟩ := hcells (by omega)
          have hk48 : vals[q].length = 48 := h48 _ (List.getElem_mem _)
          have hrw := hr q vals[q] (List.getElem?_eq_getElem hlt2)
          have hrk : wr.rangeAt b (off + q * 48) (bs vals[q]) := rangeAt_below hrw hmid.1 (rangeAt_lt hrw (by rw [bs_length, hk48]; omega))
          have hmid1 := hmid.store (by omega) vals[q] (by rw [ins_behind vals k x q hkq hp]; exact List.getElem?_eq_getElem hlt2) hk48 hi48
          have hth := hmid.there (K := q + 1) (by omega) vals[q] hk48
          clear hcells hr
          go_wp2_with (first | (refine wpList_load_mid rfl 23 _ rfl b (off + q * 48) rfl (bs vals[q]) _ hrk Try.underlying23 rfl (info23l _ hk48) ?_) | (refine wpList_store_mid rfl 23 _ _ rfl (w.heap.size + 1) ((q + 1) * 48) (bs vals[q]).toArray rfl rfl hth (info23a _ hk48) (bs_oneCell _) ?_))
          go_roundw
          case rel => exact ⟨q + 1, by omega, by omega, by go_num, hmid1⟩
          case measure => simp [intOf]; omega
        · have hqe : q = vals.length := by omega
          subst hqe
          go_wp2
          go_ret
          refine ⟨_, _, _, rfl, ?_, hmid.1⟩
          refine ⟨_, _, by rw [HIL.out], by rw [HIL.out]; omega, hi48, fun _ => ⟨w.heap.size + 1, 0, rfl, fun j y hj => ?_⟩⟩
          rw [Nat.zero_add]
          refine hmid.2.2.2 j y ?_ hj
          have := (List.getElem?_eq_some_iff.1 hj).1
          rw [HIL.out] at this
          exact this

end Go.Proofs.Qxb6627747a
