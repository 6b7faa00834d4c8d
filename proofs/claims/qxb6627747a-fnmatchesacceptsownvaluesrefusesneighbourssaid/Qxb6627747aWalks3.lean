/- WALKS OF SEAT b6627747a, 3: (*Measurement).matches. -/
import Derived.Test.Qxb6627747aWalks2
namespace Go.Proofs.Qxb6627747a
open Go.ChangeShapes Go.WideShapes Go.ChangeAt Go.RowKit
open Go.Maps (Keyed)

/-- How a slice in the map is told in the proof: by itself. -/
def tok : Value → Option (DataW Value × List MemPlace)
  | .slice a n c => some (.held (.slice a n c), [])
  | _ => none

theorem law3 : Keyed Try.prog 3 := Maps.int_keyed Try.underlying3

def regOff (r : Nat) : Nat := if r = 0 then 136 else 328 + (r - 1) * 48

theorem ownsMap_below {w w' : World} {bm n B : Nat} {D : DataW Value} (h : w.ownsMap Try.prog 3 tok bm n D) (hb : Below B w w') (hB : bm < B) : w'.ownsMap Try.prog 3 tok bm n D := by
  obtain ⟨es, clock, h1, r⟩ := h
  exact ⟨es, clock, (hb.block bm hB).trans h1, r⟩

theorem sliceAt_below {w w' : World} {v : Value} {vals : List (List Int)} (h : SliceAt w v vals) (hb : Below w.heap.size w w') : SliceAt w' v vals := by
  obtain ⟨a, cap, hv, hmax, h48, hc⟩ := h
  refine ⟨a, cap, hv, hmax, h48, fun h0 => ?_⟩
  obtain ⟨b, off, ha, hr⟩ := hc h0
  refine ⟨b, off, ha, fun j x hj => rangeAt_below (hr j x hj) hb (rangeAt_lt (hr j x hj) ?_)⟩
  rw [bs_length, h48 x (List.mem_of_getElem? hj)]; omega

/-- One step of the range over the map. -/
theorem wpList_next_tok (w : World) {ops : Array Oper} {rest : List Oper} {o : Oper} {a : Act} {Q : Exit → Act → World → Prop} (hg : o.guard = none) (it : Operand) (hop : o.op = Op.next it false)
    (b r n : Nat) (D : DataW Value) (left : Lit → Bool) (cnt : Nat) (hit : a.eval it = .pointer (some ⟨r, 0, none⟩)) (h : w.ranges Try.prog 3 tok b r n D left cnt)
    (hDone : (∀ kl, left kl = false) → wpList Try.prog ops Q rest (a.put o.dst (.tuple #[.bool false])) w)
    (hMore : ∀ (x : Int) (av : Option Addr) (len cap : Nat) (w' : World) (cnt' : Nat), left (.int .i64 x) = true → (∀ zd, D.atKey (.int .i64 x) zd = .held (.slice av len cap)) → w'.ranges Try.prog 3 tok b r n D (fun z => left z && !z.sameKey (.int .i64 x)) cnt' → cnt' < cnt →
      w.grownBy w' (some r) → w'.heap.size = w.heap.size → (Instr.entry (.pointer (some ⟨r, 0, none⟩))).run Try.prog w' = .ok (.tuple #[.int .i64 x, .slice av len cap]) w' → wpList Try.prog ops Q rest (a.put o.dst (.tuple #[.bool true, .int .i64 x, .slice av len cap])) w') :
    wpList Try.prog ops Q (o :: rest) a w :=
  wpList_next_ranges (α := Int) (β := Option Addr × Nat × Nat) w hg it hop 3 law3 tok (Value.int .i64) (fun c => .slice c.1 c.2.1 c.2.2) (fun key kl hkey => by obtain ⟨x, rfl, _⟩ := Maps.keyOf_int_inv Try.underlying3 hkey; exact ⟨x, rfl⟩)
    (fun v y hv => by cases v <;> simp [tok] at hv; exact ⟨(_, _, _), rfl⟩)
    b r n D left cnt hit h (fun _ => hDone) (fun x c kl y w' cnt' hkey hlk hv hat hrg hlt hgr hsz hen => by
      obtain ⟨x', ex, rfl, hwx⟩ := Maps.keyOf_int_inv Try.underlying3 hkey
      cases ex
      simp [tok] at hv
      refine hMore x c.1 c.2.1 c.2.2 w' cnt' hlk (fun zd => ?_) hrg hlt hgr hsz hen
      rw [hat zd, ← hv])

theorem below_grown {B : Nat} {a w w' : World} {r : Nat} (h : Below B a w) (hg : w.grownBy w' (some r)) (hB : B ≤ w.heap.size) (hr : B ≤ r) : Below B a w' :=
  h.grown hg hB (fun k hk => by cases hk; exact hr)

theorem cell_grown {w w' : World} {r b o : Nat} (hg : w.grownBy w' (some r)) (hb : b < w.heap.size) (hne : b ≠ r) : w'.cell? ⟨b, o, none⟩ = w.cell? ⟨b, o, none⟩ :=
  World.cell?_of_block (w := w) (hg.block b hb (fun e => hne (by cases e; rfl)))

/-- What the loop over the map knows of the world. -/
def Mid (w wr : World) (pb : Nat) (bm n : Nat) (D : DataW Value) (left : Lit → Bool) (cnt : Nat) : Prop :=
  wr.ranges Try.prog 3 tok bm (w.heap.size + 1) n D left cnt ∧ Below w.heap.size w wr ∧ (∀ r, r < 5 → wr.cell? ⟨w.heap.size, r, none⟩ = some (.pointer (some ⟨pb, regOff r, none⟩)))

theorem Mid.below {w wr w' : World} {pb bm n : Nat} {D : DataW Value} {left : Lit → Bool} {cnt : Nat} (h : Mid w wr pb bm n D left cnt) (hb : Below wr.heap.size wr w') : Mid w w' pb bm n D left cnt := by
  obtain ⟨h1, h2, h3⟩ := h
  have hbm := h1.owns.lt
  have hr := h1.lt
  refine ⟨?_, h2.trans (hb.mono h2.size), fun r hr5 => ?_⟩
  · obtain ⟨es, clock, since, seen, c0, hb1, F, hs, hD, hr1, rest⟩ := h1
    exact ⟨es, clock, since, seen, c0, (hb.block bm hbm).trans hb1, F, hs, hD, (hb.block _ hr).trans hr1, rest⟩
  · rw [hb.cell (p := ⟨w.heap.size, r, none⟩) (block_lt_of_cell (h3 r hr5))]
    exact h3 r hr5

theorem Mid.step {w wr w' : World} {pb bm n : Nat} {D : DataW Value} {left left' : Lit → Bool} {cnt cnt' : Nat} (h : Mid w wr pb bm n D left cnt) (hrg : w'.ranges Try.prog 3 tok bm (w.heap.size + 1) n D left' cnt') (hg : wr.grownBy w' (some (w.heap.size + 1))) : Mid w w' pb bm n D left' cnt' := by
  obtain ⟨h1, h2, h3⟩ := h
  refine ⟨hrg, below_grown h2 hg h2.size (by omega), fun r hr5 => ?_⟩
  rw [cell_grown hg (block_lt_of_cell (h3 r hr5)) (Nat.ne_of_lt (Nat.lt_succ_self _))]
  exact h3 r hr5

/-- 'contains', behind a name that the walk does not open. -/
def hasB (vals : List (List Int)) (x : List Int) : Bool := vals.contains x

set_option maxHeartbeats 2000000 in
theorem matches_map (pm pb bm n : Nat) (et at_ : ByteArray) (D : DataW Value) (V : Int → List (List Int)) (m rt : List Int) (res : Bool) (w : World)
    (hc1 : w.cell? ⟨pm, 1, none⟩ = some (.string et)) (hc2 : w.cell? ⟨pm, 2, none⟩ = some (.map (some bm))) (hown : w.ownsMap Try.prog 3 tok bm n D)
    (hV : ∀ k v, D.atKey (.int .i64 k) .nil = .held v → SliceAt w v (V k)) (hm : m.length = 48) (hrt : rt.length = 192)
    (hreg : ∀ r, r < 5 → w.rangeAt pb (regOff r) (bs (regOf m rt r)))
    (hres : res = true ↔ (et.toList == at_.toList) = true ∧ ∀ k : Int, Maps.has D (.int .i64 k) = true → 0 ≤ k ∧ k < 5 ∧ (V k).contains (regOf m rt k.toNat) = true) :
    Calls Try.prog 12 #[.pointer (some ⟨pm, 0, none⟩), .string at_, .pointer (some ⟨pb, 0, none⟩)] w fun e w' => e = .returned (.bool res) ∧ Below w.heap.size w w' := by
  have hbm := hown.lt
  have HR := hres
  have hpm : pm < w.heap.size := block_lt_of_cell hc1
  replace HR : Hid _ := HR
  clear hres
  cases hE : (et.toList == at_.toList)
  · have hf : res = false := by
      cases hres : res
      · rfl
      · have := (HR.out.1 hres).1; rw [hE] at this; cases this
    subst hf
    clear HR
    go_enter Try.func12, Try.ntmps12
    go_wp2
    go_ret
    exact ⟨rfl, Below.refl _ _⟩
  · go_enter Try.func12, Try.ntmps12
    go_wp2
    go_region
    go_wp2_with (at_range; refine wpList_range_own _ rfl _ 22 rfl 3 25 law3 Try.underlying22 tok bm n D rfl ?_ ?_)
    · exact ownsMap_below hown (((Below.refl _ _).alloc (Nat.le_refl _) _).drew) hbm
    intro w0 hrg0 hg0 hs0
    have hmid0 : Mid w w0 pb bm n D (Maps.has D) (Maps.size D) := by
      refine ⟨hrg0, (((Below.refl _ _).alloc (Nat.le_refl _) _).drew).grown hg0 (by show _ ≤ (World.alloc _ _).heap.size; rw [size_alloc]; omega) (fun k hk => by cases hk), fun r hr => ?_⟩
      rw [World.cell?_of_block (w := (w.alloc _).drew) (hg0.block w.heap.size (by show _ < (World.alloc _ _).heap.size; rw [size_alloc]; omega) (by simp))]
      show (w.alloc _).cell? _ = _
      rw [cell_of_row _ _ _ _ 47 (0, 0) (heap_alloc_new w _)]
      match r, hr with
      | 0, _ => rfl
      | 1, _ => rfl
      | 2, _ => rfl
      | 3, _ => rfl
      | 4, _ => rfl
    clear hrg0 hg0 hs0
    try go_frame
    go_wp2
    go_loopw [8] (fun _ wr => ∃ left cnt, Mid w wr pb bm n D left cnt ∧ ∀ k : Int, Maps.has D (.int .i64 k) = true → left (.int .i64 k) = false → 0 ≤ k ∧ k < 5 ∧ (V k).contains (regOf m rt k.toNat) = true) (fun _ wr => wr.rangeLeft bm (w.heap.size + 1))
    case atStart => exact ⟨_, _, hmid0, fun k h1 h2 => by rw [h1] at h2; cases h2⟩
    case round =>
      obtain ⟨left, cnt, hmid, hgood⟩ := hrel
      clear hmid0
      have HG : Hid _ := hgood
      clear hgood
      go_wp2_with (at_next; refine wpList_next_tok _ rfl _ rfl bm (w.heap.size + 1) n D left cnt rfl hmid.1 ?_ ?_)
      · intro hnone
        have ht : res = true := HR.out.2 ⟨hE, fun k hk => HG.out k hk (hnone _)⟩
        subst ht
        clear hnone HR HG
        try go_frame
        go_wp2
        go_ret
        exact ⟨rfl, hmid.2.1⟩
      · intro x av len cap w1 cnt1 hlx hat hrg1 hlt1 hg1 hs1 hen
        have hmid1 := hmid.step hrg1 hg1
        have hhas : Maps.has D (.int .i64 x) = true := Maps.has_true_of_atKey hat
        have hsl := hV x _ (hat .nil)
        have HM : Hid (cnt1 < cnt) := hlt1
        have HC : Hid (wr.rangeLeft bm (w.heap.size + 1) = cnt) := hmid.1.left_eq
        have HL : Hid (left (.int .i64 x) = true) := hlx
        clear hrg1 hg1 hs1 hmid hlt1 hlx hat
        try go_frame
        by_cases hin : 0 ≤ x ∧ x < 5
        · obtain ⟨hx0, hx5⟩ := hin
          obtain ⟨r, rfl⟩ := Int.eq_ofNat_of_zero_le hx0
          have hr5 : r < 5 := by omega
          have hn1 : ¬ ((r : Int) < 0) := by omega
          have hn2 : ¬ (5 ≤ (r : Int)) := by omega
          have hregr := hreg r hr5
          have hreglen := regOf_length m rt r hm hrt hr5
          have HV : Hid ((V (r : Int)).contains (regOf m rt ((r : Int)).toNat) = (V (r : Int)).contains (regOf m rt r)) := by simp [Hid]
          generalize hvals : V (r : Int) = vals at hsl HV
          generalize hrv : regOf m rt r = rv at hregr hreglen HV
          have HVals : Hid (V (r : Int) = vals) := hvals
          have HRv : Hid (regOf m rt r = rv) := hrv
          clear hvals hrv
          obtain ⟨a, cap', hve, hmax, h48, hcells⟩ := hsl
          simp only [Value.slice.injEq] at hve
          obtain ⟨rfl, rfl, rfl⟩ := hve
          go_wp2
          go_loopw [10, 57] (fun h i wr => ∃ k : Nat, k ≤ vals.length ∧ i = .int .i64 k ∧ h = .bool (hasB (vals.take k) rv) ∧ Mid w wr pb bm n D (fun z => left z && !z.sameKey (.int .i64 (r : Int))) cnt1) (fun _ i _ => vals.length - (intOf i).toNat)
          case atStart => exact ⟨0, Nat.zero_le _, rfl, rfl, hmid1⟩
          case round =>
            obtain ⟨k, hk, rfl, rfl, hmid2⟩ := hrel
            by_cases hlt : k < vals.length
            · have hlt' : (k : Int) < (vals.length : Int) := by omega
              obtain ⟨b, off, rfl, hr⟩ := hcells (by omega)
              have hk48 : vals[k].length = 48 := h48 _ (List.getElem_mem _)
              have hrw := hr k vals[k] (List.getElem?_eq_getElem hlt)
              have hrk : wr.rangeAt b (off + k * 48) (bs vals[k]) := rangeAt_below hrw hmid2.2.1 (rangeAt_lt hrw (by rw [bs_length, hk48]; omega))
              have hra : (wr.alloc (.cells zeros48 23)).rangeAt b (off + k * 48) (bs vals[k]) := World.rangeAt_alloc hrk _
              have hth : (wr.alloc (.cells zeros48 23)).there wr.heap.size 0 (bs vals[k]).toArray.size := by
                have h := there_new wr zeros48 23
                rw [zeros48_size] at h
                have e : (bs vals[k]).toArray.size = 48 := by simp [bs_length, hk48]
                rw [e]; exact h
              have hb2 : Below wr.heap.size wr ((wr.alloc (.cells zeros48 23)).setCells wr.heap.size 0 (bs vals[k])) := below_setCells ((Below.refl _ _).alloc (Nat.le_refl _) _) _ (Nat.le_refl _) _ 0
              have hr2 : ((wr.alloc (.cells zeros48 23)).setCells wr.heap.size 0 (bs vals[k])).rangeAt wr.heap.size 0 (bs vals[k]) := World.rangeAt_setCells_same _ _ _ (bs vals[k]) (by simpa using hth)
              have HS : Hid (hasB (vals.take (k + 1)) rv = (hasB (vals.take k) rv || (vals[k] == rv))) := contains_snoc vals rv k hlt
              clear hcells hr
              cases hH : hasB (vals.take k) rv
              · go_wp2_with (first | (refine wpList_load_mid rfl 23 _ rfl b (off + k * 48) rfl (bs vals[k]) _ hrk Try.underlying23 rfl (info23l _ hk48) ?_) | (refine wpList_alloc_row rfl 23 rfl zeros48 48 zero23 ?_) | (refine wpList_store_mid rfl 23 _ _ rfl _ _ (bs vals[k]).toArray rfl rfl hth (info23a _ hk48) (bs_oneCell _) ?_))
                have hmid3 := hmid2.below hb2
                generalize ((wr.alloc (.cells zeros48 23)).setCells wr.heap.size 0 (bs vals[k])) = W2 at hb2 hr2 hmid3 ⊢
                have hcr := hmid3.2.2 r hr5
                have hreg2 : W2.rangeAt pb (regOff r) (bs rv) := rangeAt_below hregr hmid3.2.1 (rangeAt_lt hregr (by rw [bs_length, hreglen]; omega))
                try go_frame
                refine wp_region_quiet_lit (by kernel_rfl) (by kernel_rfl) ?_
                go_big_quiet_step (fail)
                go_big_quiet_step (fail)
                go_big_quiet_want
                refine quiet_load_mid 23 _ rfl wr.heap.size 0 rfl (bs vals[k]) _ (fun w' hw' => by obtain ⟨n, rfl⟩ := hw'; exact fun j v hj => hr2 j v hj) Try.underlying23 rfl (info23l _ hk48) ?_
                go_frame
                go_big_quiet_on
                go_big_quiet_step (fail)
                go_big_quiet_step (fail)
                go_big_quiet_step (fail)
                go_big_quiet_step (fail)
                go_big_quiet_want
                refine quiet_load_mid 23 _ rfl pb (regOff r) rfl (bs rv) _ (fun w' hw' => by obtain ⟨n, rfl⟩ := hw'; exact fun j v hj => hreg2 j v hj) Try.underlying23 rfl (info23l _ hreglen) ?_
                go_frame
                go_big_quiet_on
                go_big_quiet_want
                refine quiet_eql_bytes _ _ _ rfl vals[k] rv rfl rfl hk48 hreglen ?_
                go_frame
                go_big_quiet_on
                go_big_quiet_step (fail)
                go_big_quiet_step (fail)
                refine wpQuiet_nil ?_
                intro _ hw'
                obtain ⟨nq, hw''⟩ := hw'
                subst hw''
                go_wp2
                go_roundw
                case rel => exact ⟨k + 1, by omega, by go_num, by rw [HS.out, hH]; rfl, hmid3.below (below_drewN (Below.refl _ _) _)⟩
                case measure => simp [intOf]; omega
              · go_wp2_with (first | (refine wpList_load_mid rfl 23 _ rfl b (off + k * 48) rfl (bs vals[k]) _ hrk Try.underlying23 rfl (info23l _ hk48) ?_) | (refine wpList_alloc_row rfl 23 rfl zeros48 48 zero23 ?_) | (refine wpList_store_mid rfl 23 _ _ rfl _ _ (bs vals[k]).toArray rfl rfl hth (info23a _ hk48) (bs_oneCell _) ?_))
                have hmid3 := hmid2.below hb2
                generalize ((wr.alloc (.cells zeros48 23)).setCells wr.heap.size 0 (bs vals[k])) = W2 at hb2 hr2 hmid3 ⊢
                try go_frame
                go_quiet (fail)
                go_wp2
                go_roundw
                case rel => exact ⟨k + 1, by omega, by go_num, by rw [HS.out, hH]; rfl, hmid3.below (below_drewN (Below.refl _ _) _)⟩
                case measure => simp [intOf]; omega
            · have hkl : k = vals.length := by omega
              have HK : Hid (hasB (vals.take k) rv = vals.contains rv) := by rw [hkl, List.take_length]; rfl
              cases hH : hasB (vals.take k) rv
              · have hf : res = false := by
                  cases hres : res
                  · rfl
                  · have h1 := ((HR.out.1 hres).2 _ hhas).2.2
                    rw [HVals.out] at h1
                    rw [HV.out, ← HK.out, hH] at h1
                    cases h1
                subst hf
                clear HR HG HV HK
                go_wp2
                go_ret
                exact ⟨rfl, hmid2.2.1⟩
              · have hgk : 0 ≤ (r : Int) ∧ (r : Int) < 5 ∧ (V (r : Int)).contains (regOf m rt ((r : Int)).toNat) = true := by
                  refine ⟨hx0, hx5, ?_⟩
                  rw [HVals.out, HV.out, ← HK.out, hH]
                have HGK : Hid _ := hgk
                clear hgk HV HK
                go_wp2
                go_roundw
                case rel =>
                  refine ⟨_, _, hmid2, fun q hq hql => ?_⟩
                  by_cases hqr : q = (r : Int)
                  · subst hqr; exact HGK.out
                  · refine HG.out q hq ?_
                    have hs : (Lit.int IntKind.i64 q).sameKey (Lit.int IntKind.i64 (r : Int)) = false := by simp [Lit.sameKey, hqr]
                    simpa [hs] using hql
                case measure =>
                  rw [hmid2.1.left_eq, HC.out]; exact HM.out
        · have hf : res = false := by
            cases hres : res
            · rfl
            · have h1 := (HR.out.1 hres).2 _ hhas
              exact absurd ⟨h1.1, h1.2.1⟩ hin
          subst hf
          clear HR HG
          by_cases hx0 : x < 0
          · go_wp2
            go_ret
            exact ⟨rfl, hmid1.2.1⟩
          · have hx5 : 5 ≤ x := by omega
            clear hin
            go_wp2
            go_ret
            exact ⟨rfl, hmid1.2.1⟩

end Go.Proofs.Qxb6627747a
