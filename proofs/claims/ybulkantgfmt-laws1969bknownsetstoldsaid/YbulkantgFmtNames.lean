/-
  DERIVED. kindNames: a range over the iterator; its body calls (Kind).String and appends, in one region that draws its order.
-/
import Derived.Test.YbulkantgFmtIter
namespace Go.Proofs.YbulkantgFmt
open Go.RowKit Go.Shelf
attribute [local go_sem] Oper.semAt_some

theorem wide_fn (f : FuncId) : Fence.wide.fn f = True := rfl
theorem wide_depth : Fence.wide.depth = none := rfl
theorem wideIn_fn (l : Nat) (f : FuncId) : (Fence.wide.inRound l).fn f = True := rfl
theorem wideIn_depth (l : Nat) : (Fence.wide.inRound l).depth = none := rfl
attribute [local go_sem] wide_fn wide_depth wideIn_fn wideIn_depth

theorem info9 : (Ybaf.prog.info? 9).map (fun i => (i.zero, i.size, i.bytes)) = some (some (.string ByteArray.empty), 1, 16) := by kernel_rfl

/-- append onto a row of the call's own, as one step of a region that draws, inside a fence. -/
theorem stepIn_append_own {F : Fence} {n : Nat} {P : Program} {w : World} {ops : Array Oper} {o : Oper} {a : Act} {K : Act → World → Prop} {Q : Exit → Act → World → Prop} {E : Prop}
    (hg : o.guard = none) (s x : Operand) (t : TypeId) (hop : o.op = Op.call { callee := Callee.builtin Builtin.append, args := #[s, x], argTypes := #[t, t] })
    (base : Nat) (e : TypeId) (i : TypeInfo) (z : Value) (size bytes : Nat) (h1 : P.underlying t = some (.slice e)) (h2 : P.info? e = some i) (h3 : i.zero = some z) (h4 : i.size = size) (h5 : i.bytes = bytes) (h6 : z.cells.size = size) (h7 : 0 < size)
    (v : Value) (k : Nat) (xs : List Value) (hs : a.eval s = v) (hown : w.ownsRow base e size v k xs) (ad : Addr) (m c : Nat) (news : List Value) (hx : a.eval x = .slice (some ad) m c) (hn : news.length = m * size)
    (hc : ∀ j u, news[j]? = some u → w.cell? (ad.add j) = some u) (h1c : ∀ u ∈ news, u.oneCell' = true) (b1 : k + m ≤ maxLen) (b2 : (k + m) * bytes ≤ 140737488355328) (b3 : base ≤ w.heap.size)
    (hK : ∀ v' w', w'.ownsRow base e size v' (k + m) (xs ++ news) → w.grownBy w' v.ownBlock → K (a.put o.dst v') w') :
    if Region.wanted o (yielded ops a.tmps) = true then Oper.wpIn F n P o a w K Q else E := by
  have hw : Region.wanted o (yielded ops a.tmps) = true := by simp [Region.wanted, hg]
  rw [if_pos hw]
  obtain ⟨v', w', hrun, r1, r2, r3⟩ := run_append_own (P := P) w base t o.type e i z size bytes h1 h2 h3 h4 h5 h6 h7 v k xs hown ad m c news hn hc h1c b1 b2 b3
  unfold Oper.wpIn
  refine ⟨?_, ?_⟩
  · simp [Oper.about, hop, resolve, Target.leads, Sem.run_pure]
  · rw [Oper.semAt_plain F _ _ (by rw [hop]; intro c hc'; cases hc')]
    simp [execOp, hop, resolve, invoke, builtin, hs, hx, hrun, Result.andThen]
    exact hK v' w' r1 r2

/-- A post that no panic meets. -/
def noPanic (Q : Exit → Act → World → Prop) : Exit → Act → World → Prop
  | .panic _, _, _ => False
  | .normal, a, w => Q .normal a w
  | e, a, w => Q e a w
theorem noPanic_le {Q : Exit → Act → World → Prop} : ∀ e a w, noPanic Q e a w → Q e a w
  | .panic _, _, _, h => h.elim
  | .normal, _, _, h => h
  | .ret, _, _, h => h
  | .exit _, _, _, h => h
  | .goto _, _, _, h => h
  | .outgrown, _, _, h => h

theorem nameOf_size (k : Nat) : (nameOf k).size ≤ 16 := by
  unfold nameOf
  split
  · have h0 : (⟨(Lib.decDigits 0).toArray⟩ : ByteArray).size = 1 := by decide +kernel
    simp only [ByteArray.size_append, h0]; decide
  all_goals decide

theorem joinTail_len (sep : List UInt8) : ∀ r : List (List UInt8), (∀ x ∈ r, x.length ≤ 16) → (Lib.joinTail sep r).length ≤ r.length * (16 + sep.length)
  | [], _ => by simp [Lib.joinTail]
  | x :: r, h => by
    have ih := joinTail_len sep r (fun y hy => h y (by simp [hy]))
    have hx := h x (by simp)
    simp only [Lib.joinTail, List.map_cons, List.flatten_cons, List.length_append, List.length_cons] at ih ⊢
    rw [Nat.add_mul]
    omega
theorem join_len (sep : List UInt8) (r : List (List UInt8)) (h : ∀ x ∈ r, x.length ≤ 16) : (Lib.join r sep).length ≤ r.length * (16 + sep.length) := by
  match r with
  | [] => simp [Lib.join_nil]
  | x :: r =>
    have hx := h x (by simp)
    have ih := joinTail_len sep r (fun y hy => h y (by simp [hy]))
    rw [Lib.join_cons, List.length_append, List.length_cons, Nat.add_mul]
    omega

/-- strings.Join over at most seven names. -/
theorem join_names (g cap m : Nat) (nm : Nat → ByteArray) (w : World) (hc : ∀ j, j < m → w.cell? ⟨g, j, none⟩ = some (.string (nm j))) (hs : ∀ j, (nm j).size ≤ 16) (hm : m ≤ 7) (hcap : m ≤ cap) (hg : g < w.heap.size) :
    Calls Ybaf.prog 12 #[.slice (some ⟨g, 0, none⟩) m cap, .string ⟨#[44, 32]⟩] w fun e w' => ∃ t : ByteArray, e = .returned (.string t) ∧ t.size ≤ 1000 ∧ Below w.heap.size w w' := by
  have hlen : (Lib.join (((List.range m).map nm).map (·.data.toList)) [44, 32]).length ≤ 1000 := by
    refine Nat.le_trans (join_len _ _ ?_) ?_
    · intro x hx
      obtain ⟨b, hb, rfl⟩ := List.mem_map.1 hx
      obtain ⟨j, _, rfl⟩ := List.mem_map.1 hb
      have := hs j
      exact this
    · simp only [List.length_map, List.length_range, List.length_cons, List.length_nil]; omega
  have h := Ybaf.strings_Join g 0 cap ((List.range m).map nm) ⟨#[44, 32]⟩ w (fun j x hx => by
      have hjl : j < m := by have := (List.getElem?_eq_some_iff.1 hx).1; simpa using this
      rw [Nat.zero_add, hc j hjl]
      simp [hjl] at hx
      rw [hx]) hg (by simp only [List.length_map, List.length_range]; omega) (by simpa using hcap) (Nat.le_trans hlen (by omega))
  simp only [List.length_map, List.length_range] at h
  exact h.mono fun e w' ⟨he, hb⟩ => ⟨_, he, by simpa [ByteArray.size] using hlen, hb⟩

/-- what a round of kindNames finds and leaves -/
def Names (n₀ : Nat) (w : World) (s : Int) (pre : List K6) (W : World) : Prop :=
  (∃ v, Boxed W n₀ 35 v ∧ W.ownsRow n₀ 9 1 v pre.length (pre.map fun x => Value.string (nameOf x.1)) ∧ True) ∧ Boxed W (n₀ + 1) 27 (.int .u32 s) ∧ Below n₀ w W

/-- Behind a round's append and store. -/
theorem names_step {n₀ : Nat} {w W w1 : World} {s : Int} {pre : List K6} {x : K6} {v v' : Value} {tmp : Obj} (hv : Boxed W n₀ 35 v) (hrow : W.ownsRow n₀ 9 1 v pre.length (pre.map fun x => Value.string (nameOf x.1)))
    (hbx : Boxed W (n₀ + 1) 27 (.int .u32 s)) (hB : Below n₀ w W) (hn : n₀ ≤ w.heap.size) (hown' : w1.ownsRow n₀ 9 1 v' (pre.length + 1) ((pre.map fun x => Value.string (nameOf x.1)) ++ [.string (nameOf x.1)])) (hgrow : (W.alloc tmp).grownBy w1 v.ownBlock) :
    Boxed w1 n₀ 35 v ∧ KeepsOthers W (w1.setCell ⟨n₀, 0, none⟩ v') ∧ KeepsBox (n₀ + 1) W (w1.setCell ⟨n₀, 0, none⟩ v') ∧ Names n₀ w s (pre ++ [x]) (w1.setCell ⟨n₀, 0, none⟩ v') := by
  obtain ⟨hv1, hv2, hr2, hk2, hb2⟩ := hv.appended (by decide) hrow (Nat.le_trans hn hB.size) (Nat.le_refl _) hown' hgrow
  have hx1 : Boxed w1 (n₀ + 1) 27 (.int .u32 s) := (hbx.alloc tmp).kept hgrow (hbx.not_row (by decide) hrow)
  have hx2 : Boxed (w1.setCell ⟨n₀, 0, none⟩ v') (n₀ + 1) 27 (.int .u32 s) := (Below.heap_setCell _ _ _ _ (by simp)).trans hx1
  refine ⟨hv1, hk2, hx2.cell.trans hbx.cell.symm, ⟨v', hv2, ?_, trivial⟩, hx2, hB.trans hb2⟩
  simpa using hr2

set_option maxRecDepth 100000 in
set_option maxHeartbeats 2000000 in
theorem kindNames_in (n : Nat) (hn : 4 ≤ n) (s : Int) (w : World) (hl : Laid w) (hne : kindsTo s 7 ≠ []) :
    CallsIn Fence.wide n Ybaf.prog 7 #[.int .u32 s] w fun e w' => ∃ t, e = .returned (.string t) ∧ Below w.heap.size w w' := by
  have h1 : 1 ≤ n := by omega
  obtain ⟨i0, hi, hz0, hz1, hz2⟩ := info_parts info9
  have HL := hide hl
  have HN := hide hne
  clear hl hne
  refine callsIn_of_wp_marks Ybaf.func7 rfl trivial ?_ rfl
  simp only [Ybaf.ntmps7, List.size_toArray, List.length_cons, List.length_nil, Nat.reduceAdd, Nat.reduceSub, Array.replicate_succ, Array.replicate_zero, List.push_toArray, List.append_toArray, List.nil_append, List.cons_append]
  gi_wp2_with (gi_at_call 11; refine (all_in Fence.wide (n - 1) (fun _ => trivial) rfl _ _).mono ?_; rintro e w' ⟨rfl, rfl⟩)
  have bO := Boxed.new w 35 (.slice none 0 0)
  have bN := Boxed.new (w.alloc (.cells #[.slice none 0 0] 35)) 27 (.int .u32 s)
  rw [World.size_alloc] at bN
  have hB0 : Below w.heap.size w ((w.alloc (.cells #[.slice none 0 0] 35)).alloc (.cells #[.int .u32 s] 27)) := ((Below.refl _ w).alloc (Nat.le_refl _) _).alloc (by simp) _
  refine wpIn_rangeFunc_ownG rfl h1 (gf := 15) (lb := #[.pointer (some ⟨w.heap.size + 1, 0, none⟩)]) rfl trivial (enters_of Ybaf.func15 (by kernel_rfl) rfl)
    (all_stops Fence.wide rfl (fun _ => trivial) rfl (n - 1) (by omega) (w.heap.size + 1) s _ (by simp) bN.cell) keepsBox_t (keepsBox_b (by simp)) (Below.refl _ _) (fun _ => rfl)
    (Names w.heap.size w s) (fun _ _ _ => False)
    (OwnFrom.and (Own.from (holdsRow_own w.heap.size w.heap.size 35 9 1 (fun pre : List K6 => pre.length) (fun pre => pre.map fun x => Value.string (nameOf x.1)) (fun _ _ => True)) _) (OwnFrom.and (Own.from (boxed_own _ _ _) _) (ownFrom_below (Nat.le_refl _) (by simp; omega))))
    (fun _ _ _ _ _ hs _ _ => hs)
    ⟨⟨_, bO.alloc _, World.ownsRow_nil _ _ _ _, trivial⟩, bN, hB0⟩
    (fun x => { tmps := #[.int .u32 s, undef, .string ⟨#[]⟩, .pointer (some ⟨w.heap.size, 0, none⟩), .int .u8 x.1, undef, .int .u32 s, .func (.func 15) #[] #[.pointer (some ⟨w.heap.size + 1, 0, none⟩)], .int .u8 x.1, undef, undef, undef, undef, undef, undef, undef, undef, undef, undef, undef, undef, undef, undef, undef, undef, undef, undef, undef, undef, undef, undef, undef], defers := [] }) ?assign ?body ?done ?stop
  case assign =>
    intro l x W K hK
    gi_wp2
    exact hK
  case body =>
    rintro l pre x W ⟨⟨v, hv, hrow, -⟩, hbx, hB⟩ hlt
    obtain ⟨xk, hxk⟩ := x
    have hmx : Ybaf.prog.follows .mixedOrders = true := by kernel_rfl
    have hc := hv.cell
    have hlt2 : w.heap.size < W.heap.size := hv.lt
    have hst : ∀ W', Below w.heap.size w W' → CallsIn Fence.wide (n - 1 - 1 - 1) Ybaf.prog 10 #[.int .u8 xk] W' fun e w' => e = .returned (.string (nameOf xk)) ∧ w' = W' := fun W' hb =>
      callsIn_wide.2 (string_low xk hxk W' (HL.out.below hb).kinds)
    gi_wp2
    refine wpIn_region_any (by assumption) ?_
    change wpAnyIn _ _ _ _ _ _ _ _ _ (World.drew _)
    have hBx : Below w.heap.size w W.drew := hB.drew
    refine wpAnyIn_ready (rs := [0, 1]) (by kernel_rfl) (by simp) (AllReadyIn.cons rfl (fun K hK => ?_) (AllReadyIn.cons rfl (fun K hK => ?_) AllReadyIn.nil))
    · go_simp; refine hK _ _ ?_; clear hK K
      refine wpAnyIn_ready (rs := [1]) (by kernel_rfl) (by simp) (AllReadyIn.cons rfl (fun K hK => ?_) AllReadyIn.nil)
      go_simp; refine hK _ _ ?_; clear hK K
      refine wpAnyIn_ready (rs := [2]) (by kernel_rfl) (by simp) (AllReadyIn.cons rfl (fun K hK => ?_) AllReadyIn.nil)
      go_simp; refine (CallsIn.inRound l (hst _ (by exact hBx))).mono ?_; rintro e w' ⟨rfl, rfl⟩; refine hK _ _ ?_; clear hK K
      refine wpAnyIn_ready (rs := [3]) (by kernel_rfl) (by simp) (AllReadyIn.cons rfl (fun K hK => ?_) AllReadyIn.nil)
      go_simp; refine hK _ _ ?_; clear hK K
      refine wpAnyIn_ready (rs := [4]) (by kernel_rfl) (by simp) (AllReadyIn.cons rfl (fun K hK => ?_) AllReadyIn.nil)
      refine stepIn_append_own (by rfl) _ _ 35 (by rfl) w.heap.size 9 i0 (.string ByteArray.empty) 1 16 Ybaf.underlying35 hi hz0 hz1 hz2 rfl (by decide) v pre.length _ (by rfl) ((hrow.drew).alloc _) ⟨W.heap.size, 0, none⟩ 1 1 [.string (nameOf xk)] (by rfl) rfl (cell_one_new _ _ _) (by simp [Value.oneCell']) (by unfold maxLen; omega) (by omega) (by have := hB.size; simp; omega) ?_
      intro v' w1 hown' hgrow
      refine hK _ _ ?_
      clear hK K
      obtain ⟨g', cap', rfl⟩ := ownsRow_succ hown'
      have fin := names_step (x := ⟨xk, hxk⟩) (tmp := .cells #[.string (nameOf xk)] 9) hv hrow hbx hB (Nat.le_refl _) hown' ⟨hgrow.os, hgrow.tape, hgrow.output, hgrow.size, hgrow.block⟩
      have hc1 := fin.1.cell
      have hf1 := fin.1.frozen
      have FIN := hide fin
      clear fin
      refine wpAnyIn_ready (rs := [5]) (by kernel_rfl) (by simp) (AllReadyIn.cons rfl (fun K hK => ?_) AllReadyIn.nil)
      go_simp; refine hK _ _ ?_; clear hK K
      refine wpAnyIn_done (by kernel_rfl) ?_ _
      exact ⟨FIN.out.2.1.from _, FIN.out.2.2.1, FIN.out.2.2.2⟩
    · go_simp; refine hK _ _ ?_; clear hK K
      refine wpAnyIn_ready (rs := [0, 2]) (by kernel_rfl) (by simp) (AllReadyIn.cons rfl (fun K hK => ?_) (AllReadyIn.cons rfl (fun K hK => ?_) AllReadyIn.nil))
      · go_simp; refine hK _ _ ?_; clear hK K
        refine wpAnyIn_ready (rs := [2]) (by kernel_rfl) (by simp) (AllReadyIn.cons rfl (fun K hK => ?_) AllReadyIn.nil)
        go_simp; refine (CallsIn.inRound l (hst _ (by exact hBx))).mono ?_; rintro e w' ⟨rfl, rfl⟩; refine hK _ _ ?_; clear hK K
        refine wpAnyIn_ready (rs := [3]) (by kernel_rfl) (by simp) (AllReadyIn.cons rfl (fun K hK => ?_) AllReadyIn.nil)
        go_simp; refine hK _ _ ?_; clear hK K
        refine wpAnyIn_ready (rs := [4]) (by kernel_rfl) (by simp) (AllReadyIn.cons rfl (fun K hK => ?_) AllReadyIn.nil)
        refine stepIn_append_own (by rfl) _ _ 35 (by rfl) w.heap.size 9 i0 (.string ByteArray.empty) 1 16 Ybaf.underlying35 hi hz0 hz1 hz2 rfl (by decide) v pre.length _ (by rfl) ((hrow.drew).alloc _) ⟨W.heap.size, 0, none⟩ 1 1 [.string (nameOf xk)] (by rfl) rfl (cell_one_new _ _ _) (by simp [Value.oneCell']) (by unfold maxLen; omega) (by omega) (by have := hB.size; simp; omega) ?_
        intro v' w1 hown' hgrow
        refine hK _ _ ?_
        clear hK K
        obtain ⟨g', cap', rfl⟩ := ownsRow_succ hown'
        have fin := names_step (x := ⟨xk, hxk⟩) (tmp := .cells #[.string (nameOf xk)] 9) hv hrow hbx hB (Nat.le_refl _) hown' ⟨hgrow.os, hgrow.tape, hgrow.output, hgrow.size, hgrow.block⟩
        have hc1 := fin.1.cell
        have hf1 := fin.1.frozen
        have FIN := hide fin
        clear fin
        refine wpAnyIn_ready (rs := [5]) (by kernel_rfl) (by simp) (AllReadyIn.cons rfl (fun K hK => ?_) AllReadyIn.nil)
        go_simp; refine hK _ _ ?_; clear hK K
        refine wpAnyIn_done (by kernel_rfl) ?_ _
        exact ⟨FIN.out.2.1.from _, FIN.out.2.2.1, FIN.out.2.2.2⟩
      · go_simp; refine (CallsIn.inRound l (hst _ (by exact hBx))).mono ?_; rintro e w' ⟨rfl, rfl⟩; refine hK _ _ ?_; clear hK K
        refine wpAnyIn_ready (rs := [0, 3]) (by kernel_rfl) (by simp) (AllReadyIn.cons rfl (fun K hK => ?_) (AllReadyIn.cons rfl (fun K hK => ?_) AllReadyIn.nil))
        · go_simp; refine hK _ _ ?_; clear hK K
          refine wpAnyIn_ready (rs := [3]) (by kernel_rfl) (by simp) (AllReadyIn.cons rfl (fun K hK => ?_) AllReadyIn.nil)
          go_simp; refine hK _ _ ?_; clear hK K
          refine wpAnyIn_ready (rs := [4]) (by kernel_rfl) (by simp) (AllReadyIn.cons rfl (fun K hK => ?_) AllReadyIn.nil)
          refine stepIn_append_own (by rfl) _ _ 35 (by rfl) w.heap.size 9 i0 (.string ByteArray.empty) 1 16 Ybaf.underlying35 hi hz0 hz1 hz2 rfl (by decide) v pre.length _ (by rfl) ((hrow.drew).alloc _) ⟨W.heap.size, 0, none⟩ 1 1 [.string (nameOf xk)] (by rfl) rfl (cell_one_new _ _ _) (by simp [Value.oneCell']) (by unfold maxLen; omega) (by omega) (by have := hB.size; simp; omega) ?_
          intro v' w1 hown' hgrow
          refine hK _ _ ?_
          clear hK K
          obtain ⟨g', cap', rfl⟩ := ownsRow_succ hown'
          have fin := names_step (x := ⟨xk, hxk⟩) (tmp := .cells #[.string (nameOf xk)] 9) hv hrow hbx hB (Nat.le_refl _) hown' ⟨hgrow.os, hgrow.tape, hgrow.output, hgrow.size, hgrow.block⟩
          have hc1 := fin.1.cell
          have hf1 := fin.1.frozen
          have FIN := hide fin
          clear fin
          refine wpAnyIn_ready (rs := [5]) (by kernel_rfl) (by simp) (AllReadyIn.cons rfl (fun K hK => ?_) AllReadyIn.nil)
          go_simp; refine hK _ _ ?_; clear hK K
          refine wpAnyIn_done (by kernel_rfl) ?_ _
          exact ⟨FIN.out.2.1.from _, FIN.out.2.2.1, FIN.out.2.2.2⟩
        · go_simp; refine hK _ _ ?_; clear hK K
          refine wpAnyIn_ready (rs := [0]) (by kernel_rfl) (by simp) (AllReadyIn.cons rfl (fun K hK => ?_) AllReadyIn.nil)
          go_simp; refine hK _ _ ?_; clear hK K
          refine wpAnyIn_ready (rs := [4]) (by kernel_rfl) (by simp) (AllReadyIn.cons rfl (fun K hK => ?_) AllReadyIn.nil)
          refine stepIn_append_own (by rfl) _ _ 35 (by rfl) w.heap.size 9 i0 (.string ByteArray.empty) 1 16 Ybaf.underlying35 hi hz0 hz1 hz2 rfl (by decide) v pre.length _ (by rfl) ((hrow.drew).alloc _) ⟨W.heap.size, 0, none⟩ 1 1 [.string (nameOf xk)] (by rfl) rfl (cell_one_new _ _ _) (by simp [Value.oneCell']) (by unfold maxLen; omega) (by omega) (by have := hB.size; simp; omega) ?_
          intro v' w1 hown' hgrow
          refine hK _ _ ?_
          clear hK K
          obtain ⟨g', cap', rfl⟩ := ownsRow_succ hown'
          have fin := names_step (x := ⟨xk, hxk⟩) (tmp := .cells #[.string (nameOf xk)] 9) hv hrow hbx hB (Nat.le_refl _) hown' ⟨hgrow.os, hgrow.tape, hgrow.output, hgrow.size, hgrow.block⟩
          have hc1 := fin.1.cell
          have hf1 := fin.1.frozen
          have FIN := hide fin
          clear fin
          refine wpAnyIn_ready (rs := [5]) (by kernel_rfl) (by simp) (AllReadyIn.cons rfl (fun K hK => ?_) AllReadyIn.nil)
          go_simp; refine hK _ _ ?_; clear hK K
          refine wpAnyIn_done (by kernel_rfl) ?_ _
          exact ⟨FIN.out.2.1.from _, FIN.out.2.2.1, FIN.out.2.2.2⟩
  case done =>
    rintro D ys W hD rfl ⟨⟨v, hv, hrow, -⟩, hbx, hB⟩ hK
    obtain ⟨ys, hys⟩ : ∃ ys, kindsTo s 7 = ys := ⟨_, rfl⟩
    have hl7 := kindsTo_len s 7
    have hne := HN.out
    rw [hys] at hrow hl7 hne
    obtain ⟨m, hm⟩ : ∃ m, ys.length = m + 1 := ⟨ys.length - 1, by have := List.length_pos_iff.2 hne; omega⟩
    rw [hm] at hrow
    obtain ⟨g, cap, rfl⟩ := ownsRow_succ hrow
    have hc := hv.cell
    have hglt := (hrow.lt g rfl).2
    have hcap : m + 1 ≤ cap := by
      rcases hrow.2 with ⟨h, _⟩ | ⟨g', cap', cur', h, _, _, hle, _⟩
      · cases h
      · simp only [Value.slice.injEq, Option.some.injEq, Addr.mk.injEq] at h; omega
    obtain ⟨nm, hcj, hsz⟩ : ∃ nm : Nat → ByteArray, (∀ j, j < m + 1 → W.cell? ⟨g, j, none⟩ = some (.string (nm j))) ∧ ∀ j, (nm j).size ≤ 16 := by
      refine ⟨fun j => nameOf (ys.getD j ⟨0, by omega⟩).1, fun j hj => ?_, fun j => nameOf_size _⟩
      have := hrow.cells (g := g) rfl j (.string (nameOf (ys.getD j ⟨0, by omega⟩).1)) (by
        rw [List.getElem?_map, List.getElem?_eq_getElem (by omega)]
        simp [List.getD, show j < ys.length by omega])
      rwa [Addr.add_lit, Nat.zero_add] at this
    clear hrow hbx
    have hm6 : m ≤ 6 := by omega
    by_cases hm0 : m = 0
    · subst hm0
      have c0 := hcj 0 (by omega)
      clear hcj
      gi_wp2
      refine ⟨by simp, .inl ⟨_, _, rfl, run_takeDeferred hK, ?_⟩⟩
      exact ⟨_, results_tmp rfl _ _ _, _, rfl, hB.trans (belowK_b (w := w) (Nat.le_refl _) W D _ _ (by simp at hD; omega) hK rfl rfl)⟩
    · have hmx : Ybaf.prog.follows .mixedOrders = true := by kernel_rfl
      have cm := hcj m (by omega)
      have hszm := hsz m
      have hcj2 := hide (fun j (h : j < m) => hcj j (by omega))
      have hsz2 := hide hsz
      have hk2 := hide hK
      clear hcj hsz
      have hbz := hB.size
      have hbl : w.heap.size < W.heap.size := hv.lt
      have hmi : (0 : Int) ≤ (m : Int) := by omega
      have hmc : (m : Int) ≤ (cap : Int) := by omega
      have hml : (m : Int) < (m : Int) + 1 := by omega
      gi_wp2
      refine wpIn_mono (Q := noPanic _) ?_ noPanic_le
      gi_region_with_o (gi_at_call 12; refine (callsIn_wide.2 (join_names g cap m nm _ (by exact hcj2.out) hsz2.out (by omega) (by omega) (by simpa using hglt))).mono ?_; rintro e w' ⟨t, rfl, ht, hb⟩; have hc9 := (hb.cell (p := ⟨w.heap.size, 0, none⟩) hbl).trans hc; have cm9 := (hb.cell (p := ⟨g, m, none⟩) hglt).trans cm)
      all_goals simp only [noPanic]
      all_goals
        have hK9 := (hb.block D (Array.getElem?_eq_some_iff.1 hk2.out).1).trans hk2.out
        have hb9 : Below w.heap.size W w' := ⟨hb.os, hb.tape, hb.output, hb.size, fun k hk => hb.block k (Nat.lt_trans hk hbl)⟩
        have H9 := hide hK9
        clear hK9 hK hv hc9 cm9 hc cm
        gi_wp2
        refine ⟨by simp, .inl ⟨_, _, rfl, run_takeDeferred H9.out, ?_⟩⟩
        exact ⟨_, results_tmp rfl _ _ _, _, rfl, (hB.trans hb9).trans (belowK_b (w := w) (Nat.le_refl _) w' D _ _ (by simp at hD; omega) H9.out rfl rfl)⟩
  case stop =>
    rintro D c pre W _ _ h _
    exact h.elim

theorem kindNames_any (s : Int) (w : World) (hl : Laid w) (hne : kindsTo s 7 ≠ []) :
    Calls Ybaf.prog 7 #[.int .u32 s] w fun e w' => ∃ t, e = .returned (.string t) ∧ Below w.heap.size w w' :=
  (callsIn_wide (n := 9)).1 (kindNames_in 9 (by omega) s w hl hne)
end Go.Proofs.YbulkantgFmt
