import Derived.Test.YbulkanuiRows
import Derived.WalkKit
import Derived.ProofKit
import Derived.WalkSpells
import Derived.Below
import Derived.Laws.CopyOwn
import Derived.Laws.AppendOwnNone
import Derived.Maps.AppendAt
namespace Go.Proofs.Ybulkanui
open Go.RowKit

theorem Yba.info5 : (Yba.prog.info? 5).map (fun i => (i.zero, i.size, i.bytes)) = some (some (.int .u8 0), 1, 1) := by kernel_rfl

theorem clone_nil (w : World) : Calls Yba.prog 5 #[.slice none 0 0] w fun e w' => e = .returned (.slice none 0 0) ∧ w' = w := by
  have q22 : ∀ (w : World) (a : Option Addr) (n c n' c' : Nat), (binOp .eql 22 (.slice a n c) (.slice none n' c')).run Yba.prog w = .ok (.bool a.isNone) w := fun w a n c n' c' => Lib.run_eql_slice_nil w _ _ a n c n' c' Yba.underlying22
  go_enter Yba.func5, Yba.ntmps5
  go_wp2
  go_ret
  exact ⟨rfl, rfl⟩
end Go.Proofs.Ybulkanui
namespace Go.Proofs.Ybulkanui
open Go.RowKit
/-- 'make([]byte, n)': a new row of n noughts. -/
theorem make_bytes (n : Nat) (hn : n ≤ 1048576) (w : World) : (Instr.makeSlice 22 (.int .i64 (n : Int)) (.int .i64 (n : Int))).run Yba.prog w = .ok (.slice (some ⟨w.heap.size, 0, none⟩) n n) (w.alloc (.cells (madeCells #[.int .u8 0] n) 5)) := by
  obtain ⟨i0, hi, hz0, hz1, hz2⟩ := info_parts Yba.info5
  have := run_make (P := Yba.prog) w 22 5 i0 (.int .u8 0) Yba.underlying22 hi hz0 .i64 .i64 (n : Int) (n : Int) (by omega) (by omega) (by rw [hz2]; omega) (by omega)
  simpa [hz1, Value.cells] using this
theorem setRow_alloc_new (w : World) (old cs : Array Value) (t : TypeId) (fr : Nat × Nat) : (w.alloc (.cells old t fr)).setRow w.heap.size cs = w.alloc (.cells cs t fr) := by
  unfold World.setRow World.alloc
  congr 1
  apply Array.ext
  · simp
  · intro i h1 h2
    rw [Array.getElem_modify]
    simp only [Array.getElem_push]
    simp only [Array.size_push] at h2
    by_cases h : w.heap.size = i
    · subst h; simp
    · have : i < w.heap.size := by omega
      simp [h, this]
theorem add_block (x : Addr) (j : Nat) : (x.add j).block = x.block := by unfold Addr.add; split <;> rfl
theorem cell_add_alloc (w : World) (o : Obj) (x : Addr) (j : Nat) (hx : x.block < w.heap.size) : (w.alloc o).cell? (x.add j) = w.cell? (x.add j) :=
  ((Below.refl _ w).alloc (Nat.le_refl _) o).cell (p := x.add j) (by rw [add_block]; exact hx)
theorem clone_some (x : Addr) (len cap : Nat) (zs : List Int) (w : World) (hz : zs.length = len) (hl : len ≤ 1024)
    (hc : ∀ i, i < len → w.cell? (x.add i) = some (.int .u8 (zs.getD i 0))) (hx : x.block < w.heap.size) :
    Calls Yba.prog 5 #[.slice (some x) len cap] w fun e w' => e = .returned (.slice (some ⟨w.heap.size, 0, none⟩) len len) ∧ w' = w.alloc (.cells (zs.map (Value.int .u8)).toArray 5) := by
  have q22 : ∀ (w : World) (a : Option Addr) (n c n' c' : Nat), (binOp .eql 22 (.slice a n c) (.slice none n' c')).run Yba.prog w = .ok (.bool a.isNone) w := fun w a n c n' c' => Lib.run_eql_slice_nil w _ _ a n c n' c' Yba.underlying22
  have hmk := fun w => make_bytes len (by omega) w
  obtain ⟨i0, hi, hz0, hz1, hz2⟩ := info_parts Yba.info5
  have hcp : ∀ j v, (zs.map (Value.int .u8))[j]? = some v → (w.alloc (.cells (madeCells #[.int .u8 0] len) 5)).cell? (x.add j) = some v := by
    intro j v hj
    have hjl : j < len := by have := (List.getElem?_eq_some_iff.1 hj).1; simpa [hz] using this
    rw [cell_add_alloc w _ x j hx, hc j hjl]
    simpa [List.getD, show j < zs.length by omega] using hj
  go_enter Yba.func5, Yba.ntmps5
  go_wp2_with (refine wpList_copy_own (by rfl) _ _ 22 22 (by rfl) 5 Yba.underlying22 (by rw [hi]; simp [hz1]) w.heap.size 0 len len x len cap (by rfl) (by rfl) (madeCells #[.int .u8 0] len) 5 (heap_alloc_new w _) (zs.map (Value.int .u8)) (by simp [hz]) hcp (by simp [size_madeCells, hz]) (ints_oneCell _ _) ?_)
  go_ret
  refine ⟨rfl, ?_⟩
  rw [setRow_alloc_new]
  congr 2
  simp [size_madeCells]

/-- An empty slice that is not nil. -/
theorem clone_empty (x : Addr) (cap : Nat) (w : World) :
    Calls Yba.prog 5 #[.slice (some x) 0 cap] w fun e w' => e = .returned (.slice (some ⟨w.heap.size, 0, none⟩) 0 0) ∧ w' = w.alloc (.cells (([] : List Int).map (Value.int .u8)).toArray 5) := by
  have q22 : ∀ (w : World) (a : Option Addr) (n c n' c' : Nat), (binOp .eql 22 (.slice a n c) (.slice none n' c')).run Yba.prog w = .ok (.bool a.isNone) w := fun w a n c n' c' => Lib.run_eql_slice_nil w _ _ a n c n' c' Yba.underlying22
  have hmk : ∀ w : World, (Instr.makeSlice 22 (.int .i64 0) (.int .i64 0)).run Yba.prog w = .ok (.slice (some ⟨w.heap.size, 0, none⟩) 0 0) (w.alloc (.cells #[] 5)) := fun w => by
    have := make_bytes 0 (by omega) w
    have e : madeCells #[.int .u8 0] 0 = #[] := by simp [madeCells, Array.range_zero']
    rwa [e] at this
  obtain ⟨i0, hi, hz0, hz1, hz2⟩ := info_parts Yba.info5
  go_enter Yba.func5, Yba.ntmps5
  go_wp2_with (refine wpList_copy_nothing (by rfl) _ _ 22 22 (by rfl) 5 Yba.underlying22 (by rw [hi]; simp [hz1]) _ _ _ _ _ _ (by rfl) (by rfl) (by rfl) ?_)
  go_ret
  exact ⟨rfl, rfl⟩

/-- A block's cells, out of the block known whole. -/
theorem free_of_row {w : World} {b j : Nat} {cs : Array Value} {t : TypeId} (h : w.heap[b]? = some (.cells cs t (0, 0))) : w.frozen? ⟨b, j, none⟩ = false := by simp [World.frozen?, h]

/-- the queue's cells -/
def qRow (pre : ByteArray) (room : Int) (v : Value) (held dropped taken written : Int) : Array Value :=
  #[.nilIface, .string pre, .int .i64 room, .int .i32 0, .int .u32 0, v, .int .i64 held, .int .i64 dropped, .int .u64 taken, .int .u64 written, .slice none 0 0, .bool false, .chan none, .chan none]

/-- What 'take' leaves. -/
structure Took (w w' : World) (base b : Nat) (v : Value) (k : Nat) (xs : List Value) (pre : ByteArray) (room held taken written : Int) : Prop where
  own : ∃ v', w'.ownsRow base 5 1 v' k xs ∧ w'.heap[b]? = some (.cells (qRow pre room v' held 0 taken written) 38 (0, 0)) ∧ (v'.ownBlock = v.ownBlock ∨ v'.ownBlock = some w.heap.size)
  os : w'.os = w.os
  tape : w'.tape = w.tape
  output : w'.output = w.output
  size : w.heap.size ≤ w'.heap.size
  block : ∀ q, q < w.heap.size → q ≠ b → some q ≠ v.ownBlock → w'.heap[q]? = w.heap[q]?

theorem setCell_row {w : World} {b j : Nat} {cs : Array Value} {t : TypeId} (h : w.heap[b]? = some (.cells cs t (0, 0))) (u : Value) : (w.setCell ⟨b, j, none⟩ u).heap[b]? = some (.cells (cs.setIfInBounds j u) t (0, 0)) := by
  rw [setCell_eq_setRow w b j cs t (0, 0) u h]; exact setRow_heap w b cs _ t (0, 0) h

theorem took_of {w w1 : World} {base b : Nat} {v v' : Value} {k : Nat} {xs : List Value} {pre : ByteArray} {room held dropped taken written held' taken' : Int}
    (hvb : v.ownBlock ≠ some b) (hblt : b < w.heap.size) (hq : w1.heap[b]? = some (.cells (qRow pre room v held dropped taken written) 38 (0, 0))) (ho : w1.ownsRow base 5 1 v' k xs) (hg : w.grownBy w1 v.ownBlock)
    (ha : v'.ownBlock = v.ownBlock ∨ v'.ownBlock = some w.heap.size) :
    Took w ((((w1.setCell ⟨b, 5, none⟩ v').setCell ⟨b, 6, none⟩ (.int .i64 held')).setCell ⟨b, 8, none⟩ (.int .u64 taken')).setCell ⟨b, 7, none⟩ (.int .i64 0)) base b v k xs pre room held' taken' written := by
  have hne : v'.ownBlock ≠ some b := by
    rcases ha with h | h
    · rw [h]; exact hvb
    · rw [h]; simp; omega
  refine ⟨⟨v', ?_, ?_, ha⟩, hg.os, hg.tape, hg.output, ?_, ?_⟩
  · exact ownsRow_setCell_other (ownsRow_setCell_other (ownsRow_setCell_other (ownsRow_setCell_other ho hne _) hne _) hne _) hne _
  · exact setCell_row (setCell_row (setCell_row (setCell_row hq _) _) _) _
  · simpa [World.setCell] using hg.size
  · intro q hq1 hq2 hq3
    rw [Below.heap_setCell _ _ _ _ (by simpa using hq2), Below.heap_setCell _ _ _ _ (by simpa using hq2), Below.heap_setCell _ _ _ _ (by simpa using hq2), Below.heap_setCell _ _ _ _ (by simpa using hq2)]
    exact hg.block q hq1 hq3

set_option maxHeartbeats 400000 in
theorem take_some (base b : Nat) (pre : ByteArray) (room : Int) (v : Value) (held dropped taken written : Int) (n m c : Nat) (xs news : List Value) (ad : Addr) (w : World)
    (hq : w.heap[b]? = some (.cells (qRow pre room v held dropped taken written) 38 (0, 0))) (hown : w.ownsRow base 5 1 v n xs) (hvb : v.ownBlock ≠ some b)
    (hn : n ≤ 1048576) (hm : m ≤ 1024) (hl : news.length = m) (hnews : ∀ j u, news[j]? = some u → w.cell? (ad.add j) = some u) (h1 : ∀ u ∈ news, u.oneCell' = true) (hbase : base ≤ w.heap.size) :
    Calls Yba.prog 6 #[.pointer (some ⟨b, 0, none⟩), .slice (some ad) m c] w fun e w' => e = .returned (.tuple #[]) ∧ Took w w' base b v (n + m) (xs ++ news) pre room (wrap64 (held + m)) (IntKind.u64.wrap (taken + m)) written := by
  obtain ⟨i0, hi, hz0, hz1, hz2⟩ := info_parts Yba.info5
  have c5 : w.cell? ⟨b, 5, none⟩ = some v := by rw [cell_of_row w b 5 _ 38 (0, 0) hq]; rfl
  have hblt : b < w.heap.size := lt_of_block hq
  have HQ : Hid (w.heap[b]? = some (.cells (qRow pre room v held dropped taken written) 38 (0, 0))) := hq
  clear hq
  go_enter Yba.func6, Yba.ntmps6
  go_wp2_with (at_builtin; refine wpList_append_own_at _ rfl _ _ 22 rfl base 5 i0 (.int .u8 0) 1 1 Yba.underlying22 hi hz0 hz1 hz2 rfl (by decide) v n xs rfl hown ad m c news rfl (by omega) hnews h1 (by unfold maxLen; omega) (by omega) hbase ?_)
  intro v' w1 hown1 hgrow1 hnil1 hat1
  obtain ⟨ao, c', rfl⟩ : ∃ ao c', v' = .slice ao (n + m) c' := by
    rcases hown1.2 with ⟨h, h0⟩ | ⟨g, cap, _, h, _⟩
    · exact ⟨none, 0, by rw [h, h0]⟩
    · exact ⟨_, _, h⟩
  have hq1 : w1.heap[b]? = some (.cells (qRow pre room v held dropped taken written) 38 (0, 0)) := (hgrow1.block b hblt (fun e => hvb e.symm)).trans HQ.out
  have d5 : w1.cell? ⟨b, 5, none⟩ = some v := by rw [cell_of_row w1 b 5 _ 38 (0, 0) hq1]; rfl
  have d6 : w1.cell? ⟨b, 6, none⟩ = some (.int .i64 held) := by rw [cell_of_row w1 b 6 _ 38 (0, 0) hq1]; rfl
  have d7 : w1.cell? ⟨b, 7, none⟩ = some (.int .i64 dropped) := by rw [cell_of_row w1 b 7 _ 38 (0, 0) hq1]; rfl
  have d8 : w1.cell? ⟨b, 8, none⟩ = some (.int .u64 taken) := by rw [cell_of_row w1 b 8 _ 38 (0, 0) hq1]; rfl
  have f5 : w1.frozen? ⟨b, 5, none⟩ = false := free_of_row hq1
  have f6 : w1.frozen? ⟨b, 6, none⟩ = false := free_of_row hq1
  have f7 : w1.frozen? ⟨b, 7, none⟩ = false := free_of_row hq1
  have f8 : w1.frozen? ⟨b, 8, none⟩ = false := free_of_row hq1
  have HQ1 : Hid (w1.heap[b]? = some (.cells (qRow pre room v held dropped taken written) 38 (0, 0))) := hq1
  have HO : Hid (w1.ownsRow base 5 1 (.slice ao (n + m) c') (n + m) (xs ++ news)) := hown1
  have HG : Hid (w.grownBy w1 v.ownBlock) := hgrow1
  have HA : Hid ((Value.slice ao (n + m) c').ownBlock = v.ownBlock ∨ (Value.slice ao (n + m) c').ownBlock = some w.heap.size) := hat1
  clear hq1 hown1 hgrow1 hnil1 hat1
  go_wp2
  go_end0
  exact ⟨rfl, took_of hvb hblt HQ1.out HO.out HG.out HA.out⟩

theorem ownsRow_form {w : World} {base : Nat} {e : TypeId} {size : Nat} {v : Value} {n : Nat} {xs : List Value} (h : w.ownsRow base e size v n xs) : ∃ ao c, v = .slice ao n c := by
  rcases h.2 with ⟨h1, h0⟩ | ⟨g, cap, _, h1, _⟩
  · exact ⟨none, 0, by rw [h1, h0]⟩
  · exact ⟨_, _, h1⟩

set_option maxHeartbeats 400000 in
theorem take_none (base b : Nat) (pre : ByteArray) (room : Int) (v : Value) (held dropped taken written : Int) (n : Nat) (xs : List Value) (w : World)
    (hq : w.heap[b]? = some (.cells (qRow pre room v held dropped taken written) 38 (0, 0))) (hown : w.ownsRow base 5 1 v n xs) (hvb : v.ownBlock ≠ some b) :
    Calls Yba.prog 6 #[.pointer (some ⟨b, 0, none⟩), .slice none 0 0] w fun e w' => e = .returned (.tuple #[]) ∧ Took w w' base b v n xs pre room (wrap64 held) (IntKind.u64.wrap taken) written := by
  obtain ⟨i0, hi, hz0, hz1, hz2⟩ := info_parts Yba.info5
  have hblt : b < w.heap.size := lt_of_block hq
  obtain ⟨ao, c', rfl⟩ := ownsRow_form hown
  have d5 : w.cell? ⟨b, 5, none⟩ = some (.slice ao n c') := by rw [cell_of_row w b 5 _ 38 (0, 0) hq]; rfl
  have d6 : w.cell? ⟨b, 6, none⟩ = some (.int .i64 held) := by rw [cell_of_row w b 6 _ 38 (0, 0) hq]; rfl
  have d7 : w.cell? ⟨b, 7, none⟩ = some (.int .i64 dropped) := by rw [cell_of_row w b 7 _ 38 (0, 0) hq]; rfl
  have d8 : w.cell? ⟨b, 8, none⟩ = some (.int .u64 taken) := by rw [cell_of_row w b 8 _ 38 (0, 0) hq]; rfl
  have f5 : w.frozen? ⟨b, 5, none⟩ = false := free_of_row hq
  have f6 : w.frozen? ⟨b, 6, none⟩ = false := free_of_row hq
  have f7 : w.frozen? ⟨b, 7, none⟩ = false := free_of_row hq
  have f8 : w.frozen? ⟨b, 8, none⟩ = false := free_of_row hq
  have HQ : Hid (w.heap[b]? = some (.cells (qRow pre room (.slice ao n c') held dropped taken written) 38 (0, 0))) := hq
  clear hq
  go_enter Yba.func6, Yba.ntmps6
  go_wp2_with (at_builtin; refine wpList_append_own_none rfl _ _ 22 rfl base 5 i0 1 Yba.underlying22 hi (.slice ao n c') n xs rfl hown rfl ?_)
  go_end0
  exact ⟨rfl, took_of hvb hblt HQ.out hown (World.grownBy.refl _ _) (.inl rfl)⟩

/-- 'take' of whatever slice. -/
theorem take_any (base b : Nat) (pre : ByteArray) (room : Int) (v : Value) (held dropped taken written : Int) (n m c : Nat) (xs news : List Value) (ao : Option Addr) (w : World)
    (hq : w.heap[b]? = some (.cells (qRow pre room v held dropped taken written) 38 (0, 0))) (hown : w.ownsRow base 5 1 v n xs) (hvb : v.ownBlock ≠ some b)
    (hn : n ≤ 1048576) (hm : m ≤ 1024) (hl : news.length = m) (hnone : ao = none → m = 0 ∧ c = 0) (hnews : ∀ ad, ao = some ad → ∀ j u, news[j]? = some u → w.cell? (ad.add j) = some u) (h1 : ∀ u ∈ news, u.oneCell' = true) (hbase : base ≤ w.heap.size) :
    Calls Yba.prog 6 #[.pointer (some ⟨b, 0, none⟩), .slice ao m c] w fun e w' => e = .returned (.tuple #[]) ∧ Took w w' base b v (n + m) (xs ++ news) pre room (wrap64 (held + m)) (IntKind.u64.wrap (taken + m)) written := by
  cases ao with
  | some ad => exact take_some base b pre room v held dropped taken written n m c xs news ad w hq hown hvb hn hm hl (hnews ad rfl) h1 hbase
  | none =>
    obtain ⟨rfl, rfl⟩ := hnone rfl
    obtain rfl : news = [] := List.eq_nil_of_length_eq_zero hl
    have := take_none base b pre room v held dropped taken written n xs w hq hown hvb
    simpa using this
end Go.Proofs.Ybulkanui
