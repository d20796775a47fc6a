/-
  The small functions of FnFilled, each by a contract: laws.few, laws.same, errors.New, impl.filler, the two BlockSize, alias.SliceForAppend. Conditions: slices of bytes of at most 300 elements where one is made, block sizes from 1 to 32.
-/
import Derived.Test.YtcfkdmcalpoooaaRows
import Derived.WalkKit
import Derived.ProofKit
import Derived.WalkLawsBesides
import Derived.WalkSpells
import Derived.Below
import Derived.Lib.Hide
import Derived.Handy
import Derived.Deep.AppendSrc
import Derived.Laws.BytesArg
import Derived.Laws.AppendOwnNone
import Derived.Laws.CopyOwn
import Derived.Test.YtcfkdmcalpoooaaPlain
namespace Go.Proofs.Ytcfkdmcalpoooaa
open Go.RowKit

theorem ret_int {k : IntKind} {a b : Int} (h : a = b) : Ending.returned (.int k a) = .returned (.int k b) := by rw [h]

/-- bytes, as cells -/
def cellsOf (bs : List UInt8) : List Value := bs.map fun b => .int .u8 (b.toNat : Int)

theorem cellsOf_length (bs : List UInt8) : (cellsOf bs).length = bs.length := by simp [cellsOf]
theorem cellsOf_one (bs : List UInt8) : ∀ u ∈ cellsOf bs, u.oneCell' = true := by
  intro u hu
  obtain ⟨_, _, rfl⟩ := List.mem_map.1 hu
  rfl
theorem cellsOf_at (bs : List UInt8) (i : Nat) (h : i < bs.length) : (cellsOf bs)[i]? = some (.int .u8 ((bs.getD i 0).toNat : Int)) := by
  simp [cellsOf, h]

/-- a slice that reads as these bytes -/
def Rd (w : World) (v : Value) (bs : List UInt8) : Prop :=
  ∃ (a : Option Addr) (cap : Nat), v = .slice a bs.length cap ∧ bs.length ≤ cap ∧ cap ≤ maxLen ∧ (a = none → cap = 0) ∧
    ∀ x, a = some x → ∀ i u, (cellsOf bs)[i]? = some u → w.cell? (x.add i) = some u

theorem Rd.nil (w : World) : Rd w (.slice none 0 0) [] := ⟨none, 0, rfl, Nat.le_refl _, by simp [maxLen], fun _ => rfl, fun x h => by cases h⟩

theorem Rd.kept {w w' : World} {v : Value} {bs : List UInt8} {B : Nat} (h : Rd w v bs) (hb : Below B w w') (hB : ∀ k, v.ownBlock = some k → k < B) : Rd w' v bs := by
  obtain ⟨a, cap, rfl, h1, h2, h3, h4⟩ := h
  refine ⟨a, cap, rfl, h1, h2, h3, fun x hx i u hu => ?_⟩
  subst hx
  rw [← h4 x rfl i u hu]
  refine hb.cell (p := x.add i) ?_
  have : (x.add i).block = x.block := by unfold Addr.add; split <;> rfl
  rw [this]
  exact hB _ rfl

theorem Rd.of_own {w : World} {base n : Nat} {v : Value} {bs : List UInt8} (h : w.ownsRow base 5 1 v n (cellsOf bs)) : Rd w v bs := by
  obtain ⟨hl, h⟩ := h
  rw [cellsOf_length, Nat.mul_one] at hl
  subst hl
  rcases h with ⟨rfl, h0⟩ | ⟨g, cap, cur, rfl, _, hg, hc, hm, hs, ht⟩
  · have : bs = [] := List.eq_nil_of_length_eq_zero h0
    subst this
    exact Rd.nil w
  · refine ⟨some ⟨g, 0, none⟩, cap, rfl, hc, hm, fun h => (by cases h), fun x hx i u hu => ?_⟩
    cases hx
    exact World.ownsRow.cells (base := g) (e := 5) (size := 1) (v := .slice (some ⟨g, 0, none⟩) bs.length cap) (n := bs.length) (xs := cellsOf bs)
      ⟨by rw [cellsOf_length, Nat.mul_one], .inr ⟨g, cap, cur, rfl, Nat.le_refl _, hg, hc, hm, hs, ht⟩⟩ rfl i u hu

theorem Rd.own_lt {w : World} {base n : Nat} {v : Value} {xs : List Value} (h : w.ownsRow base 5 1 v n xs) : ∀ k, v.ownBlock = some k → k < w.heap.size :=
  fun k hk => (h.lt k hk).2

theorem info5 : (Try.prog.info? 5).map (fun i => (i.zero, i.size, i.bytes)) = some (some (.int .u8 0), 1, 1) := by kernel_rfl

theorem cellsOf_take (bs : List UInt8) (n : Nat) : cellsOf (bs.take n) = (cellsOf bs).take n := by simp [cellsOf]

theorem few_any (v : Value) (bs : List UInt8) (n : Nat) (w : World) (h : Rd w v bs) (hn : n ≤ 300) :
    Calls Try.prog 4 #[v, .int .i64 (n : Int)] w fun e w' => ∃ v', e = .returned v' ∧ w'.ownsRow w.heap.size 5 1 v' (min bs.length n) (cellsOf (bs.take n)) ∧ Below w.heap.size w w' := by
  obtain ⟨a, cap, rfl, hl, hm, hz, hc⟩ := h
  obtain ⟨i0, hi, hz0, hz1, hz2⟩ := info_parts info5
  unfold maxLen at hm
  cases a with
  | none =>
    have h0 := hz rfl
    subst h0
    have hb : bs = [] := List.eq_nil_of_length_eq_zero (by omega)
    subst hb
    go_enter Try.func4, Try.ntmps4
    go_wp2
    go_ret
    exact ⟨_, rfl, by simpa [cellsOf] using World.ownsRow_nil _ _ _ _, Below.refl _ _⟩
  | some x =>
    have hc' := hc x rfl
    by_cases hln : bs.length ≤ n
    · have HL : Hid ((cellsOf bs).length = bs.length * 1) := by rw [cellsOf_length, Nat.mul_one]; exact rfl
      have HC := Lib.hid hc'
      have ht : bs.take n = bs := List.take_of_length_le hln
      have hmn : min bs.length n = bs.length := Nat.min_eq_left hln
      rw [ht, hmn]
      clear hc hc' hz ht hmn
      go_enter Try.func4, Try.ntmps4
      go_wp2_with (at_builtin; refine wpList_append_own _ rfl _ _ 22 rfl w.heap.size 5 i0 (.int .u8 0) 1 1 Try.underlying22 hi hz0 hz1 hz2 rfl (by decide) _ _ _ rfl (World.ownsRow_nil _ _ _ _) x bs.length cap (cellsOf bs) rfl HL.out HC.out (cellsOf_one _) ?_ ?_ (Nat.le_refl _) ?_)
      · unfold maxLen; omega
      · omega
      · intro v' w1 hown hgrow _
        have HB : Below w.heap.size w w1 := (Below.refl _ w).grown hgrow (Nat.le_refl _) (fun k hk => by cases hk)
        have HO := Lib.hid hown
        clear hown hgrow
        go_wp2
        go_ret
        exact ⟨_, rfl, HO.out, HB⟩
    · have hlt : n < bs.length := by omega
      have HL : Hid ((cellsOf (bs.take n)).length = n * 1) := by rw [cellsOf_length, Nat.mul_one, List.length_take, Nat.min_eq_left (by omega)]; exact rfl
      have HC : Hid (∀ i u, (cellsOf (bs.take n))[i]? = some u → w.cell? (x.add i) = some u) := by
        intro i u hu
        rw [cellsOf_take, List.getElem?_take] at hu
        split at hu
        · exact hc' i u hu
        · cases hu
      have hmn : min bs.length n = n := Nat.min_eq_right (by omega)
      rw [hmn]
      clear hc hc' hz hmn hln
      go_enter Try.func4, Try.ntmps4
      go_wp2_with (at_builtin; refine wpList_append_own _ rfl _ _ 22 rfl w.heap.size 5 i0 (.int .u8 0) 1 1 Try.underlying22 hi hz0 hz1 hz2 rfl (by decide) _ _ _ rfl (World.ownsRow_nil _ _ _ _) x n cap (cellsOf (bs.take n)) rfl HL.out HC.out (cellsOf_one _) ?_ ?_ (Nat.le_refl _) ?_)
      · unfold maxLen; omega
      · omega
      · intro v' w1 hown hgrow _
        have HB : Below w.heap.size w w1 := (Below.refl _ w).grown hgrow (Nat.le_refl _) (fun k hk => by cases hk)
        have HO := Lib.hid hown
        clear hown hgrow
        go_wp2
        go_ret
        exact ⟨_, rfl, HO.out, HB⟩

theorem run_bytes_string (w : World) (v : Value) (bs : List UInt8) (h : Rd w v bs) : (convert 22 9 v).run Try.prog w = .ok (.string ⟨bs.toArray⟩) w := by
  obtain ⟨a, cap, rfl, hl, hm, hz, hc⟩ := h
  cases a with
  | none =>
    have hb : bs = [] := List.eq_nil_of_length_eq_zero (by have := hz rfl; omega)
    subst hb
    exact run_convert_bytes_nil w 22 5 Try.underlying22 Try.underlying5 _ _ 9 Try.underlying9
  | some x =>
    have hl : (loadCells x bs.length).run Try.prog w = .ok ((bs.map fun b => (b.toNat : Int)).map (Value.int .u8)).toArray w := by
      have := run_loadCells_list (P := Try.prog) w x (cellsOf bs) (hc x rfl)
      simpa [cellsOf, Function.comp_def] using this
    rw [run_convert_bytes_string w 22 9 5 _ _ cap Try.underlying22 Try.underlying5 Try.underlying9, run_bytesToString w _ _ cap _ hl, foldl_push_bytes]
    congr 2
    simp [Function.comp_def]

theorem same_any (v u : Value) (bs cs : List UInt8) (w : World) (h : Rd w v bs) (k : Rd w u cs) :
    Calls Try.prog 8 #[v, u] w fun e w' => e = .returned (.bool (bs == cs)) ∧ w = w' := by
  have h1 := run_bytes_string w v bs h
  have h2 := run_bytes_string w u cs k
  clear h k
  go_enter Try.func8, Try.ntmps8
  go_wp2
  go_ret
  exact ⟨rfl, rfl⟩

theorem size_pk (k : Int) (w : World) (h0 : 1 ≤ k) (h1 : k ≤ 32) :
    Calls Try.prog 33 #[.int .u64 k] w fun e w' => e = .returned (.int .i64 k) ∧ w = w' := by
  go_enter Try.func33, Try.ntmps33
  go_wp2
  go_ret
  exact ⟨rfl, rfl⟩

theorem size_an (k : Int) (w : World) (h0 : 1 ≤ k) (h1 : k ≤ 32) :
    Calls Try.prog 28 #[.int .u64 k] w fun e w' => e = .returned (.int .i64 k) ∧ w = w' := by
  go_enter Try.func28, Try.ntmps28
  go_wp2
  go_ret
  exact ⟨rfl, rfl⟩

theorem err_new (s : ByteArray) (w : World) :
    Calls Try.prog 32 #[.string s] w fun e w' => e = .returned (.iface 61 (.pointer (some ⟨w.heap.size, 0, none⟩))) ∧ Below w.heap.size w w' := by
  go_enter Try.func32, Try.ntmps32
  go_wp2
  go_ret
  exact ⟨rfl, (Below.refl _ _).alloc (Nat.le_refl _) _⟩

theorem filler_an (k : Int) (w : World) (h0 : 1 ≤ k) (h1 : k ≤ 32) :
    Calls Try.prog 10 #[.int .i64 k, .int .i64 1] w fun e w' => e = .returned (.iface 40 (.int .u64 k)) ∧ w = w' := by
  have g : ((k : Int) == 0) = false := by simp; omega
  go_enter Try.func10, Try.ntmps10
  go_wp2
  go_ret
  exact ⟨rfl, rfl⟩

theorem filler_pk (k : Int) (w : World) (h0 : 1 ≤ k) (h1 : k ≤ 32) :
    Calls Try.prog 10 #[.int .i64 k, .int .i64 0] w fun e w' => e = .returned (.iface 41 (.int .u64 k)) ∧ w = w' := by
  have g : ((k : Int) == 0) = false := by simp; omega
  go_enter Try.func10, Try.ntmps10
  go_wp2
  go_ret
  exact ⟨rfl, rfl⟩

theorem sfa_room (g cap : Nat) (l n : Nat) (w : World) (hc : l + n ≤ cap) (hm : cap ≤ maxLen) (hl : l ≤ 300) (hn : 1 ≤ n ∧ n ≤ 32) :
    Calls Try.prog 31 #[.slice (some ⟨g, 0, none⟩) l cap, .int .i64 (n : Int)] w fun e w' =>
      e = .returned (.tuple #[.slice (some ⟨g, 0, none⟩) (l + n) cap, .slice (some ⟨g, l, none⟩) n (cap - l)]) ∧ w = w' := by
  unfold maxLen at hm
  go_enter Try.func31, Try.ntmps31
  go_wp2
  go_ret2
  exact ⟨rfl, rfl⟩

theorem run_make_bytes (m : Nat) (hm : m ≤ 400) : ∃ L : List Value, L.length = m ∧ ∀ W : World,
    (Instr.makeSlice 22 (.int .i64 (m : Int)) (.int .i64 (m : Int))).run Try.prog W = .ok (.slice (some ⟨W.heap.size, 0, none⟩) m m) (W.alloc (.cells L.toArray 5)) := by
  obtain ⟨i0, hi, hz0, hz1, hz2⟩ := info_parts info5
  refine ⟨(madeCells (Value.int .u8 0).cells (m * i0.size)).toList, by rw [Array.length_toList, size_madeCells, hz1, Nat.mul_one], fun W => ?_⟩
  have := run_make (P := Try.prog) W 22 5 i0 (.int .u8 0) Try.underlying22 hi hz0 .i64 .i64 (m : Int) (m : Int) (by omega) (Int.le_refl _) (by rw [hz2]; omega) (by omega)
  simpa using this

theorem info5s : (Try.prog.info? 5).map (·.size) = some 1 := by kernel_rfl

theorem sfa_new (a : Option Addr) (cap : Nat) (bs : List UInt8) (n : Nat) (w : World) (h : Rd w (.slice a bs.length cap) bs) (hc : ¬ bs.length + n ≤ cap) (hl : bs.length ≤ 300) (hn : 1 ≤ n ∧ n ≤ 32) :
    Calls Try.prog 31 #[.slice a bs.length cap, .int .i64 (n : Int)] w fun e w' => ∃ cur : List Value,
      e = .returned (.tuple #[.slice (some ⟨w.heap.size, 0, none⟩) (bs.length + n) (bs.length + n), .slice (some ⟨w.heap.size, bs.length, none⟩) n n]) ∧
      cur.length = bs.length + n ∧ cur.take bs.length = cellsOf bs ∧ Hid (w'.heap[w.heap.size]? = some (.cells cur.toArray 5 (0, 0))) ∧ Below w.heap.size w w' := by
  obtain ⟨L, hL, hmk⟩ := run_make_bytes (bs.length + n) (by omega)
  have ec : ((bs.length + n : Nat) : Int) = (bs.length : Int) + (n : Int) := by omega
  rw [ec] at hmk
  have HSRC : Hid (∀ j u, (cellsOf bs)[j]? = some u → ∀ x, a = some x → w.cell? (x.add j) = some u) := by
    obtain ⟨a', cap', hv, h1, h2, h3, h4⟩ := h
    cases hv
    exact fun j u hu x hx => h4 x hx j u hu
  have HNIL : Hid (0 < bs.length → ∃ x, a = some x) := by
    obtain ⟨a', cap', hv, h1, h2, h3, h4⟩ := h
    cases hv
    intro hp
    cases a with
    | none => have := h3 rfl; omega
    | some x => exact ⟨x, rfl⟩
  have HL := Lib.hid hL
  have HCL : Hid ((cellsOf bs).length = Nat.min bs.length (bs.length + n)) := by
    rw [cellsOf_length, Nat.min_eq_min, Nat.min_eq_left (by omega)]; exact rfl
  have hcap : cap < bs.length + n := by omega
  clear h hL ec hc
  go_enter Try.func31, Try.ntmps31
  go_wp2_with (with_reducible refine wpList_copy_splice rfl (.tmp 20) (.tmp 21) 22 22 rfl 5 Try.underlying22 info5s (some ⟨w.heap.size, 0, none⟩) a (bs.length + n) (bs.length + n) bs.length cap rfl rfl w.heap.size 0 L 5 (heap_alloc_new w _) (cellsOf bs) HCL.out ?_ ?_ (cellsOf_one _) w.heap.size w ((Below.refl _ w).alloc (Nat.le_refl _) _) (Nat.le_refl _) ?_)
  · intro hp
    rw [cellsOf_length] at hp
    obtain ⟨x, hx⟩ := HNIL.out hp
    exact ⟨x, hx, fun j u hu => cell_later ((Below.refl _ w).alloc (Nat.le_refl _) _) (HSRC.out j u hu x hx)⟩
  · rw [cellsOf_length, HL.out]; omega
  · intro w1 hw1 hb1
    go_wp2
    go_ret2
    refine ⟨splice L 0 (cellsOf bs), rfl, ?_, ?_, hw1, hb1⟩
    · rw [length_splice _ _ _ (by rw [cellsOf_length, HL.out]; omega), HL.out]
    · unfold splice
      rw [List.take_zero, List.nil_append, List.take_append_of_le_length (Nat.le_of_eq (cellsOf_length bs).symm), List.take_of_length_le (Nat.le_of_eq (cellsOf_length bs))]

/-- While a slice is filled up: block g holds cap cells, the first ones are xs; of what was there only v's own block has turned. -/
def Filling (W : World) (v : Value) (g cap : Nat) (xs : List UInt8) (wr : World) (cur : List Value) : Prop :=
  cur.length = cap ∧ cur.take xs.length = cellsOf xs ∧ wr.heap[g]? = some (.cells cur.toArray 5 (0, 0)) ∧ W.grownBy wr v.ownBlock ∧ (v.ownBlock = some g ∨ W.heap.size ≤ g)

theorem Filling.cell {W wr : World} {v : Value} {g cap : Nat} {xs : List UInt8} {cur : List Value} (h : Filling W v g cap xs wr cur) (m : Nat) (hm : m < cap) : wr.cell? ⟨g, m, none⟩ = some (cur.getD m undef) ∧ wr.frozen? ⟨g, m, none⟩ = false := by
  obtain ⟨h1, h2, h3, h4, h5⟩ := h
  have hl : m < cur.length := by omega
  constructor
  · simp [World.cell?, h3, hl]
  · simp [World.frozen?, h3]

theorem heap_setCell_at {w : World} {g o : Nat} {cur : List Value} (h : w.heap[g]? = some (.cells cur.toArray 5 (0, 0))) (u : Value) :
    (w.setCell ⟨g, o, none⟩ u).heap[g]? = some (.cells (cur.set o u).toArray 5 (0, 0)) := by
  simp [World.setCell, Array.getElem?_modify, h]

/-- one cell anywhere behind xs is stored -/
theorem Filling.store {W wr : World} {v : Value} {g cap : Nat} {xs : List UInt8} {cur : List Value} (h : Filling W v g cap xs wr cur) (m : Nat) (hm : xs.length ≤ m) (u : Value) :
    Filling W v g cap xs (wr.setCell ⟨g, m, none⟩ u) (cur.set m u) := by
  obtain ⟨h1, h2, h3, h4, h5⟩ := h
  refine ⟨by simpa using h1, ?_, heap_setCell_at h3 u, ?_, h5⟩
  · rw [← h2, List.take_set_of_le hm]
  · refine ⟨h4.os, h4.tape, h4.output, by simpa [World.setCell] using h4.size, fun k hk hne => ?_⟩
    refine (Below.heap_setCell wr _ u k ?_).trans (h4.block k hk hne)
    rintro rfl
    rcases h5 with h5 | h5
    · exact hne h5.symm
    · exact absurd hk (by simpa using h5)

/-- one byte more -/
theorem Filling.more {W wr : World} {v : Value} {g cap : Nat} {xs : List UInt8} {cur : List Value} (h : Filling W v g cap xs wr cur) (b : UInt8) (hb : cur[xs.length]? = some (.int .u8 (b.toNat : Int))) :
    Filling W v g cap (xs ++ [b]) wr cur := by
  obtain ⟨h1, h2, h3, h4, h5⟩ := h
  refine ⟨h1, ?_, h3, h4, h5⟩
  rw [List.length_append, List.length_singleton, List.take_add_one, h2, hb]
  simp [cellsOf]

theorem Filling.next {W wr : World} {v : Value} {g cap : Nat} {xs : List UInt8} {cur : List Value} (h : Filling W v g cap xs wr cur) (b : UInt8) (hm : xs.length < cap) :
    Filling W v g cap (xs ++ [b]) (wr.setCell ⟨g, xs.length, none⟩ (.int .u8 (b.toNat : Int))) (cur.set xs.length (.int .u8 (b.toNat : Int))) :=
  (h.store xs.length (Nat.le_refl _) _).more b (by rw [List.getElem?_set_self]; have := h.1; omega)

theorem Filling.owns {W wr : World} {v : Value} {g cap base : Nat} {xs : List UInt8} {cur : List Value} (h : Filling W v g cap xs wr cur) (hb : base ≤ g) (hc : xs.length ≤ cap) (hm : cap ≤ maxLen) :
    wr.ownsRow base 5 1 (.slice (some ⟨g, 0, none⟩) xs.length cap) xs.length (cellsOf xs) := by
  obtain ⟨h1, h2, h3, h4, h5⟩ := h
  refine ⟨by rw [cellsOf_length, Nat.mul_one], .inr ⟨g, cap, _, rfl, hb, h3, hc, hm, by simpa using h1, by simpa using h2⟩⟩

/-- SliceForAppend, whatever its slice of the call's own -/
theorem sfa (base : Nat) (v : Value) (bs : List UInt8) (n : Nat) (w : World) (h : w.ownsRow base 5 1 v bs.length (cellsOf bs)) (hbase : base ≤ w.heap.size) (hl : bs.length ≤ 300) (hn : 1 ≤ n ∧ n ≤ 32) :
    Calls Try.prog 31 #[v, .int .i64 (n : Int)] w fun e w' => ∃ (g cap : Nat) (cur : List Value),
      e = .returned (.tuple #[.slice (some ⟨g, 0, none⟩) (bs.length + n) cap, .slice (some ⟨g, bs.length, none⟩) n (cap - bs.length)]) ∧
      base ≤ g ∧ bs.length + n ≤ cap ∧ cap ≤ maxLen ∧ Hid (Filling w v g cap bs w' cur) := by
  have hrd := Rd.of_own h
  obtain ⟨_, h⟩ := h
  rcases h with ⟨rfl, h0⟩ | ⟨g, cap, cur, rfl, hb, hg, hc, hm, hs, ht⟩
  · have hb : bs = [] := List.eq_nil_of_length_eq_zero h0
    subst hb
    refine (sfa_new none 0 [] n w hrd (by simp only [List.length_nil]; omega) hl hn).mono ?_
    rintro e w' ⟨cur, rfl, h1, h2, h3, h4⟩
    refine ⟨w.heap.size, n, cur, by simp, hbase, by simp, by unfold maxLen; omega, ?_⟩
    exact ⟨by simpa using h1, by simpa using h2, h3, ⟨h4.os, h4.tape, h4.output, h4.size, fun k hk _ => h4.block k hk⟩, .inr (Nat.le_refl _)⟩
  · by_cases hroom : bs.length + n ≤ cap
    · refine (sfa_room g cap bs.length n w hroom hm hl hn).mono ?_
      rintro e w' ⟨rfl, rfl⟩
      refine ⟨g, cap, cur.toList, rfl, hb, hroom, hm, ?_⟩
      exact ⟨by simpa using hs, by simpa using ht, by simpa using hg, ⟨rfl, rfl, rfl, Nat.le_refl _, fun _ _ _ => rfl⟩, .inl rfl⟩
    · refine (sfa_new _ cap bs n w hrd hroom hl hn).mono ?_
      rintro e w' ⟨cur', rfl, h1, h2, h3, h4⟩
      refine ⟨w.heap.size, bs.length + n, cur', by simp, hbase, Nat.le_refl _, by unfold maxLen; omega, ?_⟩
      exact ⟨h1, h2, h3, ⟨h4.os, h4.tape, h4.output, h4.size, fun k hk _ => h4.block k hk⟩, .inr (Nat.le_refl _)⟩

end Go.Proofs.Ytcfkdmcalpoooaa
