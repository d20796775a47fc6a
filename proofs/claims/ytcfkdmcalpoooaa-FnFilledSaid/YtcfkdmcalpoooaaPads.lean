/-
  What fills bytes up and takes that off again, by contracts: Pad of both paddings, impl.Filled, Unpad of PKCS 7. Conditions: at most 300 bytes, block sizes from 1 to 32.
-/
import Derived.Test.YtcfkdmcalpoooaaRows
import Derived.WalkKit
import Derived.ProofKit
import Derived.WalkLawsBesides
import Derived.WalkSpells
import Derived.Below
import Derived.Lib.Hide
import Derived.Handy
import Derived.Test.YtcfkdmcalpoooaaBytes
namespace Go.Proofs.Ytcfkdmcalpoooaa
open Go.RowKit

theorem own_slice {w : World} {base : Nat} {v : Value} {n : Nat} {xs : List Value} (h : w.ownsRow base 5 1 v n xs) : ∃ a cap, v = .slice a n cap := by
  rcases h.2 with ⟨rfl, h0⟩ | ⟨g, cap, cur, rfl, _⟩
  · exact ⟨none, 0, by rw [h0]⟩
  · exact ⟨_, _, rfl⟩

theorem pad_step {W wr : World} {v : Value} {g cap : Nat} {bs : List UInt8} {kind P k : Nat} {cur : List Value} (h : Filling W v g cap (bs ++ padTo kind P k) wr cur) (hm : bs.length + k < cap)
    (z : Int) (hz : z = ((padAt kind P k).toNat : Int)) : ∃ cur', Filling W v g cap (bs ++ padTo kind P (k + 1)) (wr.setCell ⟨g, bs.length + k, none⟩ (.int .u8 z)) cur' := by
  subst hz
  have hl : (bs ++ padTo kind P k).length = bs.length + k := by rw [List.length_append, padTo_length]
  have := h.next (padAt kind P k) (by rw [hl]; exact hm)
  rw [hl] at this
  rw [padTo_succ, ← List.append_assoc]
  exact ⟨_, this⟩

theorem padAt_zero (P k : Nat) (h : P ≤ 32) : ((padAt 0 P k).toNat : Int) = (P : Int) := by
  rw [padAt, if_pos (.inl rfl), ofNat_toNat _ (by omega)]

theorem filled_pad (size kind : Nat) (bs : List UInt8) (P : Nat) (h : P = padLen size bs.length) : bs ++ padTo kind P P = filled size kind bs := by
  rw [h, filled]

theorem pad_pk (base : Nat) (v : Value) (bs : List UInt8) (size : Nat) (w : World) (h : w.ownsRow base 5 1 v bs.length (cellsOf bs)) (hbase : base ≤ w.heap.size) (hl : bs.length ≤ 300) (hs : 1 ≤ size) (hs2 : size ≤ 32) :
    Calls Try.prog 34 #[.int .u64 (size : Int), v] w fun e w' => ∃ v', e = .returned v' ∧ w'.ownsRow base 5 1 v' (filled size 0 bs).length (cellsOf (filled size 0 bs)) ∧ w.grownBy w' v.ownBlock := by
  obtain ⟨a, cap, rfl⟩ := own_slice h
  have H := Lib.hid h
  clear h
  have hmod := Nat.mod_lt bs.length (show 0 < size by omega)
  obtain ⟨P, hP, eP⟩ : ∃ P, P = padLen size bs.length ∧ (size : Int) - (bs.length : Int) % (size : Int) = (P : Int) := by
    refine ⟨_, rfl, ?_⟩
    unfold padLen
    omega
  have hP1 : 1 ≤ P ∧ P ≤ size := by rw [hP]; exact padLen_bd size _ (by omega)
  have HP := Lib.hid hP
  have EP := Lib.hid eP
  clear hP eP
  go_enter Try.func34, Try.ntmps34
  go_wp2_with (go_at_call 33; refine (size_pk _ _ (by omega) (by omega)).mono ?_; rintro e w' ⟨rfl, rfl⟩)
  rw [EP.out]
  refine (sfa base _ bs P w H.out hbase hl (by omega)).mono ?_
  rintro e w1 ⟨g, cap', cur, rfl, hg, hc, hm, hf⟩
  unfold maxLen at hm
  go_wp2
  go_loopw [8] (fun i wr => ∃ (k : Nat) (cur : List Value), k ≤ P ∧ i = .int .i64 k ∧ Hid (Filling w (.slice a bs.length cap) g cap' (bs ++ padTo 0 P k) wr cur)) (fun i _ => P - (intOf i).toNat)
  case atStart => exact ⟨0, cur, Nat.zero_le _, rfl, by simpa [padTo] using hf⟩
  case round =>
    obtain ⟨k, cur, hk, rfl, hf⟩ := hrel
    by_cases hlt : k < P
    · obtain ⟨hc1, hc2⟩ := hf.out.cell (bs.length + k) (by omega)
      go_wp2
      go_roundw
      case rel =>
        obtain ⟨cur', hf'⟩ := pad_step hf.out (by omega) (P : Int) (padAt_zero P k (by omega)).symm
        exact ⟨k + 1, cur', by omega, by go_num, hf'⟩
      case measure => simp [intOf]; omega
    · have hkP : k = P := by omega
      have HK := Lib.hid hkP
      clear hkP
      go_wp2
      go_ret
      have hf2 := hf.out
      rw [HK.out, filled_pad size 0 bs P HP.out] at hf2
      have hlen : (filled size 0 bs).length = bs.length + P := by rw [filled_length, HP.out]
      refine ⟨_, rfl, ?_, hf2.2.2.2.1⟩
      have := hf2.owns hg (by omega) (by unfold maxLen; omega)
      rw [hlen] at this ⊢
      exact this

theorem pad_step_an {W wr : World} {v : Value} {g cap : Nat} {bs : List UInt8} {P k : Nat} {cur : List Value} (h : Filling W v g cap (bs ++ padTo 1 P k) wr cur) (hm : bs.length + P ≤ cap) (hk : k + 1 < P)
    (hl : cur[bs.length + (P - 1)]? = some (.int .u8 (P : Int))) :
    ∃ cur', Filling W v g cap (bs ++ padTo 1 P (k + 1)) (wr.setCell ⟨g, bs.length + k, none⟩ (.int .u8 0)) cur' ∧ cur'[bs.length + (P - 1)]? = some (.int .u8 (P : Int)) := by
  have hn : (bs ++ padTo 1 P k).length = bs.length + k := by rw [List.length_append, padTo_length]
  have hz : padAt 1 P k = 0 := by rw [padAt, if_neg (by omega)]
  have := h.next (padAt 1 P k) (by rw [hn]; omega)
  rw [hn] at this
  rw [padTo_succ, ← List.append_assoc]
  refine ⟨cur.set (bs.length + k) (.int .u8 ((padAt 1 P k).toNat : Int)), ?_, ?_⟩
  · rw [hz] at this ⊢
    exact this
  · rw [List.getElem?_set_ne (by omega)]
    exact hl

theorem pad_end_an {W wr : World} {v : Value} {g cap : Nat} {bs : List UInt8} {P : Nat} {cur : List Value} (h : Filling W v g cap (bs ++ padTo 1 P (P - 1)) wr cur) (hP : 1 ≤ P) (hP2 : P ≤ 32)
    (hl : cur[bs.length + (P - 1)]? = some (.int .u8 (P : Int))) : Filling W v g cap (bs ++ padTo 1 P P) wr cur := by
  have hn : (bs ++ padTo 1 P (P - 1)).length = bs.length + (P - 1) := by rw [List.length_append, padTo_length]
  have hz : padAt 1 P (P - 1) = UInt8.ofNat P := by rw [padAt, if_pos (by omega)]
  have := h.more (padAt 1 P (P - 1)) (by rw [hn, hl, hz, ofNat_toNat _ (by omega)])
  rw [List.append_assoc, ← padTo_succ, Nat.sub_add_cancel hP] at this
  exact this

theorem pad_an (base : Nat) (v : Value) (bs : List UInt8) (size : Nat) (w : World) (h : w.ownsRow base 5 1 v bs.length (cellsOf bs)) (hbase : base ≤ w.heap.size) (hl : bs.length ≤ 300) (hs : 1 ≤ size) (hs2 : size ≤ 32) :
    Calls Try.prog 29 #[.int .u64 (size : Int), v] w fun e w' => ∃ v', e = .returned v' ∧ w'.ownsRow base 5 1 v' (filled size 1 bs).length (cellsOf (filled size 1 bs)) ∧ w.grownBy w' v.ownBlock := by
  obtain ⟨a, cap, rfl⟩ := own_slice h
  have H := Lib.hid h
  clear h
  have hmod := Nat.mod_lt bs.length (show 0 < size by omega)
  obtain ⟨P, hP, eP⟩ : ∃ P, P = padLen size bs.length ∧ (size : Int) - (bs.length : Int) % (size : Int) = (P : Int) := by
    refine ⟨_, rfl, ?_⟩
    unfold padLen
    omega
  have hP1 : 1 ≤ P ∧ P ≤ size := by rw [hP]; exact padLen_bd size _ (by omega)
  have HP := Lib.hid hP
  have EP := Lib.hid eP
  clear hP eP
  go_enter Try.func29, Try.ntmps29
  go_wp2_with (go_at_call 28; refine (size_an _ _ (by omega) (by omega)).mono ?_; rintro e w' ⟨rfl, rfl⟩)
  rw [EP.out]
  refine (sfa base _ bs P w H.out hbase hl (by omega)).mono ?_
  rintro e w1 ⟨g, cap', cur, rfl, hg, hc, hm, hf⟩
  unfold maxLen at hm
  obtain ⟨hc1, hc2⟩ := hf.out.cell (bs.length + (P - 1)) (by omega)
  go_wp2
  go_loopw [8] (fun i wr => ∃ (k : Nat) (cur : List Value), k + 1 ≤ P ∧ i = .int .i64 k ∧ Hid (Filling w (.slice a bs.length cap) g cap' (bs ++ padTo 1 P k) wr cur) ∧ Hid (cur[bs.length + (P - 1)]? = some (.int .u8 (P : Int)))) (fun i _ => P - (intOf i).toNat)
  case atStart =>
    refine ⟨0, cur.set (bs.length + (P - 1)) (.int .u8 (P : Int)), by omega, rfl, ?_, ?_⟩
    · have h0 := hf.out.store (bs.length + (P - 1)) (by omega) (.int .u8 (P : Int))
      have e0 : bs ++ padTo 1 P 0 = bs := by simp [padTo]
      rw [e0]
      exact h0
    · have hlc : bs.length + (P - 1) < cur.length := by have := hf.out.1; omega
      have := List.getElem?_set_self (a := Value.int .u8 (P : Int)) hlc
      exact this
  case round =>
    obtain ⟨k, cur2, hk, rfl, hf2, hl2⟩ := hrel
    by_cases hlt : k + 1 < P
    · obtain ⟨hd1, hd2⟩ := hf2.out.cell (bs.length + k) (by omega)
      clear hc1 hc2
      go_wp2
      go_roundw
      case rel =>
        obtain ⟨cur', hf', hl'⟩ := pad_step_an hf2.out (by omega) hlt hl2.out
        exact ⟨k + 1, cur', by omega, by go_num, hf', hl'⟩
      case measure => simp [intOf]; omega
    · have hkP : k = P - 1 := by omega
      have HK := Lib.hid hkP
      clear hkP hc1 hc2
      go_wp2
      go_ret
      have hf3 := hf2.out
      rw [HK.out] at hf3
      have hf4 := pad_end_an hf3 hP1.1 (by omega) hl2.out
      rw [filled_pad size 1 bs P HP.out] at hf4
      have hlen : (filled size 1 bs).length = bs.length + P := by rw [filled_length, HP.out]
      refine ⟨_, rfl, ?_, hf4.2.2.2.1⟩
      have := hf4.owns hg (by omega) (by unfold maxLen; omega)
      rw [hlen] at this ⊢
      exact this

theorem filled_pk (base : Nat) (v : Value) (bs : List UInt8) (size : Nat) (w : World) (h : w.ownsRow base 5 1 v bs.length (cellsOf bs)) (hbase : base ≤ w.heap.size) (hl : bs.length ≤ 300) (hs : 1 ≤ size) (hs2 : size ≤ 32) :
    Calls Try.prog 6 #[v, .int .i64 (size : Int), .int .i64 0] w fun e w' => ∃ v', e = .returned v' ∧ w'.ownsRow base 5 1 v' (filled size 0 bs).length (cellsOf (filled size 0 bs)) ∧ w.grownBy w' v.ownBlock := by
  have H := Lib.hid h
  clear h
  go_enter Try.func6, Try.ntmps6
  go_wp2_with (go_at_call 10; refine (filler_pk _ _ (by omega) (by omega)).mono ?_; rintro e w' ⟨rfl, rfl⟩)
  refine (pad_pk base v bs size _ H.out hbase hl hs hs2).mono ?_
  rintro e w1 ⟨v', rfl, ho, hg⟩
  have HO := Lib.hid ho
  clear ho
  go_wp2
  go_ret
  exact ⟨_, rfl, HO.out, hg⟩

theorem filled_an (base : Nat) (v : Value) (bs : List UInt8) (size : Nat) (w : World) (h : w.ownsRow base 5 1 v bs.length (cellsOf bs)) (hbase : base ≤ w.heap.size) (hl : bs.length ≤ 300) (hs : 1 ≤ size) (hs2 : size ≤ 32) :
    Calls Try.prog 6 #[v, .int .i64 (size : Int), .int .i64 1] w fun e w' => ∃ v', e = .returned v' ∧ w'.ownsRow base 5 1 v' (filled size 1 bs).length (cellsOf (filled size 1 bs)) ∧ w.grownBy w' v.ownBlock := by
  have H := Lib.hid h
  clear h
  go_enter Try.func6, Try.ntmps6
  go_wp2_with (go_at_call 10; refine (filler_an _ _ (by omega) (by omega)).mono ?_; rintro e w' ⟨rfl, rfl⟩)
  refine (pad_an base v bs size _ H.out hbase hl hs hs2).mono ?_
  rintro e w1 ⟨v', rfl, ho, hg⟩
  have HO := Lib.hid ho
  clear ho
  go_wp2
  go_ret
  exact ⟨_, rfl, HO.out, hg⟩

theorem add_none {b o : Nat} (i : Nat) : (⟨b, o, none⟩ : Addr).add i = ⟨b, o + i, none⟩ := by unfold Addr.add; split <;> simp_all

theorem Rd.lay {w : World} {v : Value} {bs : List UInt8} (h : Rd w v bs) (h0 : 0 < bs.length) : ∃ b o cap, v = .slice (some ⟨b, o, none⟩) bs.length cap ∧ bs.length ≤ cap ∧ cap ≤ maxLen ∧
    ∀ i, i < bs.length → w.cell? ⟨b, o + i, none⟩ = some (.int .u8 ((bs.getD i 0).toNat : Int)) := by
  obtain ⟨a, cap, rfl, h1, h2, h3, h4⟩ := h
  cases a with
  | none => have := h3 rfl; omega
  | some x =>
    have h4' := h4 x rfl
    have hsp : x.spot = none := by
      have := h4' 0 _ (cellsOf_at bs 0 h0)
      unfold World.cell? at this
      split at this
      · by_cases hs : (x.add 0).spot.isSome
        · simp [hs] at this
        · have e : x.add 0 = x := rfl
          rw [e] at hs
          simpa using hs
      · cases this
    obtain ⟨b, o, s⟩ := x
    simp only at hsp
    subst hsp
    refine ⟨b, o, cap, rfl, h1, h2, fun i hi => ?_⟩
    rw [← add_none]
    exact h4' i _ (cellsOf_at bs i hi)

theorem Rd.shut {w : World} {b o cap : Nat} {bs : List UInt8} {n : Nat} (hn : n = bs.length) (hc : bs.length ≤ cap) (hm : cap ≤ maxLen) (h : ∀ i, i < bs.length → w.cell? ⟨b, o + i, none⟩ = some (.int .u8 ((bs.getD i 0).toNat : Int))) :
    Rd w (.slice (some ⟨b, o, none⟩) n cap) bs := by
  subst hn
  refine ⟨some ⟨b, o, none⟩, cap, rfl, hc, hm, fun h => (by cases h), fun x hx i u hu => ?_⟩
  cases hx
  have hi : i < bs.length := by
    rcases Nat.lt_or_ge i bs.length with h' | h'
    · exact h'
    · rw [List.getElem?_eq_none (by rw [cellsOf_length]; exact h')] at hu; cases hu
  rw [cellsOf_at bs i hi] at hu
  rw [add_none, h i hi]
  exact hu

theorem unpad_pk_empty (v : Value) (size : Nat) (w : World) (h : Rd w v []) :
    Calls Try.prog 35 #[.int .u64 (size : Int), v] w fun e w' => ∃ p, e = .returned (.tuple #[.slice none 0 0, .iface 61 p]) ∧ Below w.heap.size w w' := by
  obtain ⟨a, cap, rfl, -⟩ := h
  go_enter Try.func35, Try.ntmps35
  go_wp2_with (first | (go_at_call 33; refine (size_pk _ _ (by omega) (by omega)).mono ?_; rintro e w' ⟨rfl, rfl⟩) | (go_at_call 32; refine (err_new _ _).mono ?_; rintro e w1 ⟨rfl, hb⟩))
  go_ret2
  exact ⟨_, rfl, hb⟩

theorem unpad_pk_odd (v : Value) (bs : List UInt8) (size : Nat) (w : World) (h : Rd w v bs) (h0 : 0 < bs.length) (hl : bs.length ≤ 300) (hs : 1 ≤ size) (hs2 : size ≤ 32) (hm : bs.length % size ≠ 0) :
    Calls Try.prog 35 #[.int .u64 (size : Int), v] w fun e w' => ∃ p, e = .returned (.tuple #[.slice none 0 0, .iface 61 p]) ∧ Below w.heap.size w w' := by
  obtain ⟨a, cap, rfl, -⟩ := h
  have hbz : ((bs.length : Int) == 0) = false := beq_eq_false_iff_ne.2 (by omega)
  have hb1 : ((bs.length : Int) % (size : Int) != 0) = true := by rw [bne_iff_ne]; omega
  go_enter Try.func35, Try.ntmps35
  go_wp2_with (first | (go_at_call 33; refine (size_pk _ _ (by omega) (by omega)).mono ?_; rintro e w' ⟨rfl, rfl⟩) | (go_at_call 32; refine (err_new _ _).mono ?_; rintro e w1 ⟨rfl, hb⟩))
  go_ret2
  exact ⟨_, rfl, hb⟩

/-- the last byte is 0, or greater than the size -/
theorem unpad_pk_last (v : Value) (bs : List UInt8) (size : Nat) (w : World) (h : Rd w v bs) (h0 : 0 < bs.length) (hl : bs.length ≤ 300) (hs : 1 ≤ size) (hs2 : size ≤ 32) (hm : bs.length % size = 0) (hk : lastOf bs = 0 ∨ size < lastOf bs) :
    Calls Try.prog 35 #[.int .u64 (size : Int), v] w fun e w' => ∃ p, e = .returned (.tuple #[.slice none 0 0, .iface 61 p]) ∧ Below w.heap.size w w' := by
  obtain ⟨b, o, cap, rfl, hcap, hmx, hc⟩ := h.lay h0
  unfold maxLen at hmx
  have hbz : ((bs.length : Int) == 0) = false := beq_eq_false_iff_ne.2 (by omega)
  have hb1 : ((bs.length : Int) % (size : Int) != 0) = false := by rw [bne_eq_false_iff_eq]; omega
  have hc1 := hc (bs.length - 1) (by omega)
  obtain ⟨z, hz, hz1, hz2, hz3⟩ : ∃ z : Int, ((bs.getD (bs.length - 1) 0).toNat : Int) = z ∧ 0 ≤ z ∧ z ≤ 255 ∧ (lastOf bs : Int) = z := by
    refine ⟨_, rfl, by omega, ?_, rfl⟩
    have := UInt8.toNat_lt (bs.getD (bs.length - 1) 0)
    omega
  rw [hz] at hc1
  clear hc hz h
  by_cases hz0 : z = 0
  · subst hz0
    go_enter Try.func35, Try.ntmps35
    go_wp2_with (first | (go_at_call 33; refine (size_pk _ _ (by omega) (by omega)).mono ?_; rintro e w' ⟨rfl, rfl⟩) | (go_at_call 32; refine (err_new _ _).mono ?_; rintro e w1 ⟨rfl, hb⟩))
    go_ret2
    exact ⟨_, rfl, hb⟩
  · have hb2 : (z == 0) = false := by simpa using hz0
    have hgt : (size : Int) < z := by omega
    clear hk hz3 hz0
    go_enter Try.func35, Try.ntmps35
    go_wp2_with (first | (go_at_call 33; refine (size_pk _ _ (by omega) (by omega)).mono ?_; rintro e w' ⟨rfl, rfl⟩) | (go_at_call 32; refine (err_new _ _).mono ?_; rintro e w1 ⟨rfl, hb⟩))
    go_ret2
    exact ⟨_, rfl, hb⟩

theorem lastOf_bd (bs : List UInt8) : lastOf bs < 256 := UInt8.toNat_lt _

theorem mid_pk (bs : List UInt8) (k j : Nat) (hk : lastOf bs = k) (h : midsOk 0 bs = true) (hj : j < k - 1) : ((bs.getD (bs.length - k + j) 0).toNat : Int) = (k : Int) := by
  unfold midsOk at h
  rw [hk] at h
  have := List.all_eq_true.1 h j (List.mem_range.2 hj)
  unfold midOk at this
  rw [hk, if_pos rfl, beq_iff_eq] at this
  rw [this, ← hk]
  rfl

theorem off_getD (bs : List UInt8) (i : Nat) (h : i < bs.length - lastOf bs) : (off bs).getD i 0 = bs.getD i 0 := by
  rw [off, List.getD_eq_getElem?_getD, List.getD_eq_getElem?_getD, List.getElem?_take_of_lt h]

theorem unpad_pk_yes (v : Value) (bs : List UInt8) (size : Nat) (w : World) (h : Rd w v bs) (hl : bs.length ≤ 300) (hs : 1 ≤ size) (hs2 : size ≤ 32) (h0 : headBad size bs = false) (h1 : lastBad size bs = false) (h2 : midsOk 0 bs = true) :
    Calls Try.prog 35 #[.int .u64 (size : Int), v] w fun e w' => ∃ v', e = .returned (.tuple #[v', .nilIface]) ∧ Rd w v' (off bs) ∧ w = w' := by
  simp only [headBad, lastBad, Bool.or_eq_false_iff, decide_eq_false_iff_not, Decidable.not_not] at h0 h1
  obtain ⟨ha, hm⟩ := h0
  obtain ⟨hk0, hk1⟩ := h1
  obtain ⟨b, o, cap, rfl, hcap, hmx, hc⟩ := h.lay (by omega)
  unfold maxLen at hmx
  have hbz : ((bs.length : Int) == 0) = false := beq_eq_false_iff_ne.2 (by omega)
  have hb1 : ((bs.length : Int) % (size : Int) != 0) = false := by rw [bne_eq_false_iff_eq]; omega
  have hc1 := hc (bs.length - 1) (by omega)
  have hlb := lastOf_bd bs
  obtain ⟨k, hk⟩ : ∃ k, lastOf bs = k := ⟨_, rfl⟩
  have hz : ((bs.getD (bs.length - 1) 0).toNat : Int) = (k : Int) := by rw [← hk]; rfl
  rw [hz] at hc1
  rw [hk] at hk0 hk1 hlb
  have hle : size ≤ bs.length := by
    rcases Nat.lt_or_ge bs.length size with hlt | hge
    · rw [Nat.mod_eq_of_lt hlt] at hm; omega
    · exact hge
  have hb2 : ((k : Int) == 0) = false := by simp; omega
  have HC := Lib.hid hc
  have HK := Lib.hid hk
  have HM := Lib.hid h2
  have HZ := Lib.hid hz
  clear hc hk h2 hz h hm
  go_enter Try.func35, Try.ntmps35
  go_wp2_with (first | (go_at_call 33; refine (size_pk _ _ (by omega) (by omega)).mono ?_; rintro e w' ⟨rfl, rfl⟩) | (go_at_call 32; refine (err_new _ _).mono ?_; rintro e w1 ⟨rfl, hb⟩))
  go_loop [46] (fun i => ∃ j : Nat, j ≤ k - 1 ∧ i = .int .i64 j) (fun i => k - (intOf i).toNat)
  case atStart => exact ⟨0, Nat.zero_le _, rfl⟩
  case round =>
    obtain ⟨j, hj, rfl⟩ := hrel
    clear hc1
    by_cases hlt : j < k - 1
    · have hcj : w.cell? ⟨b, o + (bs.length - k) + j, none⟩ = some (.int .u8 (k : Int)) := by
        have h3 := HC.out (bs.length - k + j) (by omega)
        rw [← Nat.add_assoc] at h3
        rw [h3, mid_pk bs k j HK.out HM.out hlt]
      go_wp2
      go_round
      case rel => exact ⟨j + 1, by omega, by go_num⟩
      case measure => simp [intOf]; omega
    · go_wp2
      go_ret2
      refine ⟨_, rfl, ?_, rfl⟩
      have hol : (off bs).length = bs.length - k := by rw [off, HK.out, List.length_take]; omega
      refine Rd.shut hol.symm (by omega) (by unfold maxLen; omega) fun i hi => ?_
      rw [HC.out i (by omega), off_getD bs i (by rw [HK.out]; omega)]

theorem mids_all (kind : Nat) (bs : List UInt8) (k : Nat) (hk : lastOf bs = k) (h : ∀ i, i < k - 1 → midOk kind bs i = true) : midsOk kind bs = true := by
  unfold midsOk
  rw [hk, List.all_eq_true]
  exact fun i hi => h i (List.mem_range.1 hi)

theorem mid_byte (kind : Nat) (bs : List UInt8) (k j : Nat) (hk : lastOf bs = k) (x : Int) (hx : x = ((bs.getD (bs.length - k + j) 0).toNat : Int)) (h : midOk kind bs j = false) :
    x ≠ if kind = 0 then (k : Int) else 0 := by
  unfold midOk at h
  rw [hk, beq_eq_false_iff_ne] at h
  intro he
  apply h
  apply UInt8.toNat.inj
  have h1 : (((bs.getD (bs.length - k + j) 0).toNat : Nat) : Int) = if kind = 0 then (k : Int) else 0 := by rw [← hx, he]
  by_cases h0 : kind = 0
  · rw [if_pos h0] at h1 ⊢
    have : (bs.getD (bs.length - k + j) 0).toNat = k := by omega
    rw [this, ← hk]
    rfl
  · rw [if_neg h0] at h1 ⊢
    have : (bs.getD (bs.length - k + j) 0).toNat = 0 := by omega
    rw [this]
    rfl

theorem mid_byte_ok (kind : Nat) (bs : List UInt8) (k j : Nat) (hk : lastOf bs = k) (h : midOk kind bs j = true) : ((bs.getD (bs.length - k + j) 0).toNat : Int) = if kind = 0 then (k : Int) else 0 := by
  unfold midOk at h
  rw [hk, beq_iff_eq] at h
  rw [h]
  by_cases h0 : kind = 0
  · rw [if_pos h0, if_pos h0, ← hk]; rfl
  · rw [if_neg h0, if_neg h0]; rfl

theorem mids_step {kind : Nat} {bs : List UInt8} {j : Nat} (h : ∀ i, i < j → midOk kind bs i = true) (hj : midOk kind bs j = true) : ∀ i, i < j + 1 → midOk kind bs i = true := by
  intro i hi
  by_cases e : i = j
  · rw [e]; exact hj
  · exact h i (by omega)

theorem unpad_pk_mid (v : Value) (bs : List UInt8) (size : Nat) (w : World) (h : Rd w v bs) (hl : bs.length ≤ 300) (hs : 1 ≤ size) (hs2 : size ≤ 32) (h0 : headBad size bs = false) (h1 : lastBad size bs = false) (h2 : midsOk 0 bs = false) :
    Calls Try.prog 35 #[.int .u64 (size : Int), v] w fun e w' => ∃ p, e = .returned (.tuple #[.slice none 0 0, .iface 61 p]) ∧ Below w.heap.size w w' := by
  simp only [headBad, lastBad, Bool.or_eq_false_iff, decide_eq_false_iff_not, Decidable.not_not] at h0 h1
  obtain ⟨ha, hm⟩ := h0
  obtain ⟨hk0, hk1⟩ := h1
  obtain ⟨b, o, cap, rfl, hcap, hmx, hc⟩ := h.lay (by omega)
  unfold maxLen at hmx
  have hbz : ((bs.length : Int) == 0) = false := beq_eq_false_iff_ne.2 (by omega)
  have hb1 : ((bs.length : Int) % (size : Int) != 0) = false := by rw [bne_eq_false_iff_eq]; omega
  have hc1 := hc (bs.length - 1) (by omega)
  have hlb := lastOf_bd bs
  obtain ⟨k, hk⟩ : ∃ k, lastOf bs = k := ⟨_, rfl⟩
  have hz : ((bs.getD (bs.length - 1) 0).toNat : Int) = (k : Int) := by rw [← hk]; rfl
  rw [hz] at hc1
  rw [hk] at hk0 hk1 hlb
  have hle : size ≤ bs.length := by
    rcases Nat.lt_or_ge bs.length size with hlt | hge
    · rw [Nat.mod_eq_of_lt hlt] at hm; omega
    · exact hge
  have hb2 : ((k : Int) == 0) = false := beq_eq_false_iff_ne.2 (by omega)
  have HC := Lib.hid hc
  have HK := Lib.hid hk
  have HM := Lib.hid h2
  clear hc hk h2 hz h hm
  go_enter Try.func35, Try.ntmps35
  go_wp2_with (first | (go_at_call 33; refine (size_pk _ _ (by omega) (by omega)).mono ?_; rintro e w' ⟨rfl, rfl⟩) | (go_at_call 32; refine (err_new _ _).mono ?_; rintro e w1 ⟨rfl, hb⟩))
  go_loop [46] (fun i => ∃ j : Nat, j ≤ k - 1 ∧ i = .int .i64 j ∧ Hid (∀ i, i < j → midOk 0 bs i = true)) (fun i => k - (intOf i).toNat)
  case atStart => exact ⟨0, Nat.zero_le _, rfl, fun i hi => by omega⟩
  case round =>
    obtain ⟨j, hj, rfl, hall⟩ := hrel
    clear hc1
    by_cases hlt : j < k - 1
    · have hcj := HC.out (bs.length - k + j) (by omega)
      rw [← Nat.add_assoc] at hcj
      cases hmo : midOk 0 bs j with
      | true =>
        rw [mid_byte_ok 0 bs k j HK.out hmo, if_pos rfl] at hcj
        have HJ := Lib.hid hmo
        clear hmo
        go_wp2
        go_round
        case rel => exact ⟨j + 1, by omega, by go_num, mids_step hall.out HJ.out⟩
        case measure => simp [intOf]; omega
      | false =>
        obtain ⟨x, hx⟩ : ∃ x : Int, x = ((bs.getD (bs.length - k + j) 0).toNat : Int) := ⟨_, rfl⟩
        have hne := mid_byte 0 bs k j HK.out x hx hmo
        rw [if_pos rfl] at hne
        rw [← hx] at hcj
        have hxk : (x != (k : Int)) = true := bne_iff_ne.2 hne
        clear hx hne hmo
        go_wp2_with (go_at_call 32; refine (err_new _ _).mono ?_; rintro e w1 ⟨rfl, hb⟩)
        go_ret2
        exact ⟨_, rfl, hb⟩
    · have hjk : j = k - 1 := by omega
      have := mids_all 0 bs k HK.out (by have := hall.out; rw [hjk] at this; exact this)
      rw [HM.out] at this
      cases this

end Go.Proofs.Ytcfkdmcalpoooaa
