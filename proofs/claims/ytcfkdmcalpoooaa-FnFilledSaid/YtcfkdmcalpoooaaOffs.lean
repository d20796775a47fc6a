/-
  Unpad of ANSI X9.23 and spec.Filled, by contracts. Conditions: at most 300 bytes, block sizes from 1 to 32.
-/
import Derived.Test.YtcfkdmcalpoooaaRows
import Derived.WalkKit
import Derived.ProofKit
import Derived.WalkLawsBesides
import Derived.WalkSpells
import Derived.Below
import Derived.Lib.Hide
import Derived.Handy
import Derived.Test.YtcfkdmcalpoooaaPads
namespace Go.Proofs.Ytcfkdmcalpoooaa
open Go.RowKit

theorem mid_an (bs : List UInt8) (k j : Nat) (hk : lastOf bs = k) (h : midsOk 1 bs = true) (hj : j < k - 1) : ((bs.getD (bs.length - k + j) 0).toNat : Int) = 0 := by
  unfold midsOk at h
  rw [hk] at h
  have := mid_byte_ok 1 bs k j hk (List.all_eq_true.1 h j (List.mem_range.2 hj))
  rw [this, if_neg (by omega)]

theorem unpad_an_empty (v : Value) (size : Nat) (w : World) (h : Rd w v []) :
    Calls Try.prog 30 #[.int .u64 (size : Int), v] w fun e w' => ∃ p, e = .returned (.tuple #[.slice none 0 0, .iface 61 p]) ∧ Below w.heap.size w w' := by
  obtain ⟨a, cap, rfl, -⟩ := h
  go_enter Try.func30, Try.ntmps30
  go_wp2_with (first | (go_at_call 28; refine (size_an _ _ (by omega) (by omega)).mono ?_; rintro e w' ⟨rfl, rfl⟩) | (go_at_call 32; refine (err_new _ _).mono ?_; rintro e w1 ⟨rfl, hb⟩))
  go_ret2
  exact ⟨_, rfl, hb⟩

theorem unpad_an_odd (v : Value) (bs : List UInt8) (size : Nat) (w : World) (h : Rd w v bs) (h0 : 0 < bs.length) (hl : bs.length ≤ 300) (hs : 1 ≤ size) (hs2 : size ≤ 32) (hm : bs.length % size ≠ 0) :
    Calls Try.prog 30 #[.int .u64 (size : Int), v] w fun e w' => ∃ p, e = .returned (.tuple #[.slice none 0 0, .iface 61 p]) ∧ Below w.heap.size w w' := by
  obtain ⟨a, cap, rfl, -⟩ := h
  have hbz : ((bs.length : Int) == 0) = false := beq_eq_false_iff_ne.2 (by omega)
  have hb1 : ((bs.length : Int) % (size : Int) != 0) = true := by rw [bne_iff_ne]; omega
  go_enter Try.func30, Try.ntmps30
  go_wp2_with (first | (go_at_call 28; refine (size_an _ _ (by omega) (by omega)).mono ?_; rintro e w' ⟨rfl, rfl⟩) | (go_at_call 32; refine (err_new _ _).mono ?_; rintro e w1 ⟨rfl, hb⟩))
  go_ret2
  exact ⟨_, rfl, hb⟩

/-- the last byte is 0, or greater than the size -/
theorem unpad_an_last (v : Value) (bs : List UInt8) (size : Nat) (w : World) (h : Rd w v bs) (h0 : 0 < bs.length) (hl : bs.length ≤ 300) (hs : 1 ≤ size) (hs2 : size ≤ 32) (hm : bs.length % size = 0) (hk : lastOf bs = 0 ∨ size < lastOf bs) :
    Calls Try.prog 30 #[.int .u64 (size : Int), v] w fun e w' => ∃ p, e = .returned (.tuple #[.slice none 0 0, .iface 61 p]) ∧ Below w.heap.size w w' := by
  obtain ⟨b, o, cap, rfl, hcap, hmx, hc⟩ := h.lay h0
  unfold maxLen at hmx
  have hbz : ((bs.length : Int) == 0) = false := beq_eq_false_iff_ne.2 (by omega)
  have hb1 : ((bs.length : Int) % (size : Int) != 0) = false := by rw [bne_eq_false_iff_eq]; omega
  have hc1 := hc (bs.length - 1) (by omega)
  obtain ⟨z, hz, hz1, hz2, hz3⟩ : ∃ z : Int, ((bs.getD (bs.length - 1) 0).toNat : Int) = z ∧ 0 ≤ z ∧ z ≤ 255 ∧ (lastOf bs : Int) = z := by
    refine ⟨_, rfl, by omega, ?_, rfl⟩
    have := UInt8.toNat_lt (bs.getD (bs.length - 1) 0)
    omega
  rw [hz] at hc1
  clear hc hz h
  by_cases hz0 : z = 0
  · subst hz0
    go_enter Try.func30, Try.ntmps30
    go_wp2_with (first | (go_at_call 28; refine (size_an _ _ (by omega) (by omega)).mono ?_; rintro e w' ⟨rfl, rfl⟩) | (go_at_call 32; refine (err_new _ _).mono ?_; rintro e w1 ⟨rfl, hb⟩))
    go_ret2
    exact ⟨_, rfl, hb⟩
  · have hb2 : (z == 0) = false := by simpa using hz0
    have hgt : (size : Int) < z := by omega
    clear hk hz3 hz0
    go_enter Try.func30, Try.ntmps30
    go_wp2_with (first | (go_at_call 28; refine (size_an _ _ (by omega) (by omega)).mono ?_; rintro e w' ⟨rfl, rfl⟩) | (go_at_call 32; refine (err_new _ _).mono ?_; rintro e w1 ⟨rfl, hb⟩))
    go_ret2
    exact ⟨_, rfl, hb⟩

theorem unpad_an_yes (v : Value) (bs : List UInt8) (size : Nat) (w : World) (h : Rd w v bs) (hl : bs.length ≤ 300) (hs : 1 ≤ size) (hs2 : size ≤ 32) (h0 : headBad size bs = false) (h1 : lastBad size bs = false) (h2 : midsOk 1 bs = true) :
    Calls Try.prog 30 #[.int .u64 (size : Int), v] w fun e w' => ∃ v', e = .returned (.tuple #[v', .nilIface]) ∧ Rd w v' (off bs) ∧ w = w' := by
  simp only [headBad, lastBad, Bool.or_eq_false_iff, decide_eq_false_iff_not, Decidable.not_not] at h0 h1
  obtain ⟨ha, hm⟩ := h0
  obtain ⟨hk0, hk1⟩ := h1
  obtain ⟨b, o, cap, rfl, hcap, hmx, hc⟩ := h.lay (by omega)
  unfold maxLen at hmx
  have hbz : ((bs.length : Int) == 0) = false := beq_eq_false_iff_ne.2 (by omega)
  have hb1 : ((bs.length : Int) % (size : Int) != 0) = false := by rw [bne_eq_false_iff_eq]; omega
  have hc1 := hc (bs.length - 1) (by omega)
  have hlb := lastOf_bd bs
  obtain ⟨k, hk⟩ : ∃ k, lastOf bs = k := ⟨_, rfl⟩
  have hz : ((bs.getD (bs.length - 1) 0).toNat : Int) = (k : Int) := by rw [← hk]; rfl
  rw [hz] at hc1
  rw [hk] at hk0 hk1 hlb
  have hle : size ≤ bs.length := by
    rcases Nat.lt_or_ge bs.length size with hlt | hge
    · rw [Nat.mod_eq_of_lt hlt] at hm; omega
    · exact hge
  have hb2 : ((k : Int) == 0) = false := by simp; omega
  have HC := Lib.hid hc
  have HK := Lib.hid hk
  have HM := Lib.hid h2
  have HZ := Lib.hid hz
  clear hc hk h2 hz h hm
  go_enter Try.func30, Try.ntmps30
  go_wp2_with (first | (go_at_call 28; refine (size_an _ _ (by omega) (by omega)).mono ?_; rintro e w' ⟨rfl, rfl⟩) | (go_at_call 32; refine (err_new _ _).mono ?_; rintro e w1 ⟨rfl, hb⟩))
  go_loop [46] (fun i => ∃ j : Nat, j ≤ k - 1 ∧ i = .int .i64 j) (fun i => k - (intOf i).toNat)
  case atStart => exact ⟨0, Nat.zero_le _, rfl⟩
  case round =>
    obtain ⟨j, hj, rfl⟩ := hrel
    clear hc1
    by_cases hlt : j < k - 1
    · have hcj : w.cell? ⟨b, o + (bs.length - k) + j, none⟩ = some (.int .u8 0) := by
        have h3 := HC.out (bs.length - k + j) (by omega)
        rw [← Nat.add_assoc] at h3
        rw [h3, mid_an bs k j HK.out HM.out hlt]
      go_wp2
      go_round
      case rel => exact ⟨j + 1, by omega, by go_num⟩
      case measure => simp [intOf]; omega
    · go_wp2
      go_ret2
      refine ⟨_, rfl, ?_, rfl⟩
      have hol : (off bs).length = bs.length - k := by rw [off, HK.out, List.length_take]; omega
      refine Rd.shut hol.symm (by omega) (by unfold maxLen; omega) fun i hi => ?_
      rw [HC.out i (by omega), off_getD bs i (by rw [HK.out]; omega)]

theorem unpad_an_mid (v : Value) (bs : List UInt8) (size : Nat) (w : World) (h : Rd w v bs) (hl : bs.length ≤ 300) (hs : 1 ≤ size) (hs2 : size ≤ 32) (h0 : headBad size bs = false) (h1 : lastBad size bs = false) (h2 : midsOk 1 bs = false) :
    Calls Try.prog 30 #[.int .u64 (size : Int), v] w fun e w' => ∃ p, e = .returned (.tuple #[.slice none 0 0, .iface 61 p]) ∧ Below w.heap.size w w' := by
  simp only [headBad, lastBad, Bool.or_eq_false_iff, decide_eq_false_iff_not, Decidable.not_not] at h0 h1
  obtain ⟨ha, hm⟩ := h0
  obtain ⟨hk0, hk1⟩ := h1
  obtain ⟨b, o, cap, rfl, hcap, hmx, hc⟩ := h.lay (by omega)
  unfold maxLen at hmx
  have hbz : ((bs.length : Int) == 0) = false := beq_eq_false_iff_ne.2 (by omega)
  have hb1 : ((bs.length : Int) % (size : Int) != 0) = false := by rw [bne_eq_false_iff_eq]; omega
  have hc1 := hc (bs.length - 1) (by omega)
  have hlb := lastOf_bd bs
  obtain ⟨k, hk⟩ : ∃ k, lastOf bs = k := ⟨_, rfl⟩
  have hz : ((bs.getD (bs.length - 1) 0).toNat : Int) = (k : Int) := by rw [← hk]; rfl
  rw [hz] at hc1
  rw [hk] at hk0 hk1 hlb
  have hle : size ≤ bs.length := by
    rcases Nat.lt_or_ge bs.length size with hlt | hge
    · rw [Nat.mod_eq_of_lt hlt] at hm; omega
    · exact hge
  have hb2 : ((k : Int) == 0) = false := beq_eq_false_iff_ne.2 (by omega)
  have HC := Lib.hid hc
  have HK := Lib.hid hk
  have HM := Lib.hid h2
  clear hc hk h2 hz h hm
  go_enter Try.func30, Try.ntmps30
  go_wp2_with (first | (go_at_call 28; refine (size_an _ _ (by omega) (by omega)).mono ?_; rintro e w' ⟨rfl, rfl⟩) | (go_at_call 32; refine (err_new _ _).mono ?_; rintro e w1 ⟨rfl, hb⟩))
  go_loop [46] (fun i => ∃ j : Nat, j ≤ k - 1 ∧ i = .int .i64 j ∧ Hid (∀ i, i < j → midOk 1 bs i = true)) (fun i => k - (intOf i).toNat)
  case atStart => exact ⟨0, Nat.zero_le _, rfl, fun i hi => by omega⟩
  case round =>
    obtain ⟨j, hj, rfl, hall⟩ := hrel
    clear hc1
    by_cases hlt : j < k - 1
    · have hcj := HC.out (bs.length - k + j) (by omega)
      rw [← Nat.add_assoc] at hcj
      cases hmo : midOk 1 bs j with
      | true =>
        rw [mid_byte_ok 1 bs k j HK.out hmo, if_neg (by omega)] at hcj
        have HJ := Lib.hid hmo
        clear hmo
        go_wp2
        go_round
        case rel => exact ⟨j + 1, by omega, by go_num, mids_step hall.out HJ.out⟩
        case measure => simp [intOf]; omega
      | false =>
        obtain ⟨x, hx⟩ : ∃ x : Int, x = ((bs.getD (bs.length - k + j) 0).toNat : Int) := ⟨_, rfl⟩
        have hne := mid_byte 1 bs k j HK.out x hx hmo
        rw [if_neg (by omega)] at hne
        rw [← hx] at hcj
        have hxk : (x != (0 : Int)) = true := bne_iff_ne.2 hne
        clear hx hne hmo
        go_wp2_with (go_at_call 32; refine (err_new _ _).mono ?_; rintro e w1 ⟨rfl, hb⟩)
        go_ret2
        exact ⟨_, rfl, hb⟩
    · have hjk : j = k - 1 := by omega
      have := mids_all 1 bs k HK.out (by have := hall.out; rw [hjk] at this; exact this)
      rw [HM.out] at this
      cases this

theorem Rd.later {w w' : World} {v : Value} {bs : List UInt8} (h : Rd w v bs) (hb : Below w.heap.size w w') : Rd w' v bs := by
  obtain ⟨a, cap, rfl, h1, h2, h3, h4⟩ := h
  exact ⟨a, cap, rfl, h1, h2, h3, fun x hx i u hu => cell_later hb (h4 x hx i u hu)⟩

/-- append of bytes that are read, to a slice of the call's own -/
theorem wpList_append_rd {w : World} {ops : Array Oper} {rest : List Oper} {o : Oper} {a : Act} {Q : Exit → Act → World → Prop} (hgd : o.guard = none) (s x : Operand)
    (ho : o.op = .call { callee := .builtin .append, args := #[s, x], argTypes := #[22, 22] })
    (base : Nat) (v : Value) (cs : List UInt8) (hs : a.eval s = v) (hown : w.ownsRow base 5 1 v cs.length (cellsOf cs))
    (u : Value) (bs : List UInt8) (hx : a.eval x = u) (hr : Rd w u bs) (hlen : cs.length + bs.length ≤ 1000) (hbase : base ≤ w.heap.size)
    (h : ∀ v' w', w'.ownsRow base 5 1 v' (cs ++ bs).length (cellsOf (cs ++ bs)) → w.grownBy w' v.ownBlock → wpList Try.prog ops Q rest (a.put o.dst v') w') : wpList Try.prog ops Q (o :: rest) a w := by
  obtain ⟨i0, hi, hz0, hz1, hz2⟩ := info_parts info5
  obtain ⟨ad, cap, rfl, h1, h2, h3, h4⟩ := hr
  cases ad with
  | none =>
    have h0 := h3 rfl
    subst h0
    have hb : bs = [] := List.eq_nil_of_length_eq_zero (by omega)
    subst hb
    refine wpList_append_own_none hgd s x 22 ho base 5 i0 1 Try.underlying22 hi v cs.length (cellsOf cs) hs hown hx ?_
    rw [List.append_nil] at h
    exact h v w hown ⟨rfl, rfl, rfl, Nat.le_refl _, fun _ _ _ => rfl⟩
  | some ad =>
    refine wpList_append_own w hgd s x 22 ho base 5 i0 (.int .u8 0) 1 1 Try.underlying22 hi hz0 hz1 hz2 rfl (by decide) v cs.length (cellsOf cs) hs hown ad bs.length cap (cellsOf bs) hx
      (by rw [cellsOf_length, Nat.mul_one]) (h4 ad rfl) (cellsOf_one _) (by unfold maxLen; omega) (by omega) hbase fun v' w' k1 k2 _ => h v' w' ?_ k2
    rw [List.length_append]
    simpa [cellsOf] using k1

theorem Rd.one {w : World} (b : UInt8) (g : Nat) (h : w.cell? ⟨g, 0, none⟩ = some (.int .u8 (b.toNat : Int))) : Rd w (.slice (some ⟨g, 0, none⟩) 1 1) [b] :=
  Rd.shut rfl (Nat.le_refl _) (by decide) fun i hi => by
    have : i = 0 := by simp only [List.length_singleton] at hi; omega
    subst this
    exact h

theorem own_start {w : World} {base kind P : Nat} {v : Value} {bs : List UInt8} (h : w.ownsRow base 5 1 v bs.length (cellsOf bs)) : Hid (w.ownsRow base 5 1 v (bs ++ padTo kind P 0).length (cellsOf (bs ++ padTo kind P 0))) := by
  have e : bs ++ padTo kind P 0 = bs := by simp [padTo]
  rw [e]
  exact h

theorem spec_pk (v : Value) (bs : List UInt8) (size : Nat) (w : World) (h : Rd w v bs) (hl : bs.length ≤ 300) (hs : 1 ≤ size) (hs2 : size ≤ 32) :
    Calls Try.prog 9 #[v, .int .i64 (size : Int), .int .i64 0] w fun e w' => ∃ v', e = .returned v' ∧ w'.ownsRow w.heap.size 5 1 v' (filled size 0 bs).length (cellsOf (filled size 0 bs)) ∧ Below w.heap.size w w' := by
  have HR := Lib.hid h
  obtain ⟨a, cap, rfl, -⟩ := h
  have hmod := Nat.mod_lt bs.length (show 0 < size by omega)
  obtain ⟨P, hP, eP⟩ : ∃ P, P = padLen size bs.length ∧ (size : Int) - (bs.length : Int) % (size : Int) = (P : Int) := by
    refine ⟨_, rfl, ?_⟩
    unfold padLen
    omega
  have hP1 : 1 ≤ P ∧ P ≤ size := by rw [hP]; exact padLen_bd size _ (by omega)
  have HP := Lib.hid hP
  have EP := Lib.hid eP
  clear hP eP
  go_enter Try.func9, Try.ntmps9
  go_wp2_with (at_builtin; refine wpList_append_rd rfl (.const (.slice none 0 0)) (.tmp 17) rfl w.heap.size _ [] rfl (World.ownsRow_nil _ _ _ _) _ bs rfl HR.out (by simp only [List.length_nil]; omega) (Nat.le_refl _) ?_)
  intro v1 w1 hown hgrow
  rw [EP.out]
  have HB : Below w.heap.size w w1 := (Below.refl _ w).grown hgrow (Nat.le_refl _) (fun k hk => by cases hk)
  have HO : Hid (w1.ownsRow w.heap.size 5 1 v1 bs.length (cellsOf bs)) := hown
  clear hown hgrow
  go_wp2
  go_loopw [8, 20] (fun v i wr => ∃ k : Nat, k ≤ P ∧ i = .int .i64 k ∧ Hid (wr.ownsRow w.heap.size 5 1 v (bs ++ padTo 0 P k).length (cellsOf (bs ++ padTo 0 P k))) ∧ Hid (Below w.heap.size w wr)) (fun _ i _ => P - (intOf i).toNat)
  case atStart => exact ⟨0, Nat.zero_le _, rfl, own_start HO.out, HB⟩
  case round =>
    obtain ⟨k, hk, rfl, hown, hbel⟩ := hrel
    clear HO HB
    by_cases hlt : k < P
    · have hsz : w.heap.size ≤ wr.heap.size := hbel.out.size
      go_wp2_with (at_builtin; refine wpList_append_rd rfl (.tmp 43) (.tmp 45) rfl w.heap.size _ (bs ++ padTo 0 P k) rfl (hown.out.alloc _) _ [padAt 0 P k] rfl ?_ ?_ ?_ ?_)
      · refine Rd.one _ _ ?_
        rw [padAt_zero P k (by omega)]
        exact cell_one_new _ _ _ 0 _ rfl
      · rw [List.length_append, padTo_length, List.length_singleton]; omega
      · simp; omega
      · intro v2 w2 ho hg
        have h3 : w2.ownsRow w.heap.size 5 1 v2 (bs ++ padTo 0 P (k + 1)).length (cellsOf (bs ++ padTo 0 P (k + 1))) := by
          rw [padTo_succ]
          simpa using ho
        have HO2 := Lib.hid h3
        have HB2 : Hid (Below w.heap.size w w2) := (hbel.out.alloc hsz _).grown hg (by simp; omega) (fun g hg' => (hown.out.lt g hg').1)
        clear ho hg hown hbel h3
        go_wp2
        go_roundw
        case rel => exact ⟨k + 1, by omega, by go_num, HO2, HB2⟩
        case measure => simp [intOf]; omega
    · have hkP : k = P := by omega
      have HK := Lib.hid hkP
      clear hkP
      go_wp2
      go_ret
      have h1 := hown.out
      rw [HK.out, filled_pad size 0 bs P HP.out] at h1
      exact ⟨_, rfl, h1, hbel.out⟩
theorem padAt_end (P k : Nat) (h : k + 1 = P) (h2 : P ≤ 32) : ((padAt 1 P k).toNat : Int) = (P : Int) := by
  rw [padAt, if_pos (.inr h), ofNat_toNat _ (by omega)]

theorem padAt_mid (P k : Nat) (h : ¬ k + 1 = P) : ((padAt 1 P k).toNat : Int) = 0 := by
  rw [padAt, if_neg (by omega)]
  rfl

theorem spec_an (v : Value) (bs : List UInt8) (size : Nat) (w : World) (h : Rd w v bs) (hl : bs.length ≤ 300) (hs : 1 ≤ size) (hs2 : size ≤ 32) :
    Calls Try.prog 9 #[v, .int .i64 (size : Int), .int .i64 1] w fun e w' => ∃ v', e = .returned v' ∧ w'.ownsRow w.heap.size 5 1 v' (filled size 1 bs).length (cellsOf (filled size 1 bs)) ∧ Below w.heap.size w w' := by
  have HR := Lib.hid h
  obtain ⟨a, cap, rfl, -⟩ := h
  have hmod := Nat.mod_lt bs.length (show 0 < size by omega)
  obtain ⟨P, hP, eP⟩ : ∃ P, P = padLen size bs.length ∧ (size : Int) - (bs.length : Int) % (size : Int) = (P : Int) := by
    refine ⟨_, rfl, ?_⟩
    unfold padLen
    omega
  have hP1 : 1 ≤ P ∧ P ≤ size := by rw [hP]; exact padLen_bd size _ (by omega)
  have HP := Lib.hid hP
  have EP := Lib.hid eP
  clear hP eP
  go_enter Try.func9, Try.ntmps9
  go_wp2_with (at_builtin; refine wpList_append_rd rfl (.const (.slice none 0 0)) (.tmp 17) rfl w.heap.size _ [] rfl (World.ownsRow_nil _ _ _ _) _ bs rfl HR.out (by simp only [List.length_nil]; omega) (Nat.le_refl _) ?_)
  intro v1 w1 hown hgrow
  rw [EP.out]
  have HB : Below w.heap.size w w1 := (Below.refl _ w).grown hgrow (Nat.le_refl _) (fun k hk => by cases hk)
  have HO : Hid (w1.ownsRow w.heap.size 5 1 v1 bs.length (cellsOf bs)) := hown
  clear hown hgrow
  go_wp2
  go_loopw [8, 20] (fun v i wr => ∃ k : Nat, k ≤ P ∧ i = .int .i64 k ∧ Hid (wr.ownsRow w.heap.size 5 1 v (bs ++ padTo 1 P k).length (cellsOf (bs ++ padTo 1 P k))) ∧ Hid (Below w.heap.size w wr)) (fun _ i _ => P - (intOf i).toNat)
  case atStart => exact ⟨0, Nat.zero_le _, rfl, own_start HO.out, HB⟩
  case round =>
    obtain ⟨k, hk, rfl, hown, hbel⟩ := hrel
    clear HO HB
    by_cases hlt : k < P
    · have hsz : w.heap.size ≤ wr.heap.size := hbel.out.size
      by_cases hend : k + 1 = P
      · have hx : ((k : Int) == (P : Int) - 1) = true := beq_iff_eq.2 (by omega)
        have hpa : Hid (((padAt 1 P k).toNat : Int) = (P : Int)) := padAt_end P k hend (by omega)
        clear hend
        go_wp2_with (at_builtin; refine wpList_append_rd rfl (.tmp 43) (.tmp 45) rfl w.heap.size _ (bs ++ padTo 1 P k) rfl (hown.out.alloc _) _ [padAt 1 P k] rfl ?_ ?_ ?_ ?_)
        · refine Rd.one _ _ ?_
          rw [hpa.out]
          exact cell_one_new _ _ _ 0 _ rfl
        · rw [List.length_append, padTo_length, List.length_singleton]; omega
        · simp; omega
        · intro v2 w2 ho hg
          have h3 : w2.ownsRow w.heap.size 5 1 v2 (bs ++ padTo 1 P (k + 1)).length (cellsOf (bs ++ padTo 1 P (k + 1))) := by
            rw [padTo_succ]
            simpa using ho
          have HO2 := Lib.hid h3
          have HB2 : Hid (Below w.heap.size w w2) := (hbel.out.alloc hsz _).grown hg (by simp; omega) (fun g hg' => (hown.out.lt g hg').1)
          clear ho hg hown hbel h3
          go_wp2
          go_roundw
          case rel => exact ⟨k + 1, by omega, by go_num, HO2, HB2⟩
          case measure => simp [intOf]; omega
      · have hx : ((k : Int) == (P : Int) - 1) = false := beq_eq_false_iff_ne.2 (by omega)
        have hpa : Hid (((padAt 1 P k).toNat : Int) = 0) := padAt_mid P k hend
        go_wp2_with (at_builtin; refine wpList_append_rd rfl (.tmp 43) (.tmp 45) rfl w.heap.size _ (bs ++ padTo 1 P k) rfl (hown.out.alloc _) _ [padAt 1 P k] rfl ?_ ?_ ?_ ?_)
        · refine Rd.one _ _ ?_
          rw [hpa.out]
          exact cell_one_new _ _ _ 0 _ rfl
        · rw [List.length_append, padTo_length, List.length_singleton]; omega
        · simp; omega
        · intro v2 w2 ho hg
          have h3 : w2.ownsRow w.heap.size 5 1 v2 (bs ++ padTo 1 P (k + 1)).length (cellsOf (bs ++ padTo 1 P (k + 1))) := by
            rw [padTo_succ]
            simpa using ho
          have HO2 := Lib.hid h3
          have HB2 : Hid (Below w.heap.size w w2) := (hbel.out.alloc hsz _).grown hg (by simp; omega) (fun g hg' => (hown.out.lt g hg').1)
          clear ho hg hown hbel h3
          go_wp2
          go_roundw
          case rel => exact ⟨k + 1, by omega, by go_num, HO2, HB2⟩
          case measure => simp [intOf]; omega
    · have hkP : k = P := by omega
      have HK := Lib.hid hkP
      clear hkP
      go_wp2
      go_ret
      have h1 := hown.out
      rw [HK.out, filled_pad size 1 bs P HP.out] at h1
      exact ⟨_, rfl, h1, hbel.out⟩

end Go.Proofs.Ytcfkdmcalpoooaa
