/-
  laws.FnFilled returns true and writes nothing that was there, for every two slices of bytes that can be read and every two ints; by the contracts of what it calls (impl.Unfilled, laws.below among them, here).
-/
import Derived.Test.YtcfkdmcalpoooaaRows
import Derived.WalkKit
import Derived.ProofKit
import Derived.WalkLawsBesides
import Derived.WalkSpells
import Derived.Below
import Derived.Lib.Hide
import Derived.Handy
import Derived.Deep.QuietTactic
import Derived.BigQuiet
import Derived.Test.YtcfkdmcalpoooaaOffs
namespace Go.Proofs.Ytcfkdmcalpoooaa
open Go.RowKit

theorem comesOff_split {size kind : Nat} {bs : List UInt8} (h : comesOff size kind bs = true) : headBad size bs = false ∧ lastBad size bs = false ∧ midsOk kind bs = true := by
  unfold comesOff at h
  simp only [Bool.and_eq_true, Bool.not_eq_true'] at h
  exact ⟨h.1.1, h.1.2, h.2⟩

theorem unpad_pk_no (v : Value) (bs : List UInt8) (size : Nat) (w : World) (h : Rd w v bs) (hl : bs.length ≤ 300) (hs : 1 ≤ size) (hs2 : size ≤ 32) (hno : comesOff size 0 bs = false) :
    Calls Try.prog 35 #[.int .u64 (size : Int), v] w fun e w' => ∃ p, e = .returned (.tuple #[.slice none 0 0, .iface 61 p]) ∧ Below w.heap.size w w' := by
  by_cases h0 : bs = []
  · subst h0
    exact unpad_pk_empty v size w h
  · have hp : 0 < bs.length := List.length_pos_iff.2 h0
    by_cases hm : bs.length % size = 0
    · by_cases hk : lastOf bs = 0 ∨ size < lastOf bs
      · exact unpad_pk_last v bs size w h hp hl hs hs2 hm hk
      · have h1 : headBad size bs = false := by simp [headBad, h0, hm]
        have h2 : lastBad size bs = false := by simp only [lastBad, Bool.or_eq_false_iff, decide_eq_false_iff_not]; omega
        refine unpad_pk_mid v bs size w h hl hs hs2 h1 h2 ?_
        simpa [comesOff, h1, h2] using hno
    · exact unpad_pk_odd v bs size w h hp hl hs hs2 hm

theorem unpad_an_no (v : Value) (bs : List UInt8) (size : Nat) (w : World) (h : Rd w v bs) (hl : bs.length ≤ 300) (hs : 1 ≤ size) (hs2 : size ≤ 32) (hno : comesOff size 1 bs = false) :
    Calls Try.prog 30 #[.int .u64 (size : Int), v] w fun e w' => ∃ p, e = .returned (.tuple #[.slice none 0 0, .iface 61 p]) ∧ Below w.heap.size w w' := by
  by_cases h0 : bs = []
  · subst h0
    exact unpad_an_empty v size w h
  · have hp : 0 < bs.length := List.length_pos_iff.2 h0
    by_cases hm : bs.length % size = 0
    · by_cases hk : lastOf bs = 0 ∨ size < lastOf bs
      · exact unpad_an_last v bs size w h hp hl hs hs2 hm hk
      · have h1 : headBad size bs = false := by simp [headBad, h0, hm]
        have h2 : lastBad size bs = false := by simp only [lastBad, Bool.or_eq_false_iff, decide_eq_false_iff_not]; omega
        refine unpad_an_mid v bs size w h hl hs hs2 h1 h2 ?_
        simpa [comesOff, h1, h2] using hno
    · exact unpad_an_odd v bs size w h hp hl hs hs2 hm

theorem kept_drewN (w : World) (n : Nat) : Below w.heap.size w (w.drewN n) := ⟨rfl, rfl, rfl, Nat.le_refl _, fun _ _ => rfl⟩

theorem unfilled_pk_yes (v : Value) (bs : List UInt8) (size : Nat) (w : World) (h : Rd w v bs) (hl : bs.length ≤ 300) (hs : 1 ≤ size) (hs2 : size ≤ 32) (hy : comesOff size 0 bs = true) :
    Calls Try.prog 7 #[v, .int .i64 (size : Int), .int .i64 0] w fun e w' => ∃ v', e = .returned (.tuple #[v', .bool true]) ∧ Rd w' v' (off bs) ∧ Below w.heap.size w w' := by
  have HR := Lib.hid h
  obtain ⟨c1, c2, c3⟩ := comesOff_split hy
  clear h hy
  go_enter Try.func7, Try.ntmps7
  go_wp2_with (go_at_call 10; refine (filler_pk _ _ (by omega) (by omega)).mono ?_; rintro e w' ⟨rfl, rfl⟩)
  refine (unpad_pk_yes v bs size _ HR.out hl hs hs2 c1 c2 c3).mono ?_
  rintro e w1 ⟨v', rfl, hr, rfl⟩
  have HV := Lib.hid hr
  clear hr
  go_wp2
  go_quiet (fail)
  go_wp2
  go_ret2
  have hb := kept_drewN w nq
  exact ⟨_, rfl, HV.out.later hb, hb⟩

theorem unfilled_pk_no (v : Value) (bs : List UInt8) (size : Nat) (w : World) (h : Rd w v bs) (hl : bs.length ≤ 300) (hs : 1 ≤ size) (hs2 : size ≤ 32) (hno : comesOff size 0 bs = false) :
    Calls Try.prog 7 #[v, .int .i64 (size : Int), .int .i64 0] w fun e w' => e = .returned (.tuple #[.slice none 0 0, .bool false]) ∧ Below w.heap.size w w' := by
  have HR := Lib.hid h
  have HN := Lib.hid hno
  clear h hno
  go_enter Try.func7, Try.ntmps7
  go_wp2_with (go_at_call 10; refine (filler_pk _ _ (by omega) (by omega)).mono ?_; rintro e w' ⟨rfl, rfl⟩)
  refine (unpad_pk_no v bs size _ HR.out hl hs hs2 HN.out).mono ?_
  rintro e w1 ⟨p, rfl, hb⟩
  have HB := Lib.hid hb
  clear hb
  go_wp2
  go_quiet (fail)
  go_wp2
  go_ret2
  exact ⟨rfl, HB.out.trans ((kept_drewN w1 nq).mono HB.out.size)⟩

theorem unfilled_an_yes (v : Value) (bs : List UInt8) (size : Nat) (w : World) (h : Rd w v bs) (hl : bs.length ≤ 300) (hs : 1 ≤ size) (hs2 : size ≤ 32) (hy : comesOff size 1 bs = true) :
    Calls Try.prog 7 #[v, .int .i64 (size : Int), .int .i64 1] w fun e w' => ∃ v', e = .returned (.tuple #[v', .bool true]) ∧ Rd w' v' (off bs) ∧ Below w.heap.size w w' := by
  have HR := Lib.hid h
  obtain ⟨c1, c2, c3⟩ := comesOff_split hy
  clear h hy
  go_enter Try.func7, Try.ntmps7
  go_wp2_with (go_at_call 10; refine (filler_an _ _ (by omega) (by omega)).mono ?_; rintro e w' ⟨rfl, rfl⟩)
  refine (unpad_an_yes v bs size _ HR.out hl hs hs2 c1 c2 c3).mono ?_
  rintro e w1 ⟨v', rfl, hr, rfl⟩
  have HV := Lib.hid hr
  clear hr
  go_wp2
  go_quiet (fail)
  go_wp2
  go_ret2
  have hb := kept_drewN w nq
  exact ⟨_, rfl, HV.out.later hb, hb⟩

theorem unfilled_an_no (v : Value) (bs : List UInt8) (size : Nat) (w : World) (h : Rd w v bs) (hl : bs.length ≤ 300) (hs : 1 ≤ size) (hs2 : size ≤ 32) (hno : comesOff size 1 bs = false) :
    Calls Try.prog 7 #[v, .int .i64 (size : Int), .int .i64 1] w fun e w' => e = .returned (.tuple #[.slice none 0 0, .bool false]) ∧ Below w.heap.size w w' := by
  have HR := Lib.hid h
  have HN := Lib.hid hno
  clear h hno
  go_enter Try.func7, Try.ntmps7
  go_wp2_with (go_at_call 10; refine (filler_an _ _ (by omega) (by omega)).mono ?_; rintro e w' ⟨rfl, rfl⟩)
  refine (unpad_an_no v bs size _ HR.out hl hs hs2 HN.out).mono ?_
  rintro e w1 ⟨p, rfl, hb⟩
  have HB := Lib.hid hb
  clear hb
  go_wp2
  go_quiet (fail)
  go_wp2
  go_ret2
  exact ⟨rfl, HB.out.trans ((kept_drewN w1 nq).mono HB.out.size)⟩

theorem filled_any (kind : Nat) (hk : kind = 0 ∨ kind = 1) (base : Nat) (v : Value) (bs : List UInt8) (size : Nat) (w : World) (h : w.ownsRow base 5 1 v bs.length (cellsOf bs)) (hbase : base ≤ w.heap.size) (hl : bs.length ≤ 300) (hs : 1 ≤ size) (hs2 : size ≤ 32) :
    Calls Try.prog 6 #[v, .int .i64 (size : Int), .int .i64 (kind : Int)] w fun e w' => ∃ v', e = .returned v' ∧ w'.ownsRow base 5 1 v' (filled size kind bs).length (cellsOf (filled size kind bs)) ∧ w.grownBy w' v.ownBlock := by
  rcases hk with rfl | rfl
  · exact filled_pk base v bs size w h hbase hl hs hs2
  · exact filled_an base v bs size w h hbase hl hs hs2

theorem unfilled_yes (kind : Nat) (hk : kind = 0 ∨ kind = 1) (v : Value) (bs : List UInt8) (size : Nat) (w : World) (h : Rd w v bs) (hl : bs.length ≤ 300) (hs : 1 ≤ size) (hs2 : size ≤ 32) (hy : comesOff size kind bs = true) :
    Calls Try.prog 7 #[v, .int .i64 (size : Int), .int .i64 (kind : Int)] w fun e w' => ∃ v', e = .returned (.tuple #[v', .bool true]) ∧ Rd w' v' (off bs) ∧ Below w.heap.size w w' := by
  rcases hk with rfl | rfl
  · exact unfilled_pk_yes v bs size w h hl hs hs2 hy
  · exact unfilled_an_yes v bs size w h hl hs hs2 hy

theorem unfilled_no (kind : Nat) (hk : kind = 0 ∨ kind = 1) (v : Value) (bs : List UInt8) (size : Nat) (w : World) (h : Rd w v bs) (hl : bs.length ≤ 300) (hs : 1 ≤ size) (hs2 : size ≤ 32) (hno : comesOff size kind bs = false) :
    Calls Try.prog 7 #[v, .int .i64 (size : Int), .int .i64 (kind : Int)] w fun e w' => e = .returned (.tuple #[.slice none 0 0, .bool false]) ∧ Below w.heap.size w w' := by
  rcases hk with rfl | rfl
  · exact unfilled_pk_no v bs size w h hl hs hs2 hno
  · exact unfilled_an_no v bs size w h hl hs hs2 hno

theorem spec_any (kind : Nat) (hk : kind = 0 ∨ kind = 1) (v : Value) (bs : List UInt8) (size : Nat) (w : World) (h : Rd w v bs) (hl : bs.length ≤ 300) (hs : 1 ≤ size) (hs2 : size ≤ 32) :
    Calls Try.prog 9 #[v, .int .i64 (size : Int), .int .i64 (kind : Int)] w fun e w' => ∃ v', e = .returned v' ∧ w'.ownsRow w.heap.size 5 1 v' (filled size kind bs).length (cellsOf (filled size kind bs)) ∧ Below w.heap.size w w' := by
  rcases hk with rfl | rfl
  · exact spec_pk v bs size w h hl hs hs2
  · exact spec_an v bs size w h hl hs hs2

/-- few bytes: as a slice of the call's own -/
theorem few_own (v : Value) (bs : List UInt8) (n : Nat) (w : World) (h : Rd w v bs) (hn : n ≤ 300) :
    Calls Try.prog 4 #[v, .int .i64 (n : Int)] w fun e w' => ∃ v', e = .returned v' ∧ w'.ownsRow w.heap.size 5 1 v' (bs.take n).length (cellsOf (bs.take n)) ∧ Below w.heap.size w w' :=
  (few_any v bs n w h hn).mono fun _ _ ⟨v', he, ho, hb⟩ => ⟨v', he, by rw [List.length_take, Nat.min_comm]; exact ho, hb⟩

theorem tmod_bd (x n : Int) (h0 : 0 ≤ x) (hn : 0 < n) : 0 ≤ x.tmod n ∧ x.tmod n < n := by
  rw [Int.tmod_eq_emod_of_nonneg h0]
  exact ⟨Int.emod_nonneg _ (by omega), Int.emod_lt_of_pos _ hn⟩

theorem below_any (x n : Int) (w : World) (hx : -9223372036854775808 ≤ x) (hx2 : x ≤ 9223372036854775807) (hn : 0 < n) (hn2 : n ≤ 1000) :
    Calls Try.prog 5 #[.int .i64 x, .int .i64 n] w fun e w' => ∃ r : Int, 0 ≤ r ∧ r < n ∧ e = .returned (.int .i64 r) ∧ w = w' := by
  go_enter Try.func5, Try.ntmps5
  go_wp2
  · go_ret
    have h : x < wrap64 (-wrap64 (x + 1)) := by assumption
    have h0 : 0 ≤ wrap64 (-wrap64 (x + 1)) := by unfold wrap64 at *; omega
    exact ⟨_, (tmod_bd _ n h0 hn).1, (tmod_bd _ n h0 hn).2, rfl, rfl⟩
  · go_ret
    have h : wrap64 (-wrap64 (x + 1)) ≤ x := by assumption
    have h0 : 0 ≤ x := by unfold wrap64 at *; omega
    exact ⟨_, (tmod_bd _ n h0 hn).1, (tmod_bd _ n h0 hn).2, rfl, rfl⟩

theorem below_nat (x : Int) (n : Nat) (w : World) (hx : -9223372036854775808 ≤ x) (hx2 : x ≤ 9223372036854775807) (hn : 0 < n) (hn2 : n ≤ 1000) :
    Calls Try.prog 5 #[.int .i64 x, .int .i64 (n : Int)] w fun e w' => ∃ r : Nat, r < n ∧ e = .returned (.int .i64 (r : Int)) ∧ w = w' :=
  (below_any x n w hx hx2 (by omega) (by omega)).mono fun _ _ ⟨r, h0, h1, he, hw⟩ => ⟨r.toNat, by omega, by rw [he]; congr; omega, hw⟩

theorem law_long (v0 v3 : Value) (b0 b3 : List UInt8) (x y : Int) (w : World) (h0 : Rd w v0 b0) (h3 : Rd w v3 b3) (hl : ¬ (b0.length ≤ 2147483647 ∧ b3.length ≤ 2147483647)) :
    Calls Try.prog 3 #[v0, .int .i64 x, .int .i64 y, v3] w fun e w' => e = .returned (.bool true) ∧ Below w.heap.size w w' := by
  obtain ⟨a0, c0, rfl, k1, k2, -⟩ := h0
  obtain ⟨a3, c3, rfl, k3, k4, -⟩ := h3
  unfold maxLen at k2 k4
  by_cases hb : b0.length ≤ 2147483647
  · have hb3 : 2147483647 < b3.length := by omega
    clear hl
    go_enter Try.func3, Try.ntmps3
    go_wp2_with fail
    go_ret
    exact ⟨rfl, Below.refl _ _⟩
  · clear hl
    go_enter Try.func3, Try.ntmps3
    go_wp2_with fail
    go_ret
    exact ⟨rfl, Below.refl _ _⟩

/-- few bytes: as a slice of the call's own, by a name of their own -/
theorem few_named (v : Value) (bs : List UInt8) (n : Nat) (w : World) (h : Rd w v bs) (hn : n ≤ 300) :
    Calls Try.prog 4 #[v, .int .i64 (n : Int)] w fun e w' => ∃ v' ps, e = .returned v' ∧ ps.length ≤ n ∧ (bs.length ≤ n → ps = bs) ∧ w'.ownsRow w.heap.size 5 1 v' ps.length (cellsOf ps) ∧ Below w.heap.size w w' :=
  (few_own v bs n w h hn).mono fun _ _ ⟨v', he, ho, hb⟩ => ⟨v', bs.take n, he, by rw [List.length_take]; omega, fun h => List.take_of_length_le h, ho, hb⟩

theorem rd_off {w : World} {b o cap k : Nat} {bs : List UInt8} (hc : bs.length ≤ cap) (hm : cap ≤ maxLen) (hk : lastOf bs = k) (h : ∀ i, i < bs.length → w.cell? ⟨b, o + i, none⟩ = some (.int .u8 ((bs.getD i 0).toNat : Int))) :
    Rd w (.slice (some ⟨b, o, none⟩) (bs.length - k) cap) (off bs) := by
  have hol : (off bs).length = bs.length - k := by rw [off, hk, List.length_take]; omega
  refine Rd.shut hol.symm (by omega) hm fun i hi => ?_
  rw [h i (by omega), off_getD bs i (by rw [hk]; omega)]

theorem law_short (v0 v3 : Value) (b0 b3 : List UInt8) (x y : Int) (w : World) (h0 : Rd w v0 b0) (h3 : Rd w v3 b3) (hl0 : b0.length ≤ 2147483647) (hl3 : b3.length ≤ 2147483647)
    (hx : -9223372036854775808 ≤ x) (hx2 : x ≤ 9223372036854775807) (hy : -9223372036854775808 ≤ y) (hy2 : y ≤ 9223372036854775807) :
    Calls Try.prog 3 #[v0, .int .i64 x, .int .i64 y, v3] w fun e w' => e = .returned (.bool true) ∧ Below w.heap.size w w' := by
  have H0 := Lib.hid h0
  have H3 := Lib.hid h3
  obtain ⟨a0, c0, rfl, -⟩ := h0
  obtain ⟨a3, c3, rfl, -⟩ := h3
  go_enter Try.func3, Try.ntmps3
  go_wp2_with fail
  refine (few_named _ b0 200 _ H0.out (by omega)).mono ?_
  rintro e w1 ⟨u0, p, rfl, hp, -, o0, g1⟩
  have O0 := Lib.hid o0
  have G1 := Lib.hid g1
  clear o0 g1
  go_wp2_with fail
  refine (below_nat x 32 _ hx hx2 (by omega) (by omega)).mono ?_
  rintro e w1' ⟨r, hr, rfl, rfl⟩
  go_wp2_with fail
  refine (below_nat y 2 _ hy hy2 (by omega) (by omega)).mono ?_
  rintro e w1' ⟨kind, hkind, rfl, rfl⟩
  go_wp2_with fail
  refine (few_named _ b3 200 _ (H3.out.later G1.out) (by omega)).mono ?_
  rintro e w2 ⟨u3, q, rfl, hq, -, o3, g2⟩
  have O3 := Lib.hid o3
  have G2 := Lib.hid g2
  clear o3 g2
  have R0 : Hid (Rd w2 u0 p) := (Rd.of_own O0.out).later G2.out
  have R3 : Hid (Rd w2 u3 q) := Rd.of_own O3.out
  have G12 : Hid (Below w.heap.size w w2) := G1.out.trans (G2.out.mono G1.out.size)
  obtain ⟨size, hsz, hs1, hs2⟩ : ∃ size : Nat, 1 + (r : Int) = (size : Int) ∧ 1 ≤ size ∧ size ≤ 32 := ⟨r + 1, by omega, by omega, by omega⟩
  have HS := Lib.hid hsz
  have HK : Hid (kind = 0 ∨ kind = 1) := by show _ ∨ _; omega
  clear hsz O0 O3 G1 G2 H0 H3 hx hx2 hy hy2
  go_wp2_with fail
  rw [HS.out]
  clear HS hr
  -- f := Filled(few(b), size, kind)
  refine (few_named _ p 200 _ R0.out (by omega)).mono ?_
  rintro e w3 ⟨u1, p', rfl, -, hpp, o1, g3⟩
  have hpp := hpp hp
  subst hpp
  have O1 := Lib.hid o1
  have G3 := Lib.hid g3
  clear o1 g3
  go_wp2_with fail
  refine (filled_any kind HK.out w2.heap.size u1 p' size _ O1.out G3.out.size (by omega) hs1 hs2).mono ?_
  rintro e w4 ⟨uf, rfl, of, gf⟩
  have G4 : Hid (Below w2.heap.size w2 w4) := G3.out.grown gf G3.out.size (fun k hk => (O1.out.lt k hk).1)
  obtain ⟨F, hF⟩ : ∃ F, F = filled size kind p' := ⟨_, rfl⟩
  have hfl : F.length ≤ 232 := by rw [hF, filled_length]; have := padLen_bd size p'.length hs1; omega
  have HY : Hid (comesOff size kind F = true) := by rw [hF]; exact comesOff_filled size kind p' hs1 hs2
  have HOF : Hid (off F = p') := by rw [hF]; exact off_filled size kind p' hs1 hs2
  rw [← hF] at of
  have RF : Hid (Rd w4 uf F) := Rd.of_own of
  have R04 : Hid (Rd w4 u0 p') := R0.out.later G4.out
  have R34 : Hid (Rd w4 u3 q) := R3.out.later G4.out
  have HF := Lib.hid hF
  clear of gf hF O1 G3
  go_wp2_with fail
  refine (few_named _ F 300 _ RF.out (by omega)).mono ?_
  rintro e w5 ⟨u2, F', rfl, -, hff, o2, g5⟩
  have hff := hff (by omega)
  subst hff
  have G5 : Hid (Below w4.heap.size w4 w5) := g5
  have R2 : Hid (Rd w5 u2 F') := Rd.of_own o2
  clear o2 g5
  go_wp2_with fail
  refine (unfilled_yes kind HK.out u2 F' size _ R2.out (by omega) hs1 hs2 HY.out).mono ?_
  rintro e w6 ⟨ub, rfl, rb, g6⟩
  rw [HOF.out] at rb
  have G46 : Hid (Below w4.heap.size w4 w6) := G5.out.trans (g6.mono G5.out.size)
  have RB : Hid (Rd w6 ub p') := rb
  have RF6 : Hid (Rd w6 uf F') := RF.out.later G46.out
  have R06 : Hid (Rd w6 u0 p') := R04.out.later G46.out
  have R36 : Hid (Rd w6 u3 q) := R34.out.later G46.out
  have G26 : Hid (Below w2.heap.size w2 w6) := G4.out.trans (G46.out.mono G4.out.size)
  clear rb g6 G5 R2 G4 G46 RF R04 R34
  go_wp2_with fail
  refine (spec_any kind HK.out u0 p' size _ R06.out (by omega) hs1 hs2).mono ?_
  rintro e w7 ⟨us, rfl, os, g7⟩
  rw [← HF.out] at os
  have G7 : Hid (Below w6.heap.size w6 w7) := g7
  have RS : Hid (Rd w7 us F') := Rd.of_own os
  clear os g7
  go_wp2_with fail
  refine (same_any uf us F' F' _ (RF6.out.later G7.out) RS.out).mono ?_
  rintro e w7' ⟨rfl, rfl⟩
  rw [beq_self_eq_true]
  go_wp2_with fail
  refine (same_any ub u0 p' p' _ (RB.out.later G7.out) (R06.out.later G7.out)).mono ?_
  rintro e w7' ⟨rfl, rfl⟩
  rw [beq_self_eq_true]
  have R37 : Hid (Rd w7 u3 q) := R36.out.later G7.out
  have G27 : Hid (Below w2.heap.size w2 w7) := G26.out.trans (G7.out.mono G26.out.size)
  clear RS RF6 R06 R36 G26 G7 RB HF HY HOF
  go_wp2_with fail
  -- the other bytes
  refine (few_named _ q 200 _ R37.out (by omega)).mono ?_
  rintro e w8 ⟨u4, q', rfl, -, hqq, o4, g8⟩
  have hqq := hqq hq
  subst hqq
  have G8 : Hid (Below w7.heap.size w7 w8) := g8
  have R4 : Hid (Rd w8 u4 q') := Rd.of_own o4
  have R38 : Hid (Rd w8 u3 q') := R37.out.later G8.out
  have G28 : Hid (Below w2.heap.size w2 w8) := G27.out.trans (G8.out.mono G27.out.size)
  clear o4 g8 R37 G27 G8
  go_wp2_with fail
  cases hc : comesOff size kind q' with
  | true =>
    refine (unfilled_yes kind HK.out u4 q' size _ R4.out (by omega) hs1 hs2 hc).mono ?_
    rintro e w9 ⟨ug, rfl, rg, g9⟩
    have RG : Hid (Rd w9 ug (off q')) := rg
    have R39 : Hid (Rd w9 u3 q') := R38.out.later g9
    have G29 : Hid (Below w2.heap.size w2 w9) := G28.out.trans (g9.mono G28.out.size)
    clear rg g9 R38 G28 R4
    obtain ⟨hh, hla, hmo⟩ := comesOff_split hc
    have hfo := filled_off size kind q' hs1 hh hla
    have HFO : Hid ((filled size kind (off q') == q') = true) := by rw [hfo, hmo]; exact rfl
    simp only [headBad, lastBad, Bool.or_eq_false_iff, decide_eq_false_iff_not, Decidable.not_not] at hh hla
    obtain ⟨hq0, hm⟩ := hh
    obtain ⟨hk0, hk1⟩ := hla
    obtain ⟨b9, o9, c9, rfl, hcap, hmx, hcell⟩ := R39.out.lay (by omega)
    unfold maxLen at hmx
    have hmb : ((q'.length : Int) % (size : Int) == 0) = true := beq_iff_eq.2 (by omega)
    have hc1 := hcell (q'.length - 1) (by omega)
    obtain ⟨k, hk⟩ : ∃ k, lastOf q' = k := ⟨_, rfl⟩
    have hz : ((q'.getD (q'.length - 1) 0).toNat : Int) = (k : Int) := by rw [← hk]; rfl
    rw [hz] at hc1
    have hlb : k < 256 := by rw [← hk]; exact lastOf_bd q'
    rw [hk] at hk0 hk1
    have hle : size ≤ q'.length := by
      rcases Nat.lt_or_ge q'.length size with hlt | hge
      · rw [Nat.mod_eq_of_lt hlt] at hm; omega
      · exact hge
    have RO : Hid (Rd w9 (.slice (some ⟨b9, o9, none⟩) (q'.length - k) c9) (off q')) := rd_off hcap (by unfold maxLen; omega) hk hcell
    have hol : (off q').length ≤ 300 := by rw [off, List.length_take]; omega
    clear hc hk hz hm hcell hfo hmo
    go_wp2_with fail
    refine (spec_any kind HK.out _ (off q') size _ RO.out hol hs1 hs2).mono ?_
    rintro e w10 ⟨us, rfl, os, g10⟩
    have RS : Hid (Rd w10 us (filled size kind (off q'))) := Rd.of_own os
    have R310 : Hid (Rd w10 (.slice (some ⟨b9, o9, none⟩) q'.length c9) q') := R39.out.later g10
    have RG10 : Hid (Rd w10 ug (off q')) := RG.out.later g10
    have RO10 : Hid (Rd w10 (.slice (some ⟨b9, o9, none⟩) (q'.length - k) c9) (off q')) := RO.out.later g10
    have G210 : Hid (Below w2.heap.size w2 w10) := G29.out.trans (g10.mono G29.out.size)
    clear os g10 R39 G29 RO hc1 RG
    go_wp2_with fail
    refine (same_any us _ (filled size kind (off q')) q' _ RS.out R310.out).mono ?_
    rintro e w10' ⟨rfl, rfl⟩
    rw [HFO.out]
    go_wp2_with fail
    refine (same_any ug _ (off q') (off q') _ RG10.out RO10.out).mono ?_
    rintro e w10' ⟨rfl, rfl⟩
    rw [beq_self_eq_true]
    go_wp2_with fail
    go_ret
    exact ⟨rfl, G12.out.trans (G210.out.mono G12.out.size)⟩
  | false =>
    refine (unfilled_no kind HK.out u4 q' size _ R4.out (by omega) hs1 hs2 hc).mono ?_
    rintro e w9 ⟨rfl, g9⟩
    have R39 : Hid (Rd w9 u3 q') := R38.out.later g9
    have G29 : Hid (Below w2.heap.size w2 w9) := G28.out.trans (g9.mono G28.out.size)
    clear g9 R38 G28 R4
    by_cases hq0 : q' = []
    · subst hq0
      obtain ⟨a9, c9, rfl, -⟩ := R39.out
      clear hc R39
      go_wp2_with fail
      go_ret
      exact ⟨rfl, G12.out.trans (G29.out.mono G12.out.size)⟩
    · have hpos := List.length_pos_iff.2 hq0
      obtain ⟨b9, o9, c9, rfl, hcap, hmx, hcell⟩ := R39.out.lay hpos
      unfold maxLen at hmx
      by_cases hm : q'.length % size = 0
      · have hmb : ((q'.length : Int) % (size : Int) == 0) = true := beq_iff_eq.2 (by omega)
        have hc1 := hcell (q'.length - 1) (by omega)
        obtain ⟨k, hk⟩ : ∃ k, lastOf q' = k := ⟨_, rfl⟩
        have hz : ((q'.getD (q'.length - 1) 0).toNat : Int) = (k : Int) := by rw [← hk]; rfl
        rw [hz] at hc1
        have hlb : k < 256 := by rw [← hk]; exact lastOf_bd q'
        by_cases hk0 : k = 0
        · subst hk0
          clear hc hk hz hm hcell R39
          go_wp2_with fail
          go_ret
          exact ⟨rfl, G12.out.trans (G29.out.mono G12.out.size)⟩
        · by_cases hk1 : size < k
          · clear hc hk hz hm hcell R39
            go_wp2_with fail
            go_ret
            exact ⟨rfl, G12.out.trans (G29.out.mono G12.out.size)⟩
          · have hh : headBad size q' = false := by simp [headBad, hq0, hm]
            have hla : lastBad size q' = false := by simp only [lastBad, hk, Bool.or_eq_false_iff, decide_eq_false_iff_not]; omega
            have hfo := filled_off size kind q' hs1 hh hla
            have hmo : midsOk kind q' = false := by simpa [comesOff, hh, hla] using hc
            have HFO : Hid ((filled size kind (off q') == q') = false) := by rw [hfo, hmo]; exact rfl
            have hle : size ≤ q'.length := by
              rcases Nat.lt_or_ge q'.length size with hlt | hge
              · rw [Nat.mod_eq_of_lt hlt] at hm; omega
              · exact hge
            have RO : Hid (Rd w9 (.slice (some ⟨b9, o9, none⟩) (q'.length - k) c9) (off q')) := rd_off hcap (by unfold maxLen; omega) hk hcell
            have hol : (off q').length ≤ 300 := by rw [off, List.length_take]; omega
            clear hc hk hz hm hcell hh hla hfo hmo
            go_wp2_with fail
            refine (spec_any kind HK.out _ (off q') size _ RO.out hol hs1 hs2).mono ?_
            rintro e w10 ⟨us, rfl, os, g10⟩
            have RS : Hid (Rd w10 us (filled size kind (off q'))) := Rd.of_own os
            have R310 : Hid (Rd w10 (.slice (some ⟨b9, o9, none⟩) q'.length c9) q') := R39.out.later g10
            have G210 : Hid (Below w2.heap.size w2 w10) := G29.out.trans (g10.mono G29.out.size)
            clear os g10 R39 G29 RO hc1
            go_wp2_with fail
            refine (same_any us _ (filled size kind (off q')) q' _ RS.out R310.out).mono ?_
            rintro e w10' ⟨rfl, rfl⟩
            rw [HFO.out]
            go_wp2_with fail
            go_ret
            exact ⟨rfl, G12.out.trans (G210.out.mono G12.out.size)⟩
      · have hmb : ((q'.length : Int) % (size : Int) == 0) = false := beq_eq_false_iff_ne.2 (by omega)
        clear hc hm hcell R39
        go_wp2_with fail
        go_ret
        exact ⟨rfl, G12.out.trans (G29.out.mono G12.out.size)⟩

end Go.Proofs.Ytcfkdmcalpoooaa
