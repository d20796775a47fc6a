/-
  PLAIN LAW, no Go in sight: what fills up a block (kind 0: PKCS 7; any other kind: ANSI X9.23) comes off again, and bytes come off just if they are filled so; for block sizes from 1 to 32.
-/
namespace Go.Proofs.Ytcfkdmcalpoooaa

/-- the byte number i of n filling bytes -/
def padAt (kind n i : Nat) : UInt8 := if kind = 0 ∨ i + 1 = n then UInt8.ofNat n else 0
/-- the first k of n filling bytes -/
def padTo (kind n k : Nat) : List UInt8 := (List.range k).map (padAt kind n)
/-- how many bytes fill up -/
def padLen (size len : Nat) : Nat := size - len % size
def filled (size kind : Nat) (bs : List UInt8) : List UInt8 := bs ++ padTo kind (padLen size bs.length) (padLen size bs.length)
/-- the last byte, as a number -/
def lastOf (bs : List UInt8) : Nat := (bs.getD (bs.length - 1) 0).toNat
/-- is the byte number i, of those between the first len - k and the last one, right? -/
def midOk (kind : Nat) (bs : List UInt8) (i : Nat) : Bool := bs.getD (bs.length - lastOf bs + i) 0 == (if kind = 0 then bs.getD (bs.length - 1) 0 else 0)
def headBad (size : Nat) (bs : List UInt8) : Bool := decide (bs.length = 0) || decide (bs.length % size ≠ 0)
def lastBad (size : Nat) (bs : List UInt8) : Bool := decide (lastOf bs = 0) || decide (size < lastOf bs)
def midsOk (kind : Nat) (bs : List UInt8) : Bool := (List.range (lastOf bs - 1)).all (midOk kind bs)
/-- does what is filled come off? -/
def comesOff (size kind : Nat) (bs : List UInt8) : Bool := !headBad size bs && !lastBad size bs && midsOk kind bs
/-- what is left then -/
def off (bs : List UInt8) : List UInt8 := bs.take (bs.length - lastOf bs)

theorem padTo_length (kind n k : Nat) : (padTo kind n k).length = k := by simp [padTo]
theorem padTo_succ (kind n k : Nat) : padTo kind n (k + 1) = padTo kind n k ++ [padAt kind n k] := by simp [padTo, List.range_succ]
theorem padTo_getD (kind n k i : Nat) (h : i < k) : (padTo kind n k).getD i 0 = padAt kind n i := by
  simp [padTo, h]
theorem padLen_bd (size len : Nat) (h : 0 < size) : 1 ≤ padLen size len ∧ padLen size len ≤ size := by
  unfold padLen
  have := Nat.mod_lt len h
  omega
theorem filled_length (size kind : Nat) (bs : List UInt8) : (filled size kind bs).length = bs.length + padLen size bs.length := by
  simp [filled, padTo_length]
theorem filled_mod (size len : Nat) (h : 0 < size) : (len + padLen size len) % size = 0 := by
  unfold padLen
  have h1 := Nat.mod_add_div len size
  have h2 := Nat.mod_lt len h
  have : len + (size - len % size) = size * (len / size + 1) := by rw [Nat.mul_add]; omega
  rw [this, Nat.mul_mod_right]

theorem getD_app_right (a b : List UInt8) (i : Nat) : (a ++ b).getD (a.length + i) 0 = b.getD i 0 := by
  simp [List.getD, List.getElem?_append_right (Nat.le_add_right _ _)]

theorem ofNat_toNat (n : Nat) (h : n < 256) : (UInt8.ofNat n).toNat = n := by
  simp [UInt8.toNat_ofNat']; omega

theorem lastOf_filled (size kind : Nat) (bs : List UInt8) (h : 0 < size) (h2 : size ≤ 32) : lastOf (filled size kind bs) = padLen size bs.length := by
  have hb := padLen_bd size bs.length h
  unfold lastOf
  rw [filled_length]
  have e : bs.length + padLen size bs.length - 1 = bs.length + (padLen size bs.length - 1) := by omega
  rw [e, filled, getD_app_right, padTo_getD _ _ _ _ (by omega), padAt, if_pos (by omega), ofNat_toNat _ (by omega)]

theorem off_filled (size kind : Nat) (bs : List UInt8) (h : 0 < size) (h2 : size ≤ 32) : off (filled size kind bs) = bs := by
  unfold off
  rw [lastOf_filled size kind bs h h2, filled_length, Nat.add_sub_cancel, filled, List.take_left]

theorem comesOff_filled (size kind : Nat) (bs : List UInt8) (h : 0 < size) (h2 : size ≤ 32) : comesOff size kind (filled size kind bs) = true := by
  have hb := padLen_bd size bs.length h
  have hl := lastOf_filled size kind bs h h2
  unfold comesOff
  have h1 : headBad size (filled size kind bs) = false := by
    unfold headBad
    rw [filled_length, filled_mod size _ h]
    simp; omega
  have h3 : lastBad size (filled size kind bs) = false := by
    unfold lastBad
    rw [hl]
    simp; omega
  rw [h1, h3]
  simp only [Bool.not_false, Bool.true_and]
  unfold midsOk
  rw [List.all_eq_true]
  intro i hi
  rw [hl] at hi
  have hi := List.mem_range.1 hi
  unfold midOk
  rw [hl, filled_length]
  have e1 : bs.length + padLen size bs.length - padLen size bs.length + i = bs.length + i := by omega
  have e2 : bs.length + padLen size bs.length - 1 = bs.length + (padLen size bs.length - 1) := by omega
  rw [e1, e2, filled, getD_app_right, getD_app_right, padTo_getD _ _ _ _ (by omega), padTo_getD _ _ _ _ (by omega)]
  unfold padAt
  by_cases hk : kind = 0
  · simp [hk]
  · rw [if_neg (by omega), if_neg hk]
    rfl

theorem ext_getD {a b : List UInt8} (hl : a.length = b.length) (h : ∀ i, i < a.length → a.getD i 0 = b.getD i 0) : a = b := by
  apply List.ext_getElem hl
  intro i h1 h2
  have := h i h1
  simpa [List.getD, h1, h2] using this

/-- whether the last bytes are right, for bytes of whole blocks whose last byte is from 1 to the size -/
theorem filled_off (size kind : Nat) (bs : List UInt8) (h : 0 < size) (hh : headBad size bs = false) (hl : lastBad size bs = false) :
    (filled size kind (off bs) == bs) = midsOk kind bs := by
  simp only [headBad, lastBad, Bool.or_eq_false_iff, decide_eq_false_iff_not, Decidable.not_not] at hh hl
  obtain ⟨h1, h2⟩ := hh
  obtain ⟨h3, h4⟩ := hl
  have hle : size ≤ bs.length := by
    rcases Nat.lt_or_ge bs.length size with hlt | hge
    · rw [Nat.mod_eq_of_lt hlt] at h2; omega
    · exact hge
  have hol : (off bs).length = bs.length - lastOf bs := by simp [off]
  have hp : padLen size (off bs).length = lastOf bs := by
    rw [hol]
    unfold padLen
    obtain ⟨q, hq⟩ := Nat.dvd_of_mod_eq_zero h2
    have hq1 : 1 ≤ q := by
      rcases Nat.eq_zero_or_pos q with h0 | h0
      · subst h0; omega
      · exact h0
    obtain ⟨r, rfl⟩ : ∃ r, q = r + 1 := ⟨q - 1, by omega⟩
    rw [hq, Nat.mul_add, Nat.mul_one]
    by_cases hs : lastOf bs = size
    · rw [hs, Nat.add_sub_cancel, Nat.mul_mod_right]; omega
    · have e : size * r + size - lastOf bs = (size - lastOf bs) + size * r := by omega
      rw [e, Nat.add_mul_mod_self_left, Nat.mod_eq_of_lt (by omega)]
      omega
  have hfl : (filled size kind (off bs)).length = bs.length := by rw [filled_length, hp, hol]; omega
  rw [Bool.eq_iff_iff, beq_iff_eq]
  unfold midsOk
  rw [List.all_eq_true]
  have hget : ∀ i, i < lastOf bs → (filled size kind (off bs)).getD (bs.length - lastOf bs + i) 0 = padAt kind (lastOf bs) i := by
    intro i hi
    rw [← hol, filled, getD_app_right, hp, padTo_getD _ _ _ _ hi]
  have hn256 : lastOf bs < 256 := by unfold lastOf; exact UInt8.toNat_lt _
  have hlast : UInt8.ofNat (lastOf bs) = bs.getD (bs.length - 1) 0 := by
    unfold lastOf; simp
  constructor
  · intro he i hi
    have hi := List.mem_range.1 hi
    have := hget i (by omega)
    rw [he] at this
    unfold midOk
    rw [this, padAt, hlast]
    by_cases hk : kind = 0
    · simp [hk]
    · rw [if_neg (by omega), if_neg hk]; rfl
  · intro hm
    apply ext_getD hfl
    intro i hi
    rw [hfl] at hi
    rcases Nat.lt_or_ge i (bs.length - lastOf bs) with hlt | hge
    · have : i < (off bs).length := by omega
      rw [filled, List.getD_eq_getElem?_getD, List.getD_eq_getElem?_getD, List.getElem?_append_left this, off, List.getElem?_take_of_lt hlt]
    · obtain ⟨j, rfl⟩ : ∃ j, i = bs.length - lastOf bs + j := ⟨i - (bs.length - lastOf bs), by omega⟩
      rw [hget j (by omega)]
      by_cases hj : j + 1 = lastOf bs
      · rw [padAt, if_pos (.inr hj), hlast]
        congr 1
        omega
      · have := hm j (List.mem_range.2 (by omega))
        unfold midOk at this
        rw [beq_iff_eq] at this
        rw [this, padAt]
        by_cases hk : kind = 0
        · simp [hk, hlast]
        · rw [if_neg (by omega), if_neg hk]

end Go.Proofs.Ytcfkdmcalpoooaa
