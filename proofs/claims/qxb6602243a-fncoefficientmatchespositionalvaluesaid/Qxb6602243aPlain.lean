/- Plain mathematics of the seat: no Go in sight. -/
namespace Go.Proofs.Qxb6602243a.Pl

def isDig (c : UInt8) : Bool := decide (48 ≤ c.toNat ∧ c.toNat ≤ 57)
def allD (l : List UInt8) : Bool := l.all isDig
def cnt (l : List UInt8) : Int := (l.filter isDig).length
/-- the value of the digits l, read behind c -/
def val (c : Int) : List UInt8 → Int
  | [] => c
  | b :: l => val (c * 10 + ((b.toNat : Int) - 48)) l

theorem take_snoc (s : ByteArray) (k : Nat) (h : k < s.size) : s.data.toList.take (k + 1) = s.data.toList.take k ++ [s[k]] := by
  rw [List.take_succ_eq_append_getElem (by simpa using h)]; rfl

theorem take_all (s : ByteArray) : s.data.toList.take s.size = s.data.toList :=
  List.take_of_length_le (by simp)

theorem isDig_iff (c : UInt8) : isDig c = true ↔ 48 ≤ (c.toNat : Int) ∧ (c.toNat : Int) ≤ 57 := by
  unfold isDig; simp; omega

theorem allD_snoc (l : List UInt8) (c : UInt8) : allD (l ++ [c]) = (allD l && isDig c) := by
  simp [allD]

theorem allD_app (l m : List UInt8) : allD (l ++ m) = (allD l && allD m) := by
  simp [allD]

/-- a byte that is no digit, at k -/
theorem allD_no (s : ByteArray) (k : Nat) (h : k < s.size) (hd : isDig s[k] = false) : allD s.data.toList = false := by
  have e : allD (s.data.toList.take (k + 1)) = false := by rw [take_snoc s k h, allD_snoc, hd]; simp
  have : s.data.toList = s.data.toList.take (k + 1) ++ s.data.toList.drop (k + 1) := (List.take_append_drop _ _).symm
  rw [this, allD_app, e]; rfl

theorem cnt_snoc (l : List UInt8) (c : UInt8) : cnt (l ++ [c]) = cnt l + if isDig c = true then 1 else 0 := by
  unfold cnt
  rw [List.filter_append]
  by_cases h : isDig c = true <;> simp [h]

theorem cnt_bd (l : List UInt8) : 0 ≤ cnt l ∧ cnt l ≤ l.length := by
  unfold cnt; exact ⟨by omega, by have := List.length_filter_le isDig l; omega⟩

theorem cnt_all (l : List UInt8) : (cnt l = l.length) ↔ allD l = true := by
  unfold cnt allD
  rw [List.all_eq_true]
  constructor
  · intro h
    exact List.length_filter_eq_length_iff.1 (by omega)
  · intro h
    have := List.length_filter_eq_length_iff.2 h
    omega

theorem cnt_eq (s : ByteArray) : (cnt s.data.toList == (s.size : Int)) = allD s.data.toList := by
  have h := cnt_all s.data.toList
  have hl : (s.data.toList.length : Int) = (s.size : Int) := by simp
  rw [hl] at h
  rw [Bool.eq_iff_iff, beq_iff_eq]; exact h

theorem val_snoc (l : List UInt8) (b : UInt8) : ∀ c : Int, val c (l ++ [b]) = val c l * 10 + ((b.toNat : Int) - 48) := by
  induction l with
  | nil => intro c; rfl
  | cons a l ih => intro c; exact ih _

theorem val_app (l m : List UInt8) : ∀ c : Int, val c (l ++ m) = val (val c l) m := by
  induction l with
  | nil => intro c; rfl
  | cons a l ih => intro c; exact ih _

/-- digits alone: from c below 10^n the value stays below 10^(n + length) -/
theorem val_bd (l : List UInt8) : ∀ (c : Int) (n : Nat), allD l = true → 0 ≤ c → c < 10 ^ n → 0 ≤ val c l ∧ val c l < 10 ^ (n + l.length) := by
  induction l with
  | nil => intro c n _ h0 h1; exact ⟨h0, h1⟩
  | cons b l ih =>
    intro c n hd h0 h1
    simp only [allD, List.all_cons, Bool.and_eq_true] at hd
    have hb := (isDig_iff b).1 hd.1
    have := ih (c * 10 + ((b.toNat : Int) - 48)) (n + 1) hd.2 (by omega) (by rw [Int.pow_succ]; omega)
    rw [show n + (b :: l).length = n + 1 + l.length by simp; omega]
    exact this

end Go.Proofs.Qxb6602243a.Pl
