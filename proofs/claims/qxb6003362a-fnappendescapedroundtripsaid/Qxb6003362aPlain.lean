namespace Go.Proofs.Qxb6003362a

/-- What appendEscaped writes for one byte. -/
def esc1 (q : Bool) (c : UInt8) : List UInt8 :=
  if c = 92 then [92, 92] else if c = 10 then [92, 110] else if c = 34 then (if q then [92, 34] else [c]) else [c]

def esc (q : Bool) (s : List UInt8) : List UInt8 := s.flatMap (esc1 q)

theorem esc_nil (q : Bool) : esc q [] = [] := rfl
theorem esc_snoc (q : Bool) (l : List UInt8) (c : UInt8) : esc q (l ++ [c]) = esc q l ++ esc1 q c := by simp [esc]
theorem esc_cons (q : Bool) (l : List UInt8) (c : UInt8) : esc q (c :: l) = esc1 q c ++ esc q l := by simp [esc]
theorem esc_append (q : Bool) (l m : List UInt8) : esc q (l ++ m) = esc q l ++ esc q m := by simp [esc]

theorem esc1_len (q : Bool) (c : UInt8) : 1 ≤ (esc1 q c).length ∧ (esc1 q c).length ≤ 2 := by
  unfold esc1; repeat' split
  all_goals simp

theorem esc_len (q : Bool) (l : List UInt8) : l.length ≤ (esc q l).length ∧ (esc q l).length ≤ 2 * l.length := by
  induction l with
  | nil => simp [esc]
  | cons c l ih => rw [esc_cons]; have := esc1_len q c; simp; omega

theorem take_snoc {l : List UInt8} {k : Nat} (h : k < l.length) : l.take (k + 1) = l.take k ++ [l[k]] := by
  rw [List.take_succ_eq_append_getElem h]

theorem esc_take_succ (q : Bool) {l : List UInt8} {k : Nat} (h : k < l.length) : esc q (l.take (k + 1)) = esc q (l.take k) ++ esc1 q l[k] := by
  rw [take_snoc h, esc_snoc]

theorem esc_split (q : Bool) {l : List UInt8} {k : Nat} (h : k < l.length) : esc q l = esc q (l.take k) ++ (esc1 q l[k] ++ esc q (l.drop (k + 1))) := by
  conv => lhs; rw [← List.take_append_drop (k + 1) l]
  rw [esc_append, esc_take_succ q h, List.append_assoc]

/-- Where the walk through 'esc q l' stands behind the first k bytes of l: the bytes there. -/
theorem esc_at (q : Bool) {l : List UInt8} {k : Nat} (h : k < l.length) (j : Nat) (hj : j < (esc1 q l[k]).length) :
    (esc q l)[(esc q (l.take k)).length + j]? = (esc1 q l[k])[j]? := by
  rw [esc_split q h, List.getElem?_append_right (by omega), List.getElem?_append_left (by omega)]
  congr 1; omega

theorem esc_take_le (q : Bool) (l : List UInt8) (k : Nat) : (esc q (l.take k)).length ≤ (esc q l).length := by
  conv => rhs; rw [← List.take_append_drop k l]
  rw [esc_append]; simp

theorem esc_take_lt (q : Bool) {l : List UInt8} {k : Nat} (h : k < l.length) : (esc q (l.take k)).length + (esc1 q l[k]).length ≤ (esc q l).length := by
  have := esc_take_le q l (k + 1)
  rw [esc_take_succ q h] at this
  simpa using this

theorem esc1_bs (q : Bool) {c : UInt8} (h : c = 92) : esc1 q c = [92, 92] := by simp [esc1, h]
theorem esc1_nl (q : Bool) {c : UInt8} (h : c = 10) : esc1 q c = [92, 110] := by simp [esc1, h]
theorem esc1_qt {c : UInt8} (h : c = 34) : esc1 true c = [92, 34] := by simp [esc1, h]
theorem esc1_uq {c : UInt8} (h : c = 34) : esc1 false c = [c] := by simp [esc1, h]
theorem esc1_no (q : Bool) {c : UInt8} (h1 : ¬ c = 92) (h2 : ¬ c = 10) (h3 : ¬ c = 34) : esc1 q c = [c] := by simp [esc1, h1, h2, h3]

end Go.Proofs.Qxb6003362a
