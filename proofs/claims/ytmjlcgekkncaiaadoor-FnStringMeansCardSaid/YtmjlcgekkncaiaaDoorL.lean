/- The plain law: the literal that QuoteString writes for ASCII bytes, and where its parts stand. No program in sight. -/
namespace Go.Proofs.YtmjlcgekkncaiaaDoor

/-- A hexadecimal digit, in small letters. -/
def hexd (n : Nat) : UInt8 := if n < 10 then (48 + n).toUInt8 else (87 + n).toUInt8

/-- What stands in a literal (between marks q) for one ASCII byte. -/
def unit (q c : UInt8) : List UInt8 :=
  if c = q then [92, q] else if c = 10 then [92, 110] else if c = 13 then [92, 114] else if c = 9 then [92, 116] else if c = 92 then [92, 92]
  else if 32 ≤ c.toNat ∧ c.toNat ≤ 126 then [c] else [92, 120, hexd (c.toNat / 16), hexd (c.toNat % 16)]

def body (q : UInt8) (l : List UInt8) : List UInt8 := l.flatMap (unit q)
def lit (q : UInt8) (l : List UInt8) : List UInt8 := q :: (body q l ++ [q])

/-- The quotation mark that is chosen. -/
def markOf (l : List UInt8) : UInt8 := if !l.contains 39 && l.contains 34 then 39 else 34

theorem markOf_or (l : List UInt8) : markOf l = 34 ∨ markOf l = 39 := by
  unfold markOf; split <;> simp

theorem unit_len (q c : UInt8) : 1 ≤ (unit q c).length ∧ (unit q c).length ≤ 4 := by
  unfold unit; repeat' split
  all_goals simp

theorem body_nil (q : UInt8) : body q [] = [] := rfl
theorem body_cons (q c : UInt8) (l : List UInt8) : body q (c :: l) = unit q c ++ body q l := rfl
theorem body_append (q : UInt8) (l m : List UInt8) : body q (l ++ m) = body q l ++ body q m := by
  unfold body; exact List.flatMap_append

theorem body_len (q : UInt8) (l : List UInt8) : l.length ≤ (body q l).length ∧ (body q l).length ≤ 4 * l.length := by
  induction l with
  | nil => simp [body]
  | cons c l ih =>
    have h := unit_len q c
    rw [body_cons, List.length_append, List.length_cons]
    omega

theorem lit_len (q : UInt8) (l : List UInt8) : (lit q l).length = (body q l).length + 2 := by simp [lit]

/-- Where the k-th byte's part begins. -/
def placeAt (q : UInt8) (l : List UInt8) (k : Nat) : Nat := 1 + (body q (l.take k)).length

theorem placeAt_zero (q : UInt8) (l : List UInt8) : placeAt q l 0 = 1 := rfl

theorem take_snoc' (l : List UInt8) (k : Nat) (h : k < l.length) : l.take (k + 1) = l.take k ++ [l[k]] := by
  rw [List.take_add_one, List.getElem?_eq_getElem h]; rfl

theorem placeAt_succ (q : UInt8) (l : List UInt8) (k : Nat) (h : k < l.length) : placeAt q l (k + 1) = placeAt q l k + (unit q l[k]).length := by
  unfold placeAt
  rw [take_snoc' l k h, body_append, List.length_append, body_cons, body_nil, List.append_nil]
  omega

theorem placeAt_end (q : UInt8) (l : List UInt8) : placeAt q l l.length + 1 = (lit q l).length := by
  unfold placeAt
  rw [List.take_length, lit_len]
  omega

theorem placeAt_le (q : UInt8) (l : List UInt8) (k : Nat) : placeAt q l k + 1 ≤ (lit q l).length := by
  unfold placeAt
  rw [lit_len]
  have h : body q l = body q (l.take k) ++ body q (l.drop k) := by rw [← body_append, List.take_append_drop]
  rw [h, List.length_append]
  omega

/-- What stands from the k-th byte's part on. -/
theorem lit_drop (q : UInt8) (l : List UInt8) (k : Nat) : (lit q l).drop (placeAt q l k) = body q (l.drop k) ++ [q] := by
  have h : body q l = body q (l.take k) ++ body q (l.drop k) := by rw [← body_append, List.take_append_drop]
  unfold lit placeAt
  rw [h, Nat.add_comm, List.drop_succ_cons, List.append_assoc, List.drop_left' rfl]

theorem lit_drop_at (q : UInt8) (l : List UInt8) (k : Nat) (h : k < l.length) : (lit q l).drop (placeAt q l k) = unit q l[k] ++ (body q (l.drop (k + 1)) ++ [q]) := by
  rw [lit_drop, List.drop_eq_getElem_cons h, body_cons, List.append_assoc]

theorem lit_drop_end (q : UInt8) (l : List UInt8) : (lit q l).drop (placeAt q l l.length) = [q] := by
  rw [lit_drop, List.drop_length, body_nil, List.nil_append]

/-- The first byte of a part is not the mark. -/
theorem unit_head (q c : UInt8) (hq : q = 34 ∨ q = 39) : ∃ x t, unit q c = x :: t ∧ x ≠ q := by
  unfold unit
  rcases hq with rfl | rfl <;> repeat' split
  all_goals first | exact ⟨_, _, rfl, by decide⟩ | exact ⟨_, _, rfl, by assumption⟩

/-- THE PARTS, one way each. -/
theorem part (q c : UInt8) :
    (unit q c = [c] ∧ c ≠ q ∧ c ≠ 92 ∧ c ≠ 10 ∧ c ≠ 13) ∨ (unit q c = [92, q] ∧ c = q) ∨ (unit q c = [92, 110] ∧ c = 10) ∨ (unit q c = [92, 114] ∧ c = 13) ∨
    (unit q c = [92, 116] ∧ c = 9) ∨ (unit q c = [92, 92] ∧ c = 92) ∨ unit q c = [92, 120, hexd (c.toNat / 16), hexd (c.toNat % 16)] := by
  by_cases h1 : c = q
  · exact .inr (.inl ⟨by unfold unit; rw [if_pos h1], h1⟩)
  by_cases h2 : c = 10
  · exact .inr (.inr (.inl ⟨by unfold unit; rw [if_neg h1, if_pos h2], h2⟩))
  by_cases h3 : c = 13
  · exact .inr (.inr (.inr (.inl ⟨by unfold unit; rw [if_neg h1, if_neg h2, if_pos h3], h3⟩)))
  by_cases h4 : c = 9
  · exact .inr (.inr (.inr (.inr (.inl ⟨by unfold unit; rw [if_neg h1, if_neg h2, if_neg h3, if_pos h4], h4⟩))))
  by_cases h5 : c = 92
  · exact .inr (.inr (.inr (.inr (.inr (.inl ⟨by unfold unit; rw [if_neg h1, if_neg h2, if_neg h3, if_neg h4, if_pos h5], h5⟩)))))
  by_cases h6 : 32 ≤ c.toNat ∧ c.toNat ≤ 126
  · exact .inl ⟨by unfold unit; rw [if_neg h1, if_neg h2, if_neg h3, if_neg h4, if_neg h5, if_pos h6], h1, h5, h2, h3⟩
  · exact .inr (.inr (.inr (.inr (.inr (.inr (by unfold unit; rw [if_neg h1, if_neg h2, if_neg h3, if_neg h4, if_neg h5, if_neg h6]))))))

end Go.Proofs.YtmjlcgekkncaiaaDoor
