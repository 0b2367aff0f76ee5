/-
  Plain facts for seat b6617174aM: what a tool name is, byte by byte; no Go in sight.
-/
namespace Go.Proofs.Qxb6617174aMods.Tool

/-- An ASCII letter. -/
def isLet (c : UInt8) : Bool := (decide (97 ≤ c.toNat) && decide (c.toNat ≤ 122)) || (decide (65 ≤ c.toNat) && decide (c.toNat ≤ 90))

/-- 1 to 64 bytes, every one an ASCII letter. -/
def tool (s : ByteArray) : Bool := decide (1 ≤ s.size) && (decide (s.size ≤ 64) && s.data.toList.all isLet)

theorem take_snoc (s : ByteArray) (k : Nat) (h : k < s.size) : s.data.toList.take (k + 1) = s.data.toList.take k ++ [s[k]] := by
  rw [List.take_succ_eq_append_getElem (by simpa using h)]; rfl

/-- Every byte below k is a letter. -/
def upTo (s : ByteArray) (k : Nat) : Bool := (s.data.toList.take k).all isLet

theorem upTo_zero (s : ByteArray) : upTo s 0 = true := by simp [upTo]

theorem upTo_succ (s : ByteArray) (k : Nat) (h : k < s.size) (hu : upTo s k = true) (hc : isLet s[k] = true) : upTo s (k + 1) = true := by
  unfold upTo at hu ⊢
  rw [take_snoc s k h, List.all_append, hu]
  simp [hc]

theorem tool_of_all (s : ByteArray) (h1 : 1 ≤ s.size) (h2 : s.size ≤ 64) (hu : upTo s s.size = true) : tool s = true := by
  unfold upTo at hu
  rw [List.take_of_length_le (by simp)] at hu
  simp only [tool, h1, h2, hu, decide_true, Bool.and_self]

theorem tool_of_bad (s : ByteArray) (k : Nat) (h : k < s.size) (hc : isLet s[k] = false) : tool s = false := by
  have : s.data.toList.all isLet = false := by
    rw [List.all_eq_false]
    refine ⟨s[k], ?_, by simp [hc]⟩
    exact Array.mem_toList_iff.2 (Array.getElem_mem (xs := s.data) h)
  simp [tool, this]

theorem tool_of_empty (s : ByteArray) (h : s.size = 0) : tool s = false := by simp [tool, h]

theorem tool_of_long (s : ByteArray) (h : 64 < s.size) : tool s = false := by
  have : ¬ s.size ≤ 64 := by omega
  simp [tool, this]

theorem tool_append (a b : ByteArray) : tool (a ++ b) =
    (decide (1 ≤ a.size + b.size) && (decide (a.size + b.size ≤ 64) && (a.data.toList.all isLet && b.data.toList.all isLet))) := by
  have e : (a ++ b).data.toList = a.data.toList ++ b.data.toList := by simp [ByteArray.data_append]
  unfold tool
  rw [e, List.all_append, ByteArray.size_append]


theorem all_of_tool (a : ByteArray) (h1 : 1 ≤ a.size) (h2 : a.size ≤ 64) : a.data.toList.all isLet = tool a := by
  simp [tool, h1, h2]

theorem all_of_empty (a : ByteArray) (h : a.size = 0) : a.data.toList.all isLet = true := by
  have e : a.data = #[] := Array.eq_empty_of_size_eq_zero h
  rw [e]; rfl

theorem join_out (a b : ByteArray) (h : ¬ (1 ≤ a.size + b.size ∧ a.size + b.size ≤ 64)) : tool (a ++ b) = false := by
  rw [tool_append]
  by_cases h1 : 1 ≤ a.size + b.size
  · rw [decide_eq_false (p := a.size + b.size ≤ 64) (by omega)]; simp
  · rw [decide_eq_false (p := 1 ≤ a.size + b.size) h1]; rfl

theorem join_in (a b : ByteArray) (h1 : 1 ≤ a.size + b.size) (h2 : a.size + b.size ≤ 64) : tool (a ++ b) = (a.data.toList.all isLet && b.data.toList.all isLet) := by
  rw [tool_append, decide_eq_true h1, decide_eq_true h2]; rfl

/-- The whole law over plain values: the join's verdict out of the parts'. -/
theorem join (a b : ByteArray) : tool (a ++ b) =
    if 1 ≤ a.size + b.size ∧ a.size + b.size ≤ 64 then (decide (a.size = 0) || tool a) && (decide (b.size = 0) || tool b) else false := by
  by_cases h : 1 ≤ a.size + b.size ∧ a.size + b.size ≤ 64
  · rw [if_pos h, join_in a b h.1 h.2]
    have part : ∀ c : ByteArray, c.size ≤ 64 → c.data.toList.all isLet = (decide (c.size = 0) || tool c) := by
      intro c hc
      by_cases h0 : c.size = 0
      · rw [all_of_empty c h0, decide_eq_true h0]; rfl
      · rw [all_of_tool c (by omega) hc, decide_eq_false h0]; rfl
    rw [part a (by omega), part b (by omega)]
  · rw [if_neg h, join_out a b h]

end Go.Proofs.Qxb6617174aMods.Tool
