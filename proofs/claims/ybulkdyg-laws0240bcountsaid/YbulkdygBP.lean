/-
  LawS0240BCount: THE PLAIN PART: the map as a datum after k stores, and what a look-up in it gives.
-/
import Derived.Test.YbulkdygBC
import Derived.Maps.StringElems
namespace Go.Proofs.Ybulkdyg.BC
open Go.Maps

/-- What device j is given. -/
def cl (n3 : Nat) (C : Nat → Int) (j : Nat) : ByteArray := if j < n3 then cls (C j) else ⟨#[]⟩
theorem cl_size (n3 : Nat) (C : Nat → Int) (j : Nat) : (cl n3 C j).size ≤ maxLen := by
  unfold cl
  split
  · have := cls_size (C j)
    unfold maxLen
    omega
  · exact Nat.zero_le _

/-- The map behind k stores. -/
def Dm (g : Nat → ByteArray) (D : Nat → Int) : Nat → DataW Unit
  | 0 => .map []
  | k + 1 => (Dm g D k).put (.int .i64 (D k)) (.lit (.string (g k).data.toList))
/-- What the map holds at x behind k stores: the last one at x wins. -/
def look (g : Nat → ByteArray) (D : Nat → Int) (x : Int) : Nat → ByteArray
  | 0 => ⟨#[]⟩
  | k + 1 => if D k = x then g k else look g D x k

theorem Dm_isMap (g : Nat → ByteArray) (D : Nat → Int) : ∀ k, IsMap (Dm g D k)
  | 0 => isMap_empty
  | k + 1 => (Dm_isMap g D k).put _ _

theorem Dm_at (g : Nat → ByteArray) (D : Nat → Int) (x : Int) : ∀ k, (Dm g D k).atKey (.int .i64 x) (.lit (.string [])) = .lit (.string (look g D x k).data.toList)
  | 0 => rfl
  | k + 1 => by
    unfold Dm look
    by_cases h : D k = x
    · subst h; rw [if_pos rfl, atKey_put_same (Dm_isMap g D k) (show WideAt.IsKeyLit (.int .i64 (D k)) from trivial)]
    · rw [if_neg h, atKey_put_other (by intro e; injection e with _ e2; exact h e2.symm), Dm_at g D x k]

theorem law3 : Keyed Yba.prog 3 := int_keyed Yba.underlying3
theorem zero9 (w : World) : (zeroValue 9).run Yba.prog w = .ok (.string ⟨#[]⟩) w := by kernel_rfl

/-- 'm[x]' IN A map[int]string THAT THE CALL MADE. -/
theorem look_run {w : World} {b n : Nat} {g : Nat → ByteArray} {D : Nat → Int} {k : Nat} (h : w.ownsMap Yba.prog 3 (plainElem Yba.prog 9) b n (Dm g D k)) (x : Int) (hx : (Lit.int .i64 x).wf = true) :
    (Instr.lookup 51 (.map (some b)) (.int .i64 x) false).run Yba.prog w = .ok (.string (look g D x k)) w := by
  obtain ⟨v, ps, hrun, hv⟩ := h.lookup law3 Yba.underlying51 (zero9 w) (plainElem_string Yba.underlying9 (Nat.zero_le _)) (keyOf_int_mk Yba.underlying3 hx)
  obtain ⟨s, rfl, hc, _⟩ := plainElem_string_inv Yba.underlying9 hv
  simp only [Prod.mk.injEq] at hc
  rw [hrun]
  have e := Dm_at g D x k
  rw [e] at hc
  have h3 : (look g D x k).data.toList = s.data.toList := Lit.string.inj (DataW.lit.inj hc.1)
  have h6 : look g D x k = s := by
    cases hA : look g D x k with | mk A => cases s with | mk B' => rw [hA] at h3; simp at h3; rw [h3]
  rw [h6]
end Go.Proofs.Ybulkdyg.BC
