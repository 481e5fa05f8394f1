/-
  FnPosOrder: the plain law: positions in files are in a strict order.
-/
import Derived.Test.YtlmllpgebakhhaaPosG
import Derived.Sort.Walk0
namespace Go.Proofs.Ytlmllpgebakhhaa.Pos
theorem bl_irr (x : List UInt8) : Op.bytesLess x x = false := by rw [bytesLess_eq]; simp [List.lt_irrefl]
theorem bl_asym {x y : List UInt8} (h : Op.bytesLess x y = true) : Op.bytesLess y x = false := by
  rw [bytesLess_eq] at h ⊢
  simp only [decide_eq_true_eq, decide_eq_false_iff_not] at h ⊢
  exact List.lt_asymm h
theorem bl_trans {x y z : List UInt8} (h : Op.bytesLess x y = true) (h' : Op.bytesLess y z = true) : Op.bytesLess x z = true := by
  rw [bytesLess_eq] at h h' ⊢
  simp only [decide_eq_true_eq] at h h' ⊢
  exact List.lt_trans h h'
theorem bl_tri {x y : List UInt8} (h : Op.bytesLess x y = false) (h' : Op.bytesLess y x = false) : x = y := by
  rw [bytesLess_eq] at h h'
  simp only [decide_eq_false_iff_not] at h h'
  exact List.le_antisymm (List.not_lt.1 h') (List.not_lt.1 h)

/-- Where two names stand to each other. -/
theorem names (an bn : List UInt8) : (Op.bytesLess an bn = true ∧ Op.bytesLess bn an = false ∧ (an == bn) = false ∧ (bn == an) = false) ∨ (Op.bytesLess an bn = false ∧ Op.bytesLess bn an = true ∧ (an == bn) = false ∧ (bn == an) = false) ∨ an = bn := by
  cases h : Op.bytesLess an bn
  · cases h' : Op.bytesLess bn an
    · exact .inr (.inr (bl_tri h h'))
    · refine .inr (.inl ⟨rfl, rfl, ?_, ?_⟩)
      · apply Bool.eq_false_iff.2; intro e; rw [eq_of_beq e, bl_irr] at h'; cases h'
      · apply Bool.eq_false_iff.2; intro e; rw [eq_of_beq e, bl_irr] at h'; cases h'
  · refine .inl ⟨rfl, bl_asym h, ?_, ?_⟩
    · apply Bool.eq_false_iff.2; intro e; rw [eq_of_beq e, bl_irr] at h; cases h
    · apply Bool.eq_false_iff.2; intro e; rw [eq_of_beq e, bl_irr] at h; cases h

def two (al ac bl bc : Int) : Int := if al < bl then -1 else if bl < al then 1 else if ac < bc then -1 else if bc < ac then 1 else 0
theorem cmpQ_lt {an bn : ByteArray} (h : Op.bytesLess an.toList bn.toList = true) (a b c d : Int) : cmpQ an bn a b c d = -1 := by unfold cmpQ; rw [if_pos h]
theorem cmpQ_gt {an bn : ByteArray} (h : Op.bytesLess an.toList bn.toList = false) (h' : (an.toList == bn.toList) = false) (a b c d : Int) : cmpQ an bn a b c d = 1 := by
  unfold cmpQ; rw [if_neg (by rw [h]; decide), if_pos h']
theorem cmpQ_eq {an bn : ByteArray} (h : an.toList = bn.toList) (a b c d : Int) : cmpQ an bn a b c d = two a b c d := by
  unfold cmpQ; rw [h, if_neg (by rw [bl_irr]; decide), if_neg (by simp)]; rfl

theorem two_neg (a b c d : Int) : two c d a b = - two a b c d := by
  unfold two
  repeat' split
  all_goals omega

theorem cmpQ_neg (an bn : ByteArray) (a b c d : Int) : cmpQ bn an c d a b = - cmpQ an bn a b c d := by
  rcases names an.toList bn.toList with ⟨h1, h2, h3, h4⟩ | ⟨h1, h2, h3, h4⟩ | h
  · rw [cmpQ_lt h1, cmpQ_gt h2 h4]; rfl
  · rw [cmpQ_gt h1 h3, cmpQ_lt h2]
  · rw [cmpQ_eq h, cmpQ_eq h.symm, two_neg]
theorem cmpQ_self (an : ByteArray) (a b : Int) : cmpQ an an a b a b = 0 := by have := cmpQ_neg an an a b a b; omega
theorem cmpQ_first (an : ByteArray) : cmpQ an an (lim 1) (lim 1) (lim 2) (lim 1) = -1 := by rw [cmpQ_eq rfl]; decide

theorem cmpQ_le (an bn : ByteArray) (a b c d : Int) : cmpQ an bn a b c d ≤ 0 ↔ Op.bytesLess an.toList bn.toList = true ∨ (an.toList = bn.toList ∧ (a < c ∨ a = c ∧ b ≤ d)) := by
  rcases names an.toList bn.toList with ⟨h1, h2, h3, h4⟩ | ⟨h1, h2, h3, h4⟩ | h
  · rw [cmpQ_lt h1]; simp [h1]
  · rw [cmpQ_gt h1 h3]; simp [h1]; intro e; rw [e] at h3; simp at h3
  · rw [cmpQ_eq h]; simp only [h, bl_irr, true_and, Bool.false_eq_true, false_or]
    unfold two
    repeat' split
    all_goals omega

/-- What is not behind one that is not behind a third one is not behind the third one. -/
theorem cmpQ_trans {an bn cn : ByteArray} {a b c d e f : Int} (h : cmpQ an bn a b c d ≤ 0) (h' : cmpQ bn cn c d e f ≤ 0) : cmpQ an cn a b e f ≤ 0 := by
  rw [cmpQ_le] at h h' ⊢
  rcases h with h | ⟨h, h1⟩
  · rcases h' with h' | ⟨h', h2⟩
    · exact .inl (bl_trans h h')
    · exact .inl (h' ▸ h)
  · rcases h' with h' | ⟨h', h2⟩
    · exact .inl (h ▸ h')
    · exact .inr ⟨h.trans h', by omega⟩

/-- The three laws of the order, on the three answers. -/
theorem order3 (an bn cn : ByteArray) (a b c d e f : Int) :
    (cmpQ an bn a b c d ≤ 0 → cmpQ bn cn c d e f ≤ 0 → cmpQ an cn a b e f ≤ 0) ∧ (0 ≤ cmpQ an bn a b c d → 0 ≤ cmpQ bn cn c d e f → 0 ≤ cmpQ an cn a b e f) ∧ (cmpQ an bn a b c d = 0 → cmpQ an cn a b e f = cmpQ bn cn c d e f) := by
  have n1 := cmpQ_neg an bn a b c d
  have n2 := cmpQ_neg bn cn c d e f
  have n3 := cmpQ_neg an cn a b e f
  refine ⟨cmpQ_trans, fun h h' => ?_, fun h => ?_⟩
  · have := cmpQ_trans (an := cn) (bn := bn) (cn := an) (a := e) (b := f) (c := c) (d := d) (e := a) (f := b) (by omega) (by omega)
    omega
  · have h0 : cmpQ an bn a b c d ≤ 0 := by omega
    have h1 := (cmpQ_le _ _ _ _ _ _).1 h0
    have h2 := (cmpQ_le _ _ _ _ _ _).1 (show cmpQ bn an c d a b ≤ 0 by omega)
    rcases h1 with h1 | ⟨h1, h1'⟩
    · rcases h2 with h2 | ⟨h2, h2'⟩
      · rw [bl_asym h1] at h2; cases h2
      · rw [h2, bl_irr] at h1; cases h1
    · rcases h2 with h2 | ⟨h2, h2'⟩
      · rw [h1, bl_irr] at h2; cases h2
      · obtain rfl : a = c := by omega
        obtain rfl : b = d := by omega
        unfold cmpQ
        rw [h1]
end Go.Proofs.Ytlmllpgebakhhaa.Pos
