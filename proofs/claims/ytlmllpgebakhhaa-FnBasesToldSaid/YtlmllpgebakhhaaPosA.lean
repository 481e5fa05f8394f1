/-
  Positions, part A: what the small functions of the positions, and the tests on bases and positions, answer (contracts; no statement is closed here).
-/
import Derived.Test.YtlmllpgebakhhaaRows
import Derived.WalkKit
import Derived.WalkSpells
import Derived.WalkLawsBesides
import Derived.ProofKit
import Derived.Below
import Derived.Lib.Hide
import Derived.Deep.QuietTactic
import Derived.BigQuiet
import Derived.Deep.RegionHeld3
import Derived.Deep.RegionWith
import Derived.LoopTactic
import Derived.LaidEqlPtr
import Derived.IntWalk
namespace Go.Proofs.Ytlmllpgebakhhaa.Pos
open Go.RowKit
set_option linter.unusedVariables false

theorem bcell {W w1 : World} (hb : Below W.heap.size W w1) : (∀ b o, b < W.heap.size → w1.cell? ⟨b, o, none⟩ = W.cell? ⟨b, o, none⟩) ∧ (∀ b o, b < W.heap.size → w1.frozen? ⟨b, o, none⟩ = W.frozen? ⟨b, o, none⟩) :=
  ⟨fun b o h => hb.cell (p := ⟨b, o, none⟩) h, fun b o h => hb.frozen (p := ⟨b, o, none⟩) h⟩

/-- A line or a column as it is kept. -/
def lim (n : Int) : Int := if n ≤ 1073741824 then n else 1073741824
theorem lim_lo {n : Int} (h : 0 ≤ n) : 0 ≤ lim n := by unfold lim; split <;> omega
theorem lim_hi (n : Int) : lim n ≤ 1073741824 := by unfold lim; split <;> omega
theorem lim_small {n : Int} (h : n ≤ 1073741824) : lim n = n := by unfold lim; rw [if_pos h]
theorem lim_large {n : Int} (h : ¬ n ≤ 1073741824) : lim n = 1073741824 := by unfold lim; rw [if_neg h]

theorem limit32 (n : Int) (w : World) (h0 : 0 ≤ n) (h1 : n < 18446744073709551616) : Calls Try.prog 32 #[.int .u64 n] w fun e w' => e = .returned (.int .u64 (lim n)) ∧ w = w' := by
  by_cases h : n ≤ 1073741824
  · have H := Lib.hid (lim_small h)
    go_enter Try.func32, Try.ntmps32
    go_wp2
    go_ret
    exact ⟨by rw [H.out]; rfl, rfl⟩
  · have H := Lib.hid (lim_large h)
    go_enter Try.func32, Try.ntmps32
    go_wp2
    go_ret
    exact ⟨by rw [H.out]; rfl, rfl⟩
theorem sat66 (n : Int) (w : World) (h0 : 0 ≤ n) (h1 : n < 18446744073709551616) : Calls Try.prog 66 #[.int .u64 n] w fun e w' => e = .returned (.int .u32 (lim n)) ∧ w = w' := by
  by_cases h : n ≤ 1073741824
  · have H := Lib.hid (lim_small h)
    go_enter Try.func66, Try.ntmps66
    go_wp2
    go_ret
    exact ⟨by rw [H.out]; rfl, rfl⟩
  · have H := Lib.hid (lim_large h)
    go_enter Try.func66, Try.ntmps66
    go_wp2
    go_ret
    exact ⟨by rw [H.out]; rfl, rfl⟩
/-- -1, 0 or 1. -/
def ord (a b : Int) : Int := if a < b then -1 else if b < a then 1 else 0
theorem order48 (a b : Int) (w : World) : Calls Try.prog 48 #[.int .u64 a, .int .u64 b] w fun e w' => e = .returned (.int .i64 (ord a b)) ∧ w = w' := by
  by_cases h : a < b
  · have H := Lib.hid (show ord a b = -1 by unfold ord; rw [if_pos h])
    go_enter Try.func48, Try.ntmps48
    go_wp2
    go_ret
    exact ⟨by rw [H.out]; rfl, rfl⟩
  · by_cases h' : b < a
    · have H := Lib.hid (show ord a b = 1 by unfold ord; rw [if_neg h, if_pos h'])
      go_enter Try.func48, Try.ntmps48
      go_wp2
      go_ret
      exact ⟨by rw [H.out]; rfl, rfl⟩
    · have H := Lib.hid (show ord a b = 0 by unfold ord; rw [if_neg h, if_neg h'])
      go_enter Try.func48, Try.ntmps48
      go_wp2
      go_ret
      exact ⟨by rw [H.out]; rfl, rfl⟩

/-- Some bool; if it is true, P. -/
def SomeB (P : Prop) (w : World) (e : Ending) (w' : World) : Prop := ∃ b : Bool, e = .returned (.bool b) ∧ (b = true → P) ∧ Below w.heap.size w w'
theorem SomeB.mk {P : Prop} {w w' : World} (b : Bool) (hp : b = true → P) (hb : Below w.heap.size w w') : SomeB P w (.returned (.bool b)) w' := ⟨b, rfl, hp, hb⟩

/-- A position that has one of n bases, and a line and a column. -/
def Spot (b l c n : Int) : Prop := 0 ≤ b ∧ b < n ∧ 0 < l ∧ 0 < c

theorem isSpot62 (b l c n : Int) (w : World) : Calls Try.prog 62 #[.agg #[.int .i64 b, .int .u64 l, .int .u64 c], .int .i64 n] w (SomeB (Spot b l c n) w) := by
  go_enter Try.func62, Try.ntmps62
  go_wp2
  all_goals
    go_ret
    refine SomeB.mk _ (fun h => ?_) ((Below.refl _ _).alloc (Nat.le_refl _) _)
    first | (cases h; done) | exact ⟨by assumption, by assumption, by assumption, by simpa using h⟩

theorem makePos65 (A : Option Addr) (l c : Int) (w : World) (h0 : 0 ≤ l) (h1 : l < 18446744073709551616) (h2 : 0 ≤ c) (h3 : c < 18446744073709551616) :
    Calls Try.prog 65 #[.pointer A, .int .u64 l, .int .u64 c] w fun e w' => e = .returned (.agg #[.pointer A, .int .u32 (lim l), .int .u32 (lim c)]) ∧ Below w.heap.size w w' := by
  go_enter Try.func65, Try.ntmps65
  go_wp2_with (go_at_call 66; refine (sat66 _ _ (by assumption) (by assumption)).mono ?_; rintro e w' ⟨rfl, rfl⟩)
  refine bodyPost_ret (v := .agg #[.pointer A, .int .u32 (lim l), .int .u32 (lim c)]) (by simp [results, Try.results65, go_sem]) rfl ⟨rfl, ?_⟩
  exact (Below.refl _ _).alloc (Nat.le_refl _) _

/-! ### Positions and bases: what they tell -/
theorem line39 (l : Int) (A : Option Addr) (c : Int) (w : World) (h0 : 0 ≤ l) (h1 : l ≤ 1073741824) : Calls Try.prog 39 #[.agg #[.pointer A, .int .u32 l, .int .u32 c]] w fun e w' => e = .returned (.int .u64 l) ∧ Below w.heap.size w w' := by
  go_enter Try.func39, Try.ntmps39
  go_wp2
  go_ret
  exact ⟨rfl, (Below.refl _ _).alloc (Nat.le_refl _) _⟩
theorem col40 (l : Int) (A : Option Addr) (c : Int) (w : World) (h0 : 0 ≤ c) (h1 : c ≤ 1073741824) : Calls Try.prog 40 #[.agg #[.pointer A, .int .u32 l, .int .u32 c]] w fun e w' => e = .returned (.int .u64 c) ∧ Below w.heap.size w w' := by
  go_enter Try.func40, Try.ntmps40
  go_wp2
  go_ret
  exact ⟨rfl, (Below.refl _ _).alloc (Nat.le_refl _) _⟩

/-- Block k holds a base: the position's base A, line l0 and column c0; name, line l, column c; trimmed t. -/
def PBlk (w : World) (k : Nat) (A : Option Addr) (l0 c0 : Int) (name : ByteArray) (l c : Int) (t : Bool) : Prop :=
  w.heap[k]? = some (.cells #[.pointer A, .int .u32 l0, .int .u32 c0, .string name, .int .u32 l, .int .u32 c, .bool t] 96 (0, 0))
section
variable {w : World} {k : Nat} {A : Option Addr} {l0 c0 l c : Int} {name : ByteArray} {t : Bool}
theorem PBlk.cells (h : PBlk w k A l0 c0 name l c t) : w.cell? ⟨k, 0, none⟩ = some (.pointer A) ∧ w.cell? ⟨k, 1, none⟩ = some (.int .u32 l0) ∧ w.cell? ⟨k, 2, none⟩ = some (.int .u32 c0) ∧ w.cell? ⟨k, 3, none⟩ = some (.string name) ∧
    w.cell? ⟨k, 4, none⟩ = some (.int .u32 l) ∧ w.cell? ⟨k, 5, none⟩ = some (.int .u32 c) ∧ w.cell? ⟨k, 6, none⟩ = some (.bool t) :=
  ⟨cell_of_row w k 0 _ _ _ h, cell_of_row w k 1 _ _ _ h, cell_of_row w k 2 _ _ _ h, cell_of_row w k 3 _ _ _ h, cell_of_row w k 4 _ _ _ h, cell_of_row w k 5 _ _ _ h, cell_of_row w k 6 _ _ _ h⟩
theorem PBlk.lt (h : PBlk w k A l0 c0 name l c t) : k < w.heap.size := by
  rcases Nat.lt_or_ge k w.heap.size with hlt | hge
  · exact hlt
  · unfold PBlk at h; rw [Array.getElem?_eq_none hge] at h; cases h
theorem PBlk.below {w' : World} (h : PBlk w k A l0 c0 name l c t) (hb : Below w.heap.size w w') : PBlk w' k A l0 c0 name l c t := (hb.block k h.lt).trans h
end

theorem filename41 (k : Nat) (A : Option Addr) (l0 c0 : Int) (name : ByteArray) (l c : Int) (t : Bool) (w : World) (h : PBlk w k A l0 c0 name l c t) : Calls Try.prog 41 #[.pointer (some ⟨k, 0, none⟩)] w fun e w' => e = .returned (.string name) ∧ w = w' := by
  obtain ⟨_, _, _, h3, _, _, _⟩ := h.cells
  clear h
  go_enter Try.func41, Try.ntmps41
  go_wp2
  go_ret
  exact ⟨rfl, rfl⟩
theorem line42 (k : Nat) (A : Option Addr) (l0 c0 : Int) (name : ByteArray) (l c : Int) (t : Bool) (w : World) (h : PBlk w k A l0 c0 name l c t) (hl : 0 ≤ l) (hl' : l ≤ 1073741824) : Calls Try.prog 42 #[.pointer (some ⟨k, 0, none⟩)] w fun e w' => e = .returned (.int .u64 l) ∧ w = w' := by
  obtain ⟨_, _, _, _, h4, _, _⟩ := h.cells
  clear h
  go_enter Try.func42, Try.ntmps42
  go_wp2
  go_ret
  exact ⟨rfl, rfl⟩
theorem col43 (k : Nat) (A : Option Addr) (l0 c0 : Int) (name : ByteArray) (l c : Int) (t : Bool) (w : World) (h : PBlk w k A l0 c0 name l c t) (hl : 0 ≤ c) (hl' : c ≤ 1073741824) : Calls Try.prog 43 #[.pointer (some ⟨k, 0, none⟩)] w fun e w' => e = .returned (.int .u64 c) ∧ w = w' := by
  obtain ⟨_, _, _, _, _, h5, _⟩ := h.cells
  clear h
  go_enter Try.func43, Try.ntmps43
  go_wp2
  go_ret
  exact ⟨rfl, rfl⟩
theorem trimmed45 (k : Nat) (A : Option Addr) (l0 c0 : Int) (name : ByteArray) (l c : Int) (t : Bool) (w : World) (h : PBlk w k A l0 c0 name l c t) : Calls Try.prog 45 #[.pointer (some ⟨k, 0, none⟩)] w fun e w' => e = .returned (.bool t) ∧ w = w' := by
  obtain ⟨_, _, _, _, _, _, h6⟩ := h.cells
  clear h
  go_enter Try.func45, Try.ntmps45
  go_wp2
  go_ret
  exact ⟨rfl, rfl⟩
theorem pos46 (k : Nat) (A : Option Addr) (l0 c0 : Int) (name : ByteArray) (l c : Int) (t : Bool) (w : World) (h : PBlk w k A l0 c0 name l c t) : Calls Try.prog 46 #[.pointer (some ⟨k, 0, none⟩)] w fun e w' => e = .returned (.agg #[.pointer A, .int .u32 l0, .int .u32 c0]) ∧ Below w.heap.size w w' := by
  have hk := h.lt
  obtain ⟨h0, h1, h2, _, _, _, _⟩ := h.cells
  clear h
  go_enter Try.func46, Try.ntmps46
  go_wp2
  refine bodyPost_ret (v := .agg #[.pointer A, .int .u32 l0, .int .u32 c0]) (by simp [results, Try.results46, go_sem]) rfl ⟨rfl, ?_⟩
  exact (Below.refl _ _).alloc (Nat.le_refl _) _
theorem relFilename49 (k : Nat) (A : Option Addr) (l0 c0 : Int) (name : ByteArray) (l c : Int) (t : Bool) (pl pc : Int) (w : World) (h : PBlk w k A l0 c0 name l c t) :
    Calls Try.prog 49 #[.agg #[.pointer (some ⟨k, 0, none⟩), .int .u32 pl, .int .u32 pc]] w fun e w' => e = .returned (.string name) ∧ Below w.heap.size w w' := by
  have H := Lib.hid h
  clear h
  go_enter Try.func49, Try.ntmps49
  go_wp2_with (go_at_call 41; refine (filename41 k A l0 c0 name l c t _ (H.out.below (((Below.refl _ _).alloc (Nat.le_refl _) _)))).mono ?_; rintro e w' ⟨rfl, rfl⟩)
  go_ret
  exact ⟨rfl, (Below.refl _ _).alloc (Nat.le_refl _) _⟩

/-! ### '==' between two pointers -/
theorem info96 : (Try.prog.info? 96).map (·.size) = some 7 := by kernel_rfl
theorem eql_same (w : World) (k : Nat) : (binOp .eql 69 (.pointer (some ⟨k, 0, none⟩)) (.pointer (some ⟨k, 0, none⟩))).run Try.prog w = .ok (.bool true) w := by
  obtain ⟨j, hj, hs⟩ := Option.map_eq_some_iff.1 info96
  exact run_eql_ptr_same w ⟨k, 0, none⟩ Try.underlying69 hj
theorem eql_other (w : World) (k m : Nat) (hne : k ≠ m) (ca cb : Array Value) (ta tb : TypeId) (ha : w.heap[k]? = some (.cells ca ta (0, 0))) (hb : w.heap[m]? = some (.cells cb tb (0, 0))) : (binOp .eql 69 (.pointer (some ⟨k, 0, none⟩)) (.pointer (some ⟨m, 0, none⟩))).run Try.prog w = .ok (.bool false) w := by
  obtain ⟨j, hj, hs⟩ := Option.map_eq_some_iff.1 info96
  exact run_eql_ptr_other w Try.underlying69 hj (by rw [hs]; decide) (by simp) ha hb
theorem neq_same (w : World) (k : Nat) : (binOp .neq 69 (.pointer (some ⟨k, 0, none⟩)) (.pointer (some ⟨k, 0, none⟩))).run Try.prog w = .ok (.bool false) w := by
  obtain ⟨j, hj, hs⟩ := Option.map_eq_some_iff.1 info96
  have h : ∀ d : Nat, (Op.equalIn (d + 1) 69 (.pointer (some ⟨k, 0, none⟩)) (.pointer (some ⟨k, 0, none⟩))).run Try.prog w = .ok true w := fun d => by
    simp [Op.equalIn, run_underlying Try.underlying69, sizeOf, typeInfo, hj, run_sameAddr_same]
  simp only [binOp]
  simp [Op.equal, Op.maxDepth, h 9999]
theorem neq_other (w : World) (k m : Nat) (hne : k ≠ m) (ca cb : Array Value) (ta tb : TypeId) (ha : w.heap[k]? = some (.cells ca ta (0, 0))) (hb : w.heap[m]? = some (.cells cb tb (0, 0))) : (binOp .neq 69 (.pointer (some ⟨k, 0, none⟩)) (.pointer (some ⟨m, 0, none⟩))).run Try.prog w = .ok (.bool true) w := by
  obtain ⟨j, hj, hs⟩ := Option.map_eq_some_iff.1 info96
  have hne' : (⟨k, 0, none⟩ : Addr) ≠ ⟨m, 0, none⟩ := by simp
  have h : ∀ d : Nat, (Op.equalIn (d + 1) 69 (.pointer (some ⟨k, 0, none⟩)) (.pointer (some ⟨m, 0, none⟩))).run Try.prog w = .ok false w := fun d => by
    simp [Op.equalIn, run_underlying Try.underlying69, sizeOf, typeInfo, hj, hs, run_sameAddr_other w hne' ha hb]
  simp only [binOp]
  simp [Op.equal, Op.maxDepth, h 9999]

theorem isFile44_yes (k : Nat) (l0 c0 : Int) (name : ByteArray) (l c : Int) (t : Bool) (w : World) (h : PBlk w k (some ⟨k, 0, none⟩) l0 c0 name l c t) : Calls Try.prog 44 #[.pointer (some ⟨k, 0, none⟩)] w fun e w' => e = .returned (.bool true) ∧ w = w' := by
  obtain ⟨h0, _, _, _, _, _, _⟩ := h.cells
  clear h
  have he := eql_same w k
  go_enter Try.func44, Try.ntmps44
  go_wp2
  go_ret
  exact ⟨rfl, rfl⟩
theorem isFile44_no (k m : Nat) (hne : m ≠ k) (l0 c0 : Int) (name : ByteArray) (l c : Int) (t : Bool) (w : World) (h : PBlk w k (some ⟨m, 0, none⟩) l0 c0 name l c t) (cb : Array Value) (tb : TypeId) (hb : w.heap[m]? = some (.cells cb tb (0, 0))) :
    Calls Try.prog 44 #[.pointer (some ⟨k, 0, none⟩)] w fun e w' => e = .returned (.bool false) ∧ w = w' := by
  have he := eql_other w m k hne _ _ _ _ hb h
  obtain ⟨h0, _, _, _, _, _, _⟩ := h.cells
  clear h hb
  go_enter Try.func44, Try.ntmps44
  go_wp2
  go_ret
  exact ⟨rfl, rfl⟩

theorem fits29 (name : ByteArray) (tr : Bool) (b l c ln cl : Int) (w : World) : Calls Try.prog 29 #[.agg #[.string name, .bool tr, .int .i64 b, .int .u64 l, .int .u64 c, .int .u64 ln, .int .u64 cl]] w (SomeB True w) := by
  go_enter Try.func29, Try.ntmps29
  go_wp2
  all_goals
    go_ret
    exact SomeB.mk _ (fun _ => trivial) ((Below.refl _ _).alloc (Nat.le_refl _) _)

/-- A base as it comes in. -/
structure Bas where
  name : ByteArray
  trim : Bool
  sb : Int
  sl : Int
  sc : Int
  line : Int
  col : Int

def Cells7 (w : World) (b o : Nat) (x : Bas) : Prop := w.cell? ⟨b, o, none⟩ = some (.string x.name) ∧ w.cell? ⟨b, o + 1, none⟩ = some (.bool x.trim) ∧ w.cell? ⟨b, o + 2, none⟩ = some (.int .i64 x.sb) ∧ w.cell? ⟨b, o + 3, none⟩ = some (.int .u64 x.sl) ∧
  w.cell? ⟨b, o + 4, none⟩ = some (.int .u64 x.sc) ∧ w.cell? ⟨b, o + 5, none⟩ = some (.int .u64 x.line) ∧ w.cell? ⟨b, o + 6, none⟩ = some (.int .u64 x.col)
/-- A slice of bases that came in. -/
def Row (w : World) (A : Option Addr) (len : Nat) (bs : Nat → Bas) : Prop :=
  ∀ k, k < len → ∃ b off, A = some ⟨b, off, none⟩ ∧ b < w.heap.size ∧ Cells7 w b (off + k * 7) (bs k)

theorem fits10 (A : Option Addr) (len cap : Nat) (bs : Nat → Bas) (w : World) (hm : len ≤ maxLen) (hr : Row w A len bs) : Calls Try.prog 10 #[.slice A len cap] w (SomeB (len ≤ 2147483647) w) := by
  unfold maxLen at hm
  by_cases hbig : 2147483647 < len
  · go_enter Try.func10, Try.ntmps10
    go_wp2
    go_ret
    exact SomeB.mk _ (fun h => by cases h) (Below.refl _ _)
  · have H := Lib.hid hr
    clear hr
    go_enter Try.func10, Try.ntmps10
    go_wp2_with fail
    go_loopw [10] (fun i wr => ∃ k : Nat, k ≤ len ∧ i = .int .i64 k ∧ Below w.heap.size w wr) (fun i _ => len - (intOf i).toNat)
    case atStart => exact ⟨0, Nat.zero_le _, rfl, Below.refl _ _⟩
    case round =>
      obtain ⟨k, hk, rfl, hbel⟩ := hrel
      by_cases hlt : k < len
      · obtain ⟨b, off, rfl, hb, hc0, hc1, hc2, hc3, hc4, hc5, hc6⟩ := H.out k hlt
        obtain ⟨hcc, hff⟩ := bcell hbel
        go_wp2_with fail
        refine (fits29 _ _ _ _ _ _ _ _).mono ?_
        rintro e w1 ⟨b', rfl, -, hb1⟩
        have hb2 : Below w.heap.size w w1 := (hbel.alloc hbel.size _).trans (hb1.mono (by simp; exact Nat.le_succ_of_le hbel.size))
        cases b'
        · go_wp2_with fail
          go_ret
          exact SomeB.mk _ (fun h => by cases h) hb2
        · go_wp2_with fail
          go_roundw
          case rel => exact ⟨k + 1, by omega, by go_num, hb2⟩
          case measure => simp [intOf]; omega
      · go_wp2_with fail
        go_ret
        exact SomeB.mk _ (fun _ => by omega) hbel

/-- Every base of a line directive has a position by a base ahead of it. -/
def Are (len : Nat) (bs : Nat → Bas) : Prop := ∀ i, i < len → 0 < (bs i).line → Spot (bs i).sb (bs i).sl (bs i).sc i

theorem are30 (A : Option Addr) (len cap : Nat) (bs : Nat → Bas) (w : World) (hm : len ≤ maxLen) (hr : Row w A len bs) : Calls Try.prog 30 #[.slice A len cap] w (SomeB (Are len bs) w) := by
  unfold maxLen at hm
  have H := Lib.hid hr
  clear hr
  go_enter Try.func30, Try.ntmps30
  go_wp2_with fail
  go_loopw [7] (fun i wr => ∃ k : Nat, k ≤ len ∧ i = .int .i64 k ∧ Are k bs ∧ Below w.heap.size w wr) (fun i _ => len - (intOf i).toNat)
  case atStart => exact ⟨0, Nat.zero_le _, rfl, fun i hi => by omega, Below.refl _ _⟩
  case round =>
    obtain ⟨k, hk, rfl, hA, hbel⟩ := hrel
    have HA := Lib.hid hA
    clear hA
    by_cases hlt : k < len
    · obtain ⟨b, off, rfl, hb, hc0, hc1, hc2, hc3, hc4, hc5, hc6⟩ := H.out k hlt
      obtain ⟨hcc, hff⟩ := bcell hbel
      by_cases hl : 0 < (bs k).line
      · go_wp2_with fail
        refine (isSpot62 _ _ _ _ _).mono ?_
        rintro e w1 ⟨b', rfl, hsp, hb1⟩
        have hb2 : Below w.heap.size w w1 := (hbel.alloc hbel.size _).trans (hb1.mono (by simp; exact Nat.le_succ_of_le hbel.size))
        cases b'
        · clear hsp
          go_wp2_with fail
          go_ret
          exact SomeB.mk _ (fun h => by cases h) hb2
        · have HS := Lib.hid (hsp rfl)
          clear hsp
          go_wp2_with fail
          go_roundw
          case rel =>
            refine ⟨k + 1, by omega, by go_num, fun i hi h => ?_, hb2⟩
            rcases Nat.lt_succ_iff_lt_or_eq.1 hi with h' | rfl
            · exact HA.out i h' h
            · exact HS.out
          case measure => simp [intOf]; omega
      · go_wp2_with fail
        go_roundw
        case rel =>
          refine ⟨k + 1, by omega, by go_num, fun i hi h => ?_, hbel.alloc hbel.size _⟩
          rcases Nat.lt_succ_iff_lt_or_eq.1 hi with h' | rfl
          · exact HA.out i h' h
          · omega
        case measure => simp [intOf]; omega
    · obtain rfl : k = len := by omega
      go_wp2_with fail
      go_ret
      exact SomeB.mk _ (fun _ => HA.out) hbel

/-- A number of 64 bits. -/
def U64 (n : Int) : Prop := 0 ≤ n ∧ n < 18446744073709551616
theorem limitq (n : Int) (w : World) (h : U64 n) : Calls Try.prog 32 #[.int .u64 n] w fun e w' => e = .returned (.int .u64 (lim n)) ∧ w' = w :=
  (limit32 n w h.1 h.2).mono fun _ _ ⟨a, b⟩ => ⟨a, b.symm⟩
theorem quiet_add_same {P : Program} {f : FuncId} {args : Array Value} {w : World} {a n : Nat} {v : Value}
    (h : Calls P f args (w.drewN (a + n)) fun e w' => e = .returned v ∧ w' = w.drewN (a + n)) :
    Calls P f args (w.drewN (a + n)) fun e w'' => e = .returned v ∧ ∃ m, w'' = w.drewN (a + m) :=
  h.mono fun _ _ ⟨he, hm⟩ => ⟨he, n, hm⟩
/-- The numbers of a base are ones of 64 bits. -/
structure Bas.Wf (x : Bas) : Prop where
  sl : U64 x.sl
  sc : U64 x.sc
  line : U64 x.line
  col : U64 x.col

/-- A position is not ahead of that of its base, and what it tells is not too great. -/
def Within (x : Bas) (l c : Int) : Prop := x.line = 0 ∨ ((lim x.sl < lim l ∨ lim x.sl = lim l ∧ lim x.sc ≤ lim c) ∧ lim x.line + lim l - lim x.sl ≤ 1073741824 ∧ lim x.col + lim c ≤ 1073741824)


theorem Below.drewN {B : Nat} {a w : World} (h : Below B a w) (n : Nat) : Below B a (w.drewN n) := ⟨h.os, h.tape, h.output, h.size, h.block⟩
theorem lim_bd {n : Int} (h : U64 n) : 0 ≤ lim n ∧ lim n ≤ 1073741824 := ⟨lim_lo h.1, lim_hi n⟩

set_option maxHeartbeats 1000000 in
theorem is31 (A : Option Addr) (len cap : Nat) (bs : Nat → Bas) (s l c : Int) (w : World) (hm : len ≤ maxLen) (hr : Row w A len bs) (hwf : ∀ k, k < len → (bs k).Wf) (hl : U64 l) (hc : U64 c) :
    Calls Try.prog 31 #[.slice A len cap, .agg #[.int .i64 s, .int .u64 l, .int .u64 c]] w (SomeB (Spot s l c len ∧ ∀ k : Nat, s = k → Within (bs k) l c) w) := by
  unfold maxLen at hm
  have H := Lib.hid hr
  have Hw := Lib.hid hwf
  have Hl := Lib.hid hl
  have Hc := Lib.hid hc
  clear hr hwf hl hc
  go_enter Try.func31, Try.ntmps31
  go_wp2_with fail
  refine (isSpot62 _ _ _ _ _).mono ?_
  rintro e w1 ⟨b', rfl, hsp, hb1⟩
  obtain ⟨hcc1, hff1⟩ := bcell hb1
  cases b'
  · clear hsp
    go_wp2_with fail
    go_ret
    exact SomeB.mk _ (fun h => by cases h) (((Below.refl _ _).alloc (Nat.le_refl _) _).trans (hb1.mono (by simp)))
  · have HS := Lib.hid (hsp rfl)
    obtain ⟨s0, s1, -, -⟩ := hsp rfl
    clear hsp
    obtain ⟨k, rfl⟩ := Int.eq_ofNat_of_zero_le s0
    have hlt : k < len := by omega
    obtain ⟨b, off, rfl, hb, hc0, hc1, hc2, hc3, hc4, hc5, hc6⟩ := H.out k hlt
    obtain ⟨Wsl, Wsc, Wln, Wcl⟩ := Hw.out k hlt
    have hz : w.heap.size < w1.heap.size := by have := hb1.size; simp at this; omega
    have hend : Below w.heap.size w w1 := ((Below.refl _ _).alloc (Nat.le_refl _) _).trans (hb1.mono (by simp))
    obtain ⟨x, hx⟩ : ∃ x, bs k = x := ⟨_, rfl⟩
    rw [hx] at hc0 hc1 hc2 hc3 hc4 hc5 hc6 Wsl Wsc Wln Wcl
    have HE := Lib.hid hx
    clear hx
    have Wsl := Lib.hid Wsl
    have Wsc := Lib.hid Wsc
    have Wln := Lib.hid Wln
    have Wcl := Lib.hid Wcl
    by_cases hx : x.line = 0
    · have e1 : (x.line == 0) = true := by simp [hx]
      have HX := Lib.hid hx
      clear hx
      go_wp2_with fail
      go_ret
      refine SomeB.mk _ (fun _ => ⟨HS.out, fun j hj => ?_⟩) (hend.alloc hend.size _)
      obtain rfl : k = j := by omega
      rw [HE.out]
      exact .inl HX.out
    · have e1 : (x.line == 0) = false := by simp [hx]
      clear hx
      obtain ⟨a0, a1⟩ := lim_bd Hl.out
      obtain ⟨a2, a3⟩ := lim_bd Wsl.out
      obtain ⟨a4, a5⟩ := lim_bd Hc.out
      obtain ⟨a6, a7⟩ := lim_bd Wsc.out
      obtain ⟨a8, a9⟩ := lim_bd Wln.out
      obtain ⟨a10, a11⟩ := lim_bd Wcl.out
      have hends : Below w.heap.size w (w1.alloc (Obj.cells #[Value.string x.name, Value.bool x.trim, Value.int IntKind.i64 x.sb, Value.int IntKind.u64 x.sl, Value.int IntKind.u64 x.sc, Value.int IntKind.u64 x.line, Value.int IntKind.u64 x.col] 42)) := hend.alloc hend.size _
      by_cases h1 : lim l < lim x.sl
      · go_wp2_with fail
        go_quiet ((go_at_call 32; first | ((with_reducible refine (limitq _ _ Hl.out).mono ?_); rintro e w' ⟨rfl, rfl⟩; exact ⟨rfl, _, rfl⟩) | ((with_reducible refine (limitq _ _ Wsl.out).mono ?_); rintro e w' ⟨rfl, rfl⟩; exact ⟨rfl, _, rfl⟩)))
        go_wp2_with fail
        go_quiet (fail)
        go_wp2_with fail
        go_ret
        exact SomeB.mk _ (fun h => by cases h) (Below.drewN (Below.drewN hends _) _)
      · by_cases h2 : lim l = lim x.sl
        · have HQ := Lib.hid h2
          have e3 : (lim l == lim x.sl) = true := by simp [h2]
          have e2 : decide (lim l < lim x.sl) = false := by simpa using h1
          have g0 : lim x.sl ≤ lim l := by omega
          clear h2 h1
          by_cases h3 : lim c < lim x.sc
          · go_wp2_with fail
            go_quiet ((go_at_call 32; first | ((with_reducible refine (limitq _ _ Hl.out).mono ?_); rintro e w' ⟨rfl, rfl⟩; exact ⟨rfl, _, rfl⟩) | ((with_reducible refine (limitq _ _ Wsl.out).mono ?_); rintro e w' ⟨rfl, rfl⟩; exact ⟨rfl, _, rfl⟩)))
            go_wp2_with fail
            go_quiet ((go_at_call 32; first | ((with_reducible refine (limitq _ _ Hc.out).mono ?_); rintro e w' ⟨rfl, rfl⟩; exact ⟨rfl, _, rfl⟩) | ((with_reducible refine (limitq _ _ Wsc.out).mono ?_); rintro e w' ⟨rfl, rfl⟩; exact ⟨rfl, _, rfl⟩)))
            go_wp2_with fail
            go_ret
            exact SomeB.mk _ (fun h => by cases h) (Below.drewN (Below.drewN hends _) _)
          · have e4 : decide (lim c < lim x.sc) = false := by simpa using h3
            have h3' := Lib.hid h3
            clear h3
            have g1 := IntWalk.u64_in (lim x.line + lim l) ⟨by omega, by omega⟩
            have g2 := IntWalk.u64_in (lim x.line + lim l - lim x.sl) ⟨by omega, by omega⟩
            have g3 := IntWalk.u64_in (lim x.col + lim c) ⟨by omega, by omega⟩
            by_cases h4 : lim x.line + lim l - lim x.sl ≤ 1073741824
            · go_wp2_with fail
              go_quiet ((go_at_call 32; first | ((with_reducible refine (limitq _ _ Hl.out).mono ?_); rintro e w' ⟨rfl, rfl⟩; exact ⟨rfl, _, rfl⟩) | ((with_reducible refine (limitq _ _ Wsl.out).mono ?_); rintro e w' ⟨rfl, rfl⟩; exact ⟨rfl, _, rfl⟩)))
              go_wp2_with fail
              go_quiet ((go_at_call 32; first | ((with_reducible refine (limitq _ _ Hc.out).mono ?_); rintro e w' ⟨rfl, rfl⟩; exact ⟨rfl, _, rfl⟩) | ((with_reducible refine (limitq _ _ Wsc.out).mono ?_); rintro e w' ⟨rfl, rfl⟩; exact ⟨rfl, _, rfl⟩)))
              go_wp2_with fail
              simp only [World.drewN_drewN]
              go_quiet ((go_at_call 32; first | ((with_reducible refine (limitq _ _ Wln.out).mono ?_); rintro e w' ⟨rfl, rfl⟩; exact ⟨rfl, _, rfl⟩) | ((with_reducible refine (limitq _ _ Wcl.out).mono ?_); rintro e w' ⟨rfl, rfl⟩; exact ⟨rfl, _, rfl⟩) | ((with_reducible refine (limitq _ _ Hc.out).mono ?_); rintro e w' ⟨rfl, rfl⟩; exact ⟨rfl, _, rfl⟩)))
              go_wp2_with fail
              go_ret
              refine SomeB.mk _ (fun h => ⟨HS.out, fun j hj => ?_⟩) (Below.drewN (Below.drewN hends _) _)
              obtain rfl : k = j := by omega
              rw [HE.out]
              exact .inr ⟨.inr ⟨HQ.out.symm, by have := h3'.out; omega⟩, h4, of_decide_eq_true h⟩
            · have h4' : decide (lim x.line + lim l - lim x.sl ≤ 1073741824) = false := by simpa using h4
              go_wp2_with fail
              go_quiet ((go_at_call 32; first | ((with_reducible refine (limitq _ _ Hl.out).mono ?_); rintro e w' ⟨rfl, rfl⟩; exact ⟨rfl, _, rfl⟩) | ((with_reducible refine (limitq _ _ Wsl.out).mono ?_); rintro e w' ⟨rfl, rfl⟩; exact ⟨rfl, _, rfl⟩)))
              go_wp2_with fail
              go_quiet ((go_at_call 32; first | ((with_reducible refine (limitq _ _ Hc.out).mono ?_); rintro e w' ⟨rfl, rfl⟩; exact ⟨rfl, _, rfl⟩) | ((with_reducible refine (limitq _ _ Wsc.out).mono ?_); rintro e w' ⟨rfl, rfl⟩; exact ⟨rfl, _, rfl⟩)))
              go_wp2_with fail
              simp only [World.drewN_drewN]
              go_quiet ((go_at_call 32; first | ((with_reducible refine (limitq _ _ Wln.out).mono ?_); rintro e w' ⟨rfl, rfl⟩; exact ⟨rfl, _, rfl⟩) | ((with_reducible refine (limitq _ _ Wcl.out).mono ?_); rintro e w' ⟨rfl, rfl⟩; exact ⟨rfl, _, rfl⟩) | ((with_reducible refine (limitq _ _ Hc.out).mono ?_); rintro e w' ⟨rfl, rfl⟩; exact ⟨rfl, _, rfl⟩)))
              go_wp2_with fail
              go_ret
              exact SomeB.mk _ (fun h => by cases h) (Below.drewN (Below.drewN hends _) _)
        · have e3 : (lim l == lim x.sl) = false := by simp [h2]
          have e2 : decide (lim l < lim x.sl) = false := by simpa using h1
          have g0 : lim x.sl < lim l := by omega
          have G0 := Lib.hid g0
          clear h2 h1
          have g1 := IntWalk.u64_in (lim x.line + lim l) ⟨by omega, by omega⟩
          have g2 := IntWalk.u64_in (lim x.line + lim l - lim x.sl) ⟨by omega, by omega⟩
          have g3 := IntWalk.u64_in (lim x.col + lim c) ⟨by omega, by omega⟩
          by_cases h4 : lim x.line + lim l - lim x.sl ≤ 1073741824
          · go_wp2_with fail
            go_quiet ((go_at_call 32; first | ((with_reducible refine (limitq _ _ Hl.out).mono ?_); rintro e w' ⟨rfl, rfl⟩; exact ⟨rfl, _, rfl⟩) | ((with_reducible refine (limitq _ _ Wsl.out).mono ?_); rintro e w' ⟨rfl, rfl⟩; exact ⟨rfl, _, rfl⟩)))
            go_wp2_with fail
            go_quiet (fail)
            go_wp2_with fail
            simp only [World.drewN_drewN]
            go_quiet ((go_at_call 32; first | ((with_reducible refine (limitq _ _ Wln.out).mono ?_); rintro e w' ⟨rfl, rfl⟩; exact ⟨rfl, _, rfl⟩) | ((with_reducible refine (limitq _ _ Wcl.out).mono ?_); rintro e w' ⟨rfl, rfl⟩; exact ⟨rfl, _, rfl⟩) | ((with_reducible refine (limitq _ _ Hc.out).mono ?_); rintro e w' ⟨rfl, rfl⟩; exact ⟨rfl, _, rfl⟩)))
            go_wp2_with fail
            go_ret
            refine SomeB.mk _ (fun h => ⟨HS.out, fun j hj => ?_⟩) (Below.drewN (Below.drewN hends _) _)
            obtain rfl : k = j := by omega
            rw [HE.out]
            exact .inr ⟨.inl G0.out, h4, of_decide_eq_true h⟩
          · have h4' : decide (lim x.line + lim l - lim x.sl ≤ 1073741824) = false := by simpa using h4
            go_wp2_with fail
            go_quiet ((go_at_call 32; first | ((with_reducible refine (limitq _ _ Hl.out).mono ?_); rintro e w' ⟨rfl, rfl⟩; exact ⟨rfl, _, rfl⟩) | ((with_reducible refine (limitq _ _ Wsl.out).mono ?_); rintro e w' ⟨rfl, rfl⟩; exact ⟨rfl, _, rfl⟩)))
            go_wp2_with fail
            go_quiet (fail)
            go_wp2_with fail
            simp only [World.drewN_drewN]
            go_quiet ((go_at_call 32; first | ((with_reducible refine (limitq _ _ Wln.out).mono ?_); rintro e w' ⟨rfl, rfl⟩; exact ⟨rfl, _, rfl⟩) | ((with_reducible refine (limitq _ _ Wcl.out).mono ?_); rintro e w' ⟨rfl, rfl⟩; exact ⟨rfl, _, rfl⟩) | ((with_reducible refine (limitq _ _ Hc.out).mono ?_); rintro e w' ⟨rfl, rfl⟩; exact ⟨rfl, _, rfl⟩)))
            go_wp2_with fail
            go_ret
            exact SomeB.mk _ (fun h => by cases h) (Below.drewN (Below.drewN hends _) _)
end Go.Proofs.Ytlmllpgebakhhaa.Pos
