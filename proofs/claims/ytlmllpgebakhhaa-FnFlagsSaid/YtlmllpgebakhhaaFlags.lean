/-
  FnFlags: for every list of numbers the law answers true (each flag of a TypeAndValue is set by its own function alone). Conditions: none beyond the given row's.
-/
import Derived.Test.YtlmllpgebakhhaaRows
import Derived.WalkKit
import Derived.WalkSpells
import Derived.ProofKit
import Derived.Below
import Derived.Lib.Hide
import Derived.OpenShut
import Derived.ShutString
import Derived.ChangeOld
import Derived.Deep.QuietTactic
import Derived.BigQuiet
import Derived.StillTailTactics
import Derived.Deep.RegionHeld3
import Derived.Deep.RegionWith
import Derived.LoopTactic
namespace Go.Proofs.Ytlmllpgebakhhaa.fnFlags
open Go.ChangeShapes Go.WideShapes Go.ChangeAt Go.RowKit
theorem run_eqItems_same {P : Program} (w : World) (d : Nat) {e : TypeId} (he : P.plainKey e = true) (xs : Array Value) : ∀ (is : List Nat),
    (∀ i ∈ is, ∃ v, xs[i]? = some v ∧ (Op.equalIn d e v v).run P w = .ok true w) → (Op.eqItems d e 1 xs xs is).run P w = .ok true w
  | [], _ => by simp [Op.eqItems]
  | i :: is, h => by
    obtain ⟨v, hv, hr⟩ := h i (by simp)
    have ih := run_eqItems_same w d he xs is (fun j hj => h j (by simp [hj]))
    simp [Op.eqItems, Sem.run_bind, run_part_plain w he hv, hr, ih]
theorem info23 : (Try.prog.info? 4).isSome = true := by kernel_rfl
theorem cells4 : Try.prog.cellsOf 4 = 1 := by kernel_rfl
theorem eq9 (w : World) (c0 c1 c2 c3 c4 c5 c6 c7 c8 : Bool) :
    (Op.equalIn 10000 23 (.agg #[.bool c0, .bool c1, .bool c2, .bool c3, .bool c4, .bool c5, .bool c6, .bool c7, .bool c8]) (.agg #[.bool c0, .bool c1, .bool c2, .bool c3, .bool c4, .bool c5, .bool c6, .bool c7, .bool c8])).run Try.prog w = .ok true w := by
  obtain ⟨i, hi⟩ := Option.isSome_iff_exists.1 info23
  rw [run_equalIn_array w 9999 _ _ Try.underlying23 hi, cells4]
  have hb : ∀ b : Bool, (Op.equalIn 9999 4 (.bool b) (.bool b)).run Try.prog w = .ok true w := fun b => by
    rw [run_equalIn_bool w 9998 4 b b Try.underlying4]; simp
  refine run_eqItems_same w 9999 (by kernel_rfl) _ _ ?_
  intro j hj
  have hj : j < 9 := by simpa using hj
  match j, hj with
  | 0, _ => exact ⟨_, rfl, hb _⟩
  | 1, _ => exact ⟨_, rfl, hb _⟩
  | 2, _ => exact ⟨_, rfl, hb _⟩
  | 3, _ => exact ⟨_, rfl, hb _⟩
  | 4, _ => exact ⟨_, rfl, hb _⟩
  | 5, _ => exact ⟨_, rfl, hb _⟩
  | 6, _ => exact ⟨_, rfl, hb _⟩
  | 7, _ => exact ⟨_, rfl, hb _⟩
  | 8, _ => exact ⟨_, rfl, hb _⟩

/-- The word of nine flags. -/
def fw (b0 b1 b2 b3 b4 b5 b6 b7 b8 : Bool) : Int := (b0.toNat + 2 * b1.toNat + 4 * b2.toNat + 8 * b3.toNat + 16 * b4.toNat + 32 * b5.toNat + 64 * b6.toNat + 128 * b7.toNat + 256 * b8.toNat : Nat)

theorem or0 : ∀ b0 b1 b2 b3 b4 b5 b6 b7 b8 : Bool, bits .or .u16 (fw b0 b1 b2 b3 b4 b5 b6 b7 b8) 1 = fw true b1 b2 b3 b4 b5 b6 b7 b8 := by decide +kernel
theorem or1 : ∀ b0 b1 b2 b3 b4 b5 b6 b7 b8 : Bool, bits .or .u16 (fw b0 b1 b2 b3 b4 b5 b6 b7 b8) 2 = fw b0 true b2 b3 b4 b5 b6 b7 b8 := by decide +kernel
theorem or2 : ∀ b0 b1 b2 b3 b4 b5 b6 b7 b8 : Bool, bits .or .u16 (fw b0 b1 b2 b3 b4 b5 b6 b7 b8) 4 = fw b0 b1 true b3 b4 b5 b6 b7 b8 := by decide +kernel
theorem or3 : ∀ b0 b1 b2 b3 b4 b5 b6 b7 b8 : Bool, bits .or .u16 (fw b0 b1 b2 b3 b4 b5 b6 b7 b8) 8 = fw b0 b1 b2 true b4 b5 b6 b7 b8 := by decide +kernel
theorem or4 : ∀ b0 b1 b2 b3 b4 b5 b6 b7 b8 : Bool, bits .or .u16 (fw b0 b1 b2 b3 b4 b5 b6 b7 b8) 16 = fw b0 b1 b2 b3 true b5 b6 b7 b8 := by decide +kernel
theorem or5 : ∀ b0 b1 b2 b3 b4 b5 b6 b7 b8 : Bool, bits .or .u16 (fw b0 b1 b2 b3 b4 b5 b6 b7 b8) 32 = fw b0 b1 b2 b3 b4 true b6 b7 b8 := by decide +kernel
theorem or6 : ∀ b0 b1 b2 b3 b4 b5 b6 b7 b8 : Bool, bits .or .u16 (fw b0 b1 b2 b3 b4 b5 b6 b7 b8) 64 = fw b0 b1 b2 b3 b4 b5 true b7 b8 := by decide +kernel
theorem or7 : ∀ b0 b1 b2 b3 b4 b5 b6 b7 b8 : Bool, bits .or .u16 (fw b0 b1 b2 b3 b4 b5 b6 b7 b8) 128 = fw b0 b1 b2 b3 b4 b5 b6 true b8 := by decide +kernel
theorem or8 : ∀ b0 b1 b2 b3 b4 b5 b6 b7 b8 : Bool, bits .or .u16 (fw b0 b1 b2 b3 b4 b5 b6 b7 b8) 256 = fw b0 b1 b2 b3 b4 b5 b6 b7 true := by decide +kernel
theorem and0 : ∀ b0 b1 b2 b3 b4 b5 b6 b7 b8 : Bool, (bits .and .u16 (fw b0 b1 b2 b3 b4 b5 b6 b7 b8) 1 != 0) = b0 := by decide +kernel
theorem and1 : ∀ b0 b1 b2 b3 b4 b5 b6 b7 b8 : Bool, (bits .and .u16 (fw b0 b1 b2 b3 b4 b5 b6 b7 b8) 2 != 0) = b1 := by decide +kernel
theorem and2 : ∀ b0 b1 b2 b3 b4 b5 b6 b7 b8 : Bool, (bits .and .u16 (fw b0 b1 b2 b3 b4 b5 b6 b7 b8) 4 != 0) = b2 := by decide +kernel
theorem and3 : ∀ b0 b1 b2 b3 b4 b5 b6 b7 b8 : Bool, (bits .and .u16 (fw b0 b1 b2 b3 b4 b5 b6 b7 b8) 8 != 0) = b3 := by decide +kernel
theorem and4 : ∀ b0 b1 b2 b3 b4 b5 b6 b7 b8 : Bool, (bits .and .u16 (fw b0 b1 b2 b3 b4 b5 b6 b7 b8) 16 != 0) = b4 := by decide +kernel
theorem and5 : ∀ b0 b1 b2 b3 b4 b5 b6 b7 b8 : Bool, (bits .and .u16 (fw b0 b1 b2 b3 b4 b5 b6 b7 b8) 32 != 0) = b5 := by decide +kernel
theorem and6 : ∀ b0 b1 b2 b3 b4 b5 b6 b7 b8 : Bool, (bits .and .u16 (fw b0 b1 b2 b3 b4 b5 b6 b7 b8) 64 != 0) = b6 := by decide +kernel
theorem and7 : ∀ b0 b1 b2 b3 b4 b5 b6 b7 b8 : Bool, (bits .and .u16 (fw b0 b1 b2 b3 b4 b5 b6 b7 b8) 128 != 0) = b7 := by decide +kernel
theorem and8 : ∀ b0 b1 b2 b3 b4 b5 b6 b7 b8 : Bool, (bits .and .u16 (fw b0 b1 b2 b3 b4 b5 b6 b7 b8) 256 != 0) = b8 := by decide +kernel

/-- The word after a flag's number. -/
def stp (F n : Int) : Int := if n = 0 then bits .or .u16 F 1 else if n = 1 then bits .or .u16 F 2 else if n = 2 then bits .or .u16 F 4 else if n = 3 then bits .or .u16 F 8
  else if n = 4 then bits .or .u16 F 16 else if n = 5 then bits .or .u16 F 32 else if n = 6 then bits .or .u16 F 64 else if n = 7 then bits .or .u16 F 128 else bits .or .u16 F 256

theorem nine (n : Int) (h0 : 0 ≤ n) (h9 : n < 9) : n = 0 ∨ n = 1 ∨ n = 2 ∨ n = 3 ∨ n = 4 ∨ n = 5 ∨ n = 6 ∨ n = 7 ∨ n = 8 := by omega

set_option maxHeartbeats 1000000 in
theorem set19 (b : Nat) (F n : Int) (w : World) (h0 : 0 ≤ n) (h9 : n < 9) (hc : w.cell? ⟨b, 2, none⟩ = some (.int .u16 F)) (hf : w.frozen? ⟨b, 2, none⟩ = false) :
    Calls Try.prog 19 #[.pointer (some ⟨b, 0, none⟩), .int .i64 n] w fun e w' => e = .returned (.tuple #[]) ∧ w' = w.setCell ⟨b, 2, none⟩ (.int .u16 (stp F n)) := by
  rcases nine n h0 h9 with rfl | rfl | rfl | rfl | rfl | rfl | rfl | rfl | rfl
  all_goals
    clear h0 h9
    go_enter Try.func19, Try.ntmps19
    go_wp2
    go_end0
    go_wp2
    go_end0
    exact ⟨rfl, rfl⟩

theorem miss19 (b : Nat) (n : Int) (w : World) (h : n < 0 ∨ 9 ≤ n) :
    Calls Try.prog 19 #[.pointer (some ⟨b, 0, none⟩), .int .i64 n] w fun e w' => e = .returned (.tuple #[]) ∧ w' = w := by
  have e0 : (n == 0) = false := by simp; omega
  have e1 : (n == 1) = false := by simp; omega
  have e2 : (n == 2) = false := by simp; omega
  have e3 : (n == 3) = false := by simp; omega
  have e4 : (n == 4) = false := by simp; omega
  have e5 : (n == 5) = false := by simp; omega
  have e6 : (n == 6) = false := by simp; omega
  have e7 : (n == 7) = false := by simp; omega
  have e8 : (n == 8) = false := by simp; omega
  clear h
  go_enter Try.func19, Try.ntmps19
  go_wp2
  go_end0
  exact ⟨rfl, rfl⟩

theorem is20 (n : Int) (w : World) : Calls Try.prog 20 #[.int .u16 n] w fun e w' => e = .returned (.bool (bits .and .u16 n 1 != 0)) ∧ w' = w := by
  go_enter Try.func20, Try.ntmps20
  go_wp2
  go_ret
  exact ⟨rfl, rfl⟩

theorem is21 (n : Int) (w : World) : Calls Try.prog 21 #[.int .u16 n] w fun e w' => e = .returned (.bool (bits .and .u16 n 2 != 0)) ∧ w' = w := by
  go_enter Try.func21, Try.ntmps21
  go_wp2
  go_ret
  exact ⟨rfl, rfl⟩

theorem is22 (n : Int) (w : World) : Calls Try.prog 22 #[.int .u16 n] w fun e w' => e = .returned (.bool (bits .and .u16 n 4 != 0)) ∧ w' = w := by
  go_enter Try.func22, Try.ntmps22
  go_wp2
  go_ret
  exact ⟨rfl, rfl⟩

theorem is23 (n : Int) (w : World) : Calls Try.prog 23 #[.int .u16 n] w fun e w' => e = .returned (.bool (bits .and .u16 n 8 != 0)) ∧ w' = w := by
  go_enter Try.func23, Try.ntmps23
  go_wp2
  go_ret
  exact ⟨rfl, rfl⟩

theorem is24 (n : Int) (w : World) : Calls Try.prog 24 #[.int .u16 n] w fun e w' => e = .returned (.bool (bits .and .u16 n 16 != 0)) ∧ w' = w := by
  go_enter Try.func24, Try.ntmps24
  go_wp2
  go_ret
  exact ⟨rfl, rfl⟩

theorem is25 (n : Int) (w : World) : Calls Try.prog 25 #[.int .u16 n] w fun e w' => e = .returned (.bool (bits .and .u16 n 32 != 0)) ∧ w' = w := by
  go_enter Try.func25, Try.ntmps25
  go_wp2
  go_ret
  exact ⟨rfl, rfl⟩

theorem is26 (n : Int) (w : World) : Calls Try.prog 26 #[.int .u16 n] w fun e w' => e = .returned (.bool (bits .and .u16 n 64 != 0)) ∧ w' = w := by
  go_enter Try.func26, Try.ntmps26
  go_wp2
  go_ret
  exact ⟨rfl, rfl⟩

theorem is27 (n : Int) (w : World) : Calls Try.prog 27 #[.int .u16 n] w fun e w' => e = .returned (.bool (bits .and .u16 n 128 != 0)) ∧ w' = w := by
  go_enter Try.func27, Try.ntmps27
  go_wp2
  go_ret
  exact ⟨rfl, rfl⟩

theorem is28 (n : Int) (w : World) : Calls Try.prog 28 #[.int .u16 n] w fun e w' => e = .returned (.bool (bits .and .u16 n 256 != 0)) ∧ w' = w := by
  go_enter Try.func28, Try.ntmps28
  go_wp2
  go_ret
  exact ⟨rfl, rfl⟩

/-- the flag of number i after the first k of the list -/
def hs (l : List Int) (k : Nat) (i : Int) : Bool := (l.take k).contains i
def fl (l : List Int) (k : Nat) : Int := fw (hs l k 0) (hs l k 1) (hs l k 2) (hs l k 3) (hs l k 4) (hs l k 5) (hs l k 6) (hs l k 7) (hs l k 8)
def row9 (l : List Int) (k : Nat) : Array Value := #[.bool (hs l k 0), .bool (hs l k 1), .bool (hs l k 2), .bool (hs l k 3), .bool (hs l k 4), .bool (hs l k 5), .bool (hs l k 6), .bool (hs l k 7), .bool (hs l k 8)]
theorem hs_zero (l : List Int) (i : Int) : hs l 0 i = false := by simp [hs]
theorem hs_succ (l : List Int) (k : Nat) (i : Int) (h : k < l.length) : hs l (k + 1) i = (hs l k i || l.getD k 0 == i) := by
  have e : l.getD k 0 = l[k] := by simp [List.getD, h]
  unfold hs
  rw [List.take_succ_eq_append_getElem h, e, List.contains_append]
  congr 1
  simp only [List.contains_cons, List.contains_nil, Bool.or_false]
  exact BEq.comm
theorem fl_hit (l : List Int) (k : Nat) (h : k < l.length) (h0 : 0 ≤ l.getD k 0) (h9 : l.getD k 0 < 9) : stp (fl l k) (l.getD k 0) = fl l (k + 1) := by
  unfold fl stp
  simp only [hs_succ l k _ h, or0, or1, or2, or3, or4, or5, or6, or7, or8]
  generalize l.getD k 0 = x at *
  rcases nine _ h0 h9 with e | e | e | e | e | e | e | e | e <;> subst e <;> simp
theorem fl_miss (l : List Int) (k : Nat) (h : k < l.length) (hm : l.getD k 0 < 0 ∨ 9 ≤ l.getD k 0) : fl l (k + 1) = fl l k := by
  have e : ∀ i : Int, 0 ≤ i → i < 9 → hs l (k + 1) i = hs l k i := fun i h0 h9 => by
    rw [hs_succ l k _ h]
    have : (l.getD k 0 == i) = false := by simp only [beq_eq_false_iff_ne]; omega
    rw [this, Bool.or_false]
  unfold fl
  rw [e 0 (by decide) (by decide), e 1 (by decide) (by decide), e 2 (by decide) (by decide), e 3 (by decide) (by decide), e 4 (by decide) (by decide), e 5 (by decide) (by decide), e 6 (by decide) (by decide), e 7 (by decide) (by decide), e 8 (by decide) (by decide)]
theorem fl_zero (l : List Int) : fl l 0 = 0 := by simp [fl, hs_zero, fw]


theorem bcell {W w1 : World} (hb : Below W.heap.size W w1) : (∀ b o, b < W.heap.size → w1.cell? ⟨b, o, none⟩ = W.cell? ⟨b, o, none⟩) ∧ (∀ b o, b < W.heap.size → w1.frozen? ⟨b, o, none⟩ = W.frozen? ⟨b, o, none⟩) :=
  ⟨fun b o h => hb.cell (p := ⟨b, o, none⟩) h, fun b o h => hb.frozen (p := ⟨b, o, none⟩) h⟩

/-- What is known of a slice of numbers that came in: where an element is, it is found. -/
def Ints (w : World) (A : Option Addr) (len : Nat) (zs : List Int) : Prop :=
  ∀ k, k < len → ∃ b off, A = some ⟨b, off, none⟩ ∧ b < w.heap.size ∧ w.cell? ⟨b, off + k, none⟩ = some (.int .i64 (zs.getD k 0))

set_option maxRecDepth 100000 in
set_option maxHeartbeats 4000000 in
theorem flags9 (A : Option Addr) (len cap : Nat) (zs : List Int) (w : World) (hm : len ≤ maxLen) (hz : len ≤ zs.length)
    (hc : Ints w A len zs) :
    Calls Try.prog 9 #[.slice A len cap] w fun e w' => e = .returned (.agg (row9 zs len)) ∧ Below w.heap.size w w' := by
  unfold maxLen at hm
  go_enter Try.func9, Try.ntmps9
  go_wp2
  go_loopw [10] (fun i wr => ∃ k : Nat, k ≤ len ∧ i = .int .i64 k ∧ wr = (w.alloc (.cells #[.bool false, .bool false, .bool false, .bool false, .bool false, .bool false, .bool false, .bool false, .bool false] 23)).alloc (.cells #[.nilIface, .nilIface, .int .u16 (fl zs k)] 58)) (fun i _ => len - (intOf i).toNat)
  case atStart => exact ⟨0, Nat.zero_le _, rfl, by rw [fl_zero]⟩
  case round =>
    obtain ⟨k, hk, rfl, rfl⟩ := hrel
    by_cases hlt : k < len
    · obtain ⟨b, off, rfl, hb, hcell⟩ := hc k hlt
      clear hc
      by_cases hin : 0 ≤ zs.getD k 0 ∧ zs.getD k 0 < 9
      · have HF := Lib.hid (fl_hit zs k (by omega) hin.1 hin.2)
        obtain ⟨h0, h9⟩ := hin
        generalize zs.getD k 0 = x at *
        go_wp2_with (go_at_call 19; refine (set19 _ (fl zs k) _ _ h0 h9 (by go_simp) (by go_simp)).mono ?_; rintro e w' ⟨rfl, rfl⟩)
        go_roundw
        case rel => exact ⟨k + 1, by omega, by go_num, by rw [← HF.out]⟩
        case measure => simp [intOf]; omega
      · have hin' : zs.getD k 0 < 0 ∨ 9 ≤ zs.getD k 0 := by omega
        have HF := Lib.hid (fl_miss zs k (by omega) hin')
        have HI := Lib.hid hin'
        clear hin hin'
        generalize zs.getD k 0 = x at *
        go_wp2_with (go_at_call 19; refine (miss19 _ _ _ HI.out).mono ?_; rintro e w' ⟨rfl, rfl⟩)
        go_roundw
        case rel => exact ⟨k + 1, by omega, by go_num, by rw [HF.out]⟩
        case measure => simp [intOf]; omega
    · obtain rfl : k = len := by omega
      clear hc
      go_wp2_with fail
      refine wp_region_still_tail 46 (by kernel_rfl) (by kernel_rfl) ?_
      simp only [List.take_succ_cons, List.take_zero, List.drop_succ_cons, List.drop_zero]
      change wpStill _ _ (World.drew ((w.alloc _).alloc _)) _ _ _
      repeat still_step
      still_call (is20 _ _)
      repeat still_step
      still_call (is21 _ _)
      repeat still_step
      still_call (is22 _ _)
      repeat still_step
      still_call (is23 _ _)
      repeat still_step
      still_call (is24 _ _)
      repeat still_step
      still_call (is25 _ _)
      repeat still_step
      still_call (is26 _ _)
      repeat still_step
      still_call (is27 _ _)
      repeat still_step
      still_call (is28 _ _)
      repeat still_step
      refine wpStill_nil ?_
      change wpList _ _ _ _ _ (World.drew ((w.alloc _).alloc _))
      go_wp2
      refine bodyPost_ret (v := .agg #[.bool (bits .and .u16 (fl zs k) 1 != 0), .bool (bits .and .u16 (fl zs k) 2 != 0), .bool (bits .and .u16 (fl zs k) 4 != 0), .bool (bits .and .u16 (fl zs k) 8 != 0), .bool (bits .and .u16 (fl zs k) 16 != 0), .bool (bits .and .u16 (fl zs k) 32 != 0), .bool (bits .and .u16 (fl zs k) 64 != 0), .bool (bits .and .u16 (fl zs k) 128 != 0), .bool (bits .and .u16 (fl zs k) 256 != 0)]) (by simp [results, Try.results9, go_sem]) rfl ⟨?_, ?_⟩
      · unfold fl row9
        rw [and0, and1, and2, and3, and4, and5, and6, and7, and8]
      · exact (((Below.refl _ _).alloc (Nat.le_refl _) _).alloc (by simp) _).drew

theorem row9_zero (l : List Int) : row9 l 0 = #[.bool false, .bool false, .bool false, .bool false, .bool false, .bool false, .bool false, .bool false, .bool false] := by simp [row9, hs_zero]
theorem row9_hit (l : List Int) (k : Nat) (h : k < l.length) (h0 : 0 ≤ l.getD k 0) (h9 : l.getD k 0 < 9) : (row9 l k).setIfInBounds (l.getD k 0).toNat (.bool true) = row9 l (k + 1) := by
  unfold row9
  simp only [hs_succ l k _ h]
  generalize l.getD k 0 = x at *
  rcases nine _ h0 h9 with e | e | e | e | e | e | e | e | e <;> subst e <;> simp
theorem row9_miss (l : List Int) (k : Nat) (h : k < l.length) (hm : l.getD k 0 < 0 ∨ 9 ≤ l.getD k 0) : row9 l (k + 1) = row9 l k := by
  have e : ∀ i : Int, 0 ≤ i → i < 9 → hs l (k + 1) i = hs l k i := fun i h0 h9 => by
    rw [hs_succ l k _ h]
    have : (l.getD k 0 == i) = false := by simp only [beq_eq_false_iff_ne]; omega
    rw [this, Bool.or_false]
  unfold row9
  rw [e 0 (by decide) (by decide), e 1 (by decide) (by decide), e 2 (by decide) (by decide), e 3 (by decide) (by decide), e 4 (by decide) (by decide), e 5 (by decide) (by decide), e 6 (by decide) (by decide), e 7 (by decide) (by decide), e 8 (by decide) (by decide)]

set_option maxRecDepth 100000 in
set_option maxHeartbeats 4000000 in
theorem law3 (A : Option Addr) (len cap : Nat) (zs : List Int) (w : World) (hm : len ≤ maxLen) (hz : len ≤ zs.length)
    (hc : Ints w A len zs) :
    Calls Try.prog 3 #[.slice A len cap] w fun e w' => e = .returned (.bool true) ∧ Below w.heap.size w w' := by
  have hmm := hm
  unfold maxLen at hmm
  by_cases hbig : 2147483647 < len
  · go_enter Try.func3, Try.ntmps3
    go_wp2
    go_ret
    exact ⟨rfl, Below.refl _ _⟩
  · have hH := Lib.hid hc
    clear hc
    go_enter Try.func3, Try.ntmps3
    go_wp2
    go_loopw [12] (fun i wr => ∃ k : Nat, k ≤ len ∧ i = .int .i64 k ∧ wr = w.alloc (.cells (row9 zs k) 23)) (fun i _ => len - (intOf i).toNat)
    case atStart => exact ⟨0, Nat.zero_le _, rfl, by rw [row9_zero]⟩
    case round =>
      obtain ⟨k, hk, rfl, rfl⟩ := hrel
      by_cases hlt : k < len
      · obtain ⟨b, off, rfl, hb, hcell⟩ := hH.out k hlt
        clear hH
        by_cases hin : 0 ≤ zs.getD k 0 ∧ zs.getD k 0 < 9
        · have HF := Lib.hid (row9_hit zs k (by omega) hin.1 hin.2)
          obtain ⟨h0, h9⟩ := hin
          generalize zs.getD k 0 = x at *
          obtain ⟨v9, hv9⟩ : ∃ v, (row9 zs k)[x.toNat]? = some v := ⟨_, Array.getElem?_eq_getElem (by simp [row9]; omega)⟩
          go_wp2
          go_roundw
          case rel => exact ⟨k + 1, by omega, by go_num, by rw [← HF.out]⟩
          case measure => simp [intOf]; omega
        · have hin' : zs.getD k 0 < 0 ∨ 9 ≤ zs.getD k 0 := by omega
          have HF := Lib.hid (row9_miss zs k (by omega) hin')
          clear hin
          generalize zs.getD k 0 = x at *
          rcases hin' with hlo | hhi
          · go_wp2
            go_roundw
            case rel => exact ⟨k + 1, by omega, by go_num, by rw [HF.out]⟩
            case measure => simp [intOf]; omega
          · have h0 : 0 ≤ x := by omega
            go_wp2
            go_roundw
            case rel => exact ⟨k + 1, by omega, by go_num, by rw [HF.out]⟩
            case measure => simp [intOf]; omega
      · obtain rfl : k = len := by omega
        have hInts : Ints (w.alloc (.cells (row9 zs k) 23)) A k zs := fun i hi => by
          obtain ⟨b, off, e, hb, h⟩ := hH.out i hi
          exact ⟨b, off, e, by simp; omega, by rw [World.cell?_alloc_lt _ _ _ hb]; exact h⟩
        clear hH
        obtain ⟨c0, c1, c2, c3, c4, c5, c6, c7, c8, hr⟩ : ∃ c0 c1 c2 c3 c4 c5 c6 c7 c8 : Bool, row9 zs k = #[.bool c0, .bool c1, .bool c2, .bool c3, .bool c4, .bool c5, .bool c6, .bool c7, .bool c8] := ⟨_, _, _, _, _, _, _, _, _, rfl⟩
        have HI := Lib.hid hInts
        have HR := Lib.hid hr
        rw [hr] at HI ⊢
        clear hInts hr
        have heq := fun w' => eq9 w' c0 c1 c2 c3 c4 c5 c6 c7 c8
        go_wp2_with fail
        go_region_with (first
          | (go_at_call 9
             refine (flags9 A k cap zs _ hm hz (by exact HI.out)).mono ?_
             rintro e w1 ⟨rfl, hb⟩
             rw [HR.out]
             obtain ⟨hcc, hff⟩ := bcell hb))
        all_goals
          go_wp2
          go_ret
          exact ⟨rfl, (((Below.refl _ _).alloc (Nat.le_refl _) _).drew).trans (hb.mono (by simp))⟩

set_option linter.unusedVariables false
theorem own : ownKnob Try.prog.godebug = none := by kernel_rfl
theorem laidOut : laidOutB Try.prog = true := by kernel_rfl

/-- WHAT THE WALK IS TOLD OF A SLICE OF INTEGERS THAT CAME IN: it is nil; or it leads to a row of 'cap' cells, the numbers 'zs' (the first 'len' are its elements, the rest its spare room), each fitting its kind. -/
def IsRow (k : IntKind) (w : World) (a : Option Addr) (len cap : Nat) (zs : List Int) : Prop :=
  (a = none ∧ len = 0 ∧ cap = 0 ∧ zs = []) ∨
  ∃ x, a = some x ∧ len ≤ cap ∧ cap ≤ maxLen ∧ zs.length = cap ∧ (∀ i, i < zs.length → w.cell? (x.add i) = some (.int k (zs.getD i 0))) ∧ ∀ n ∈ zs, (Lit.int k n).wf = true

/-! ### STEP 1: THE WALK: the Go text returns true, AND WRITES NOTHING THAT WAS THERE: 'Below w.heap.size w w'' (Derived/Below.lean: '.refl', '.alloc', '.drew', '.setCell' at a new block, '.trans'). Open each 'IsRow' by 'rcases' AHEAD of 'go_enter'; part every test ahead of the walk. -/
theorem walk (a0 : Option Addr) (len0 cap0 : Nat) (z0 : List Int) (w : World) (w0 : IsRow .i64 w a0 len0 cap0 z0) :
    Calls Try.prog 3 #[.slice a0 len0 cap0] w fun e w' => e = .returned (.bool true) ∧ Below w.heap.size w w' := by
  have hm : len0 ≤ maxLen := by
    rcases w0 with ⟨_, rfl, _, _⟩ | ⟨x, _, hl, hm, _⟩
    · exact Nat.zero_le _
    · omega
  have hz : len0 ≤ z0.length := by
    rcases w0 with ⟨_, rfl, _, _⟩ | ⟨x, _, hl, hm, hz, _⟩
    · exact Nat.zero_le _
    · omega
  refine law3 a0 len0 cap0 z0 w hm hz ?_
  intro k hk
  rcases w0 with ⟨_, rfl, _, _⟩ | ⟨x, rfl, hl, _, hz', hcell, _⟩
  · omega
  · obtain ⟨b, off, rfl, hc⟩ := ints_at hcell (by omega)
    have h := hc k (by omega)
    exact ⟨b, off, rfl, World.block_lt_of_cell? w _ h, h⟩

/-! ### THE ROW's STEP: WRITTEN OUT: LEAVE IT -/
set_option maxRecDepth 100000 in
theorem lifted (os : Os) (started : os.Started) (H : Type) (enc : TypeId × Value → H) :
    ReturnsInHanded {} Try.checked os 3 .any (Rows.fnFlagsSpec.pre6 enc Try.prog Try.f3 Rows.fnFlagsRow.domain false) (Rows.fnFlagsSpec.post enc Try.prog Try.f3 false true false false) := by
  refine returnsInHanded_of_change (C := Try.checked) own started (by kernel_rfl) Try.func3
    (ChangeSpec.witness6 (enc := enc) (C := Try.checked) false ⟨#[], #[.slice none 0 0], []⟩ 8 (by kernel_rfl) (by kernel_rfl) (by kernel_rfl) (by kernel_rfl)) ?_
  intro W base args ds gs before hval0 hW hcnd _
  have hval : ∀ (j : Nat) t v, Try.f3.params[j]? = some t → args[j]? = some v → Value.okWide Try.prog W .any base t v := hval0
  have hW' := hW
  obtain ⟨p, q, hA0, hV, rfl, hfz, hnd⟩ := hW
  have hA : DataW.TrodAll enc Try.prog W 0 (fun _ => true) true Try.f3.params.toList args.toList ds p := hA0
  rw [Try.params3] at hA hval
  obtain ⟨v0, vs0, d0, ds0, p0, q0, hargs, rfl, rfl, h0, r0⟩ := trodAll_cons hA
  obtain ⟨rfl, rfl, rfl⟩ := trodAll_nil r0
  obtain rfl : args = #[v0] := by cases args; simp_all
  obtain ⟨rfl, rfl⟩ := trodVars_none hV
  obtain ⟨a0, len0, cap0, rfl⟩ := okWide_slice Try.underlying22 (hval 0 22 v0 rfl rfl)
  have k0 := h0
  have lt0 : ∀ x ∈ p0, x.block < W.heap.size := by obtain ⟨m, hm⟩ := k0; exact DataW.trod_lt m _ _ _ hm
  obtain ⟨z0, w0⟩ : ∃ zs, IsRow .i64 W a0 len0 cap0 zs := by
    obtain ⟨fuel, hf⟩ := h0
    rcases open_ints Try.underlying22 Try.underlying2 (by kernel_rfl) hf with ⟨hcs, _⟩ | ⟨x, l, c, zs, hcs, _, hl, hm, hz, _, hcell, hwz⟩
    · simp [Value.cells] at hcs
      obtain ⟨rfl, rfl, rfl⟩ := hcs
      exact ⟨[], .inl ⟨rfl, rfl, rfl, rfl⟩⟩
    · simp [Value.cells] at hcs
      obtain ⟨rfl, rfl, rfl⟩ := hcs
      exact ⟨zs, .inr ⟨_, rfl, hl, hm, by simpa using hz, hcell, hwz⟩⟩
  clear hA0 hval0
  refine (walk a0 len0 cap0 z0 W w0).mono fun e W' ⟨he, bel⟩ => ?_
  subst he
  exact ⟨_, rfl, _, _, _, [], _, [], hW', trodAll_mk1 (shut_bool Try.underlying4 _), (trodAll_cons_mk (Below.trod laidOut (by kernel_rfl) (of_decide_eq_true (by kernel_rfl)) k0 bel lt0) trodAll_mk0), rfl, bel.frame _, fun h => by cases h⟩

theorem over : Rows.fnFlagsRow.holds Try.pinned (OpenSpec.ofChange Rows.fnFlagsSpec) :=
  OpenClaim.holds_of_wide 3 Try.f3 rfl rfl rfl rfl rfl rfl rfl ⟨rfl, rfl, rfl, rfl, rfl⟩ rfl rfl rfl rfl rfl (by kernel_rfl) Try.func3 (by kernel_rfl)
    (of_decide_eq_true (by kernel_rfl)) (by unfold Func.isWrapper; first | (rw [if_pos (by decide +kernel)]; kernel_rfl) | (rw [if_neg (by decide +kernel)]; exact ⟨rfl, rfl⟩))
    (fun os started H enc _ => lifted os started H enc)

/-- ████ THE STATEMENT ████ -/
theorem proved : Rows.FnFlagsSaid := over
#print axioms proved
end Go.Proofs.Ytlmllpgebakhhaa.fnFlags
