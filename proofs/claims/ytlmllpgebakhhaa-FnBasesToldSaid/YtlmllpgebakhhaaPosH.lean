/-
  Positions, part H: what comes in, read: a list of bases, a position (no statement is closed here).
-/
import Derived.Test.YtlmllpgebakhhaaPosC
import Derived.Test.YtlmllpgebakhhaaPosB
import Derived.ProofKit
import Derived.Deep.Slices
import Derived.Lib.SmallJoins
namespace Go.Proofs.Ytlmllpgebakhhaa.Pos
open Go.RowKit Go.ChangeShapes Go.WideShapes
set_option linter.unusedVariables false

theorem c9 : Try.prog.cellsOf 9 = 1 := by kernel_rfl
theorem c4 : Try.prog.cellsOf 4 = 1 := by kernel_rfl
theorem c29 : Try.prog.cellsOf 29 = 3 := by kernel_rfl
theorem c27 : Try.prog.cellsOf 27 = 1 := by kernel_rfl
theorem c2 : Try.prog.cellsOf 2 = 1 := by kernel_rfl
theorem c42 : Try.prog.cellsOf 42 = 7 := by kernel_rfl
theorem u64_of {n : Int} (h : (Lit.int .u64 n).wf = true) : U64 n := by
  have : 0 ≤ n ∧ n ≤ 18446744073709551615 := by simpa [Lit.wf, IntKind.min, IntKind.max, IntKind.signed, IntKind.bits] using h
  exact ⟨this.1, by omega⟩
instance : Inhabited Bas := ⟨⟨⟨#[]⟩, false, 0, 0, 0, 0, 0⟩⟩

section
variable {H : Type} {enc : TypeId × Value → H} {w : World} {base : Nat} {spare : Nat → Bool} {held : Bool}

/-- The three cells of a position. -/
theorem spot_cells {fuel : Nat} {a0 a1 a2 : Value} {x : DataW H × List MemPlace} (h : DataW.trod enc Try.prog w base spare held fuel 29 [a0, a1, a2] = some x) :
    ∃ s l c, a0 = .int .i64 s ∧ a1 = .int .u64 l ∧ a2 = .int .u64 c ∧ U64 l ∧ U64 c := by
  obtain ⟨xs, n, _, _, _, hxl, hg⟩ := DataW.trod_struct Try.underlying29 h
  have g0 : DataW.trod enc Try.prog w base spare held n 2 (([a0, a1, a2].drop 0).take (Try.prog.cellsOf 2)) = xs[0]? := hg 0 _ rfl
  have g1 : DataW.trod enc Try.prog w base spare held n 27 (([a0, a1, a2].drop 1).take (Try.prog.cellsOf 27)) = xs[1]? := hg 1 _ rfl
  have g2 : DataW.trod enc Try.prog w base spare held n 27 (([a0, a1, a2].drop 2).take (Try.prog.cellsOf 27)) = xs[2]? := hg 2 _ rfl
  match xs, hxl with
  | [y0, y1, y2], _ =>
    simp only [c2, c27, List.drop_zero, List.drop_succ_cons, List.take_succ_cons, List.take_zero, List.getElem?_cons_zero, List.getElem?_cons_succ] at g0 g1 g2
    obtain ⟨s, e0, _, _⟩ := DataW.trod_int Try.underlying2 g0
    obtain ⟨l, e1, _, w1⟩ := DataW.trod_int Try.underlying27 g1
    obtain ⟨c, e2, _, w2⟩ := DataW.trod_int Try.underlying27 g2
    injection e0 with e0
    injection e1 with e1
    injection e2 with e2
    exact ⟨s, l, c, e0, e1, e2, u64_of w1, u64_of w2⟩

/-- The seven cells of a base. -/
theorem base_cells {fuel : Nat} {cs : List Value} {x : DataW H × List MemPlace} (h : DataW.trod enc Try.prog w base spare held fuel 42 cs = some x) :
    ∃ y : Bas, y.Wf ∧ cs = [.string y.name, .bool y.trim, .int .i64 y.sb, .int .u64 y.sl, .int .u64 y.sc, .int .u64 y.line, .int .u64 y.col] := by
  obtain ⟨xs, n, _, _, hlen, hxl, hg⟩ := DataW.trod_struct Try.underlying42 h
  rw [c42] at hlen
  have g0 : DataW.trod enc Try.prog w base spare held n 9 ((cs.drop 0).take (Try.prog.cellsOf 9)) = xs[0]? := hg 0 _ rfl
  have g1 : DataW.trod enc Try.prog w base spare held n 4 ((cs.drop 1).take (Try.prog.cellsOf 4)) = xs[1]? := hg 1 _ rfl
  have g2 : DataW.trod enc Try.prog w base spare held n 29 ((cs.drop 2).take (Try.prog.cellsOf 29)) = xs[2]? := hg 2 _ rfl
  have g3 : DataW.trod enc Try.prog w base spare held n 27 ((cs.drop 5).take (Try.prog.cellsOf 27)) = xs[3]? := hg 3 _ rfl
  have g4 : DataW.trod enc Try.prog w base spare held n 27 ((cs.drop 6).take (Try.prog.cellsOf 27)) = xs[4]? := hg 4 _ rfl
  match cs, hlen, xs, hxl with
  | [a0, a1, a2, a3, a4, a5, a6], _, [y0, y1, y2, y3, y4], _ =>
    simp only [c9, c4, c29, c27, List.drop_zero, List.drop_succ_cons, List.take_succ_cons, List.take_zero, List.getElem?_cons_zero, List.getElem?_cons_succ] at g0 g1 g2 g3 g4
    obtain ⟨s, e0, _, _⟩ := DataW.trod_string Try.underlying9 g0
    obtain ⟨b, e1, _⟩ := DataW.trod_bool Try.underlying4 g1
    obtain ⟨sb, sl, sc, e2, e3, e4, w1, w2⟩ := spot_cells g2
    obtain ⟨l, e5, _, w3⟩ := DataW.trod_int Try.underlying27 g3
    obtain ⟨c, e6, _, w4⟩ := DataW.trod_int Try.underlying27 g4
    injection e0 with e0
    injection e1 with e1
    injection e5 with e5
    injection e6 with e6
    subst e0 e1 e2 e3 e4 e5 e6
    exact ⟨⟨s, b, sb, sl, sc, l, c⟩, ⟨w1, w2, u64_of w3, u64_of w4⟩, rfl⟩

theorem addr_add (b off i : Nat) : (⟨b, off, none⟩ : Addr).add i = ⟨b, off + i, none⟩ := by
  unfold Addr.add
  by_cases h : i = 0 <;> simp [h]

/-- A list of bases that came in. -/
theorem row_of_trod {a : Option Addr} {len cap : Nat} {d : DataW H} {p : List MemPlace} (h : DataW.Trod enc Try.prog w base (fun _ => true) held 26 (.slice a len cap) d p) :
    ∃ bs : Nat → Bas, Row w a len bs ∧ (∀ k, k < len → (bs k).Wf) ∧ len ≤ maxLen := by
  obtain ⟨fuel, hf⟩ := h
  rcases Go.Deep.open_slice Try.underlying26 hf with ⟨hcs, _⟩ | ⟨a', len', cap', m, n, D, Pl, hcs, _, hl, hm, hmm, _, hx⟩
  · simp [Value.cells] at hcs
    obtain ⟨rfl, rfl, rfl⟩ := hcs
    exact ⟨fun _ => default, fun k hk => by omega, fun k hk => by omega, Nat.zero_le _⟩
  · simp [Value.cells] at hcs
    obtain ⟨rfl, rfl, rfl⟩ := hcs
    simp only [if_true] at hmm
    subst hmm
    rw [c42] at hx
    have hspot : 0 < len → a'.spot = none := fun h0 => by
      obtain ⟨cs', hc, ht⟩ := hx 0 (by omega)
      obtain ⟨y, hy, rfl⟩ := base_cells ht
      obtain ⟨_, _, hat⟩ := World.cells?_some hc
      have := World.cell?_spot (hat 0 (by decide))
      simpa [Addr.add] using this
    have hch : ∀ i, i < len → ∃ y : Bas, y.Wf ∧ ∃ b off, a' = ⟨b, off, none⟩ ∧ b < w.heap.size ∧ Cells7 w b (off + i * 7) y := by
      intro i hi
      obtain ⟨cs', hc, ht⟩ := hx i (by omega)
      obtain ⟨y, hy, rfl⟩ := base_cells ht
      obtain ⟨_, _, hat⟩ := World.cells?_some hc
      have h0 := hat 0 (by decide)
      have h1 := hat 1 (by decide)
      have h2 := hat 2 (by decide)
      have h3 := hat 3 (by decide)
      have h4 := hat 4 (by decide)
      have h5 := hat 5 (by decide)
      have h6 := hat 6 (by decide)
      obtain ⟨b, off, sp⟩ := a'
      have hsp : sp = none := hspot (by omega)
      subst hsp
      simp only [addr_add] at h0 h1 h2 h3 h4 h5 h6
      exact ⟨y, hy, b, off, rfl, World.block_lt_of_cell? w _ h0, h0, h1, h2, h3, h4, h5, h6⟩
    obtain ⟨bs, hbs⟩ := Go.Deep.choose_lt hch
    refine ⟨bs, fun k hk => ?_, fun k hk => (hbs k hk).1, by omega⟩
    obtain ⟨_, b, off, rfl, hb, hc⟩ := hbs k hk
    exact ⟨b, off, rfl, hb, hc⟩

/-- A position that came in. -/
theorem spot_of_trod {r : Reach} {b0 : Nat} {v : Value} {d : DataW H} {p : List MemPlace} (hv : Value.okWide Try.prog w r b0 29 v) (h : DataW.Trod enc Try.prog w base spare held 29 v d p) :
    ∃ x : Sp, v = .agg #[.int .i64 x.b, .int .u64 x.l, .int .u64 x.c] ∧ x.Wf := by
  obtain ⟨v0, v1, v2, y0, y1, y2, n, rfl, _, _, h0, h1, h2⟩ := Go.Joins.open_agg3 Try.underlying29 (by kernel_rfl) c29 hv h
  obtain ⟨s, e0, _, _⟩ := DataW.trod_int Try.underlying2 h0
  obtain ⟨l, e1, _, w1⟩ := DataW.trod_int Try.underlying27 h1
  obtain ⟨c, e2, _, w2⟩ := DataW.trod_int Try.underlying27 h2
  injection e0 with e0
  injection e1 with e1
  injection e2 with e2
  subst e0 e1 e2
  exact ⟨⟨s, l, c⟩, rfl, u64_of w1, u64_of w2⟩
end
end Go.Proofs.Ytlmllpgebakhhaa.Pos
