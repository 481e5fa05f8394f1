/-
  FnOperatorText: for every number the law answers true (operators have their texts). Conditions: none beyond the given row's (its listed package-level tables, tied by the card).
-/
import Derived.Test.YtlmllpgebakhhaaDoorOpA
import Derived.Lib.SmallJoins
import Derived.Stop.LaidErr
namespace Go.Proofs.YtlmllpgebakhhaaDoor.fnOperatorText
open Go.ChangeShapes Go.WideShapes Go.ChangeAt Go.RowKit

theorem own : ownKnob Tryd.prog.godebug = none := by kernel_rfl
theorem laidOut : laidOutB Tryd.prog = true := by kernel_rfl
theorem gTab : Tryd.prog.globalNamed "loop.example/pub-g01447/pub/gosyntaxall._Operator_index" = some 0 := by kernel_rfl
theorem gTabType : (Tryd.prog.globals[0]?).map (·.type) = some 31 := by kernel_rfl
theorem cells31 : Tryd.prog.cellsOf 31 = 24 := by kernel_rfl
theorem cells5 : Tryd.prog.cellsOf 5 = 1 := by kernel_rfl

theorem table {W : World} (h : laidMetH Tryd.prog Rows.fnOperatorTextRow.laid W) : Lib.TabIs Tryd.prog W "loop.example/pub-g01447/pub/gosyntaxall._Operator_index" .u8 tab := by
  have h' : laidMet Tryd.prog Rows.fnOperatorTextRow.laid W := h
  exact Lib.tabIs_of_head (rest := []) gTab gTabType Tryd.underlying31 Tryd.underlying5 cells5 cells31 (laidMet.tail (laidMet.tail (laidMet.tail h')))

theorem contract (H : Type) (enc : TypeId × Value → H) (W : World) (base : Nat) (args : Array Value) (ds gs : List (DataW H)) (before : List MemPlace)
    (hval : ∀ (j : Nat) t v, Tryd.f3.params[j]? = some t → args[j]? = some v → Value.okWide Tryd.prog W .any base t v)
    (hW : DataW.Whole enc Tryd.prog Tryd.f3.params.toList Rows.fnOperatorTextSpec.vars false W args.toList ds gs before) (hL : laidMetH Tryd.prog Rows.fnOperatorTextRow.laid W) :
    Calls Tryd.prog 3 args W fun e W' => ∃ v, e = .returned v ∧ Rows.fnOperatorTextSpec.post enc Tryd.prog Tryd.f3 false true false false W args v W' := by
  have hW' := hW
  obtain ⟨p, q, hA0, hV, rfl, hfz, hnd⟩ := hW
  have hA : DataW.TrodAll enc Tryd.prog W 0 (fun _ => true) true Tryd.f3.params.toList args.toList ds p := hA0
  rw [Tryd.params3] at hA hval
  obtain ⟨v0, vs0, d0, ds0, p0, q0, hargs, rfl, rfl, h0, r0⟩ := trodAll_cons hA
  obtain ⟨rfl, rfl, rfl⟩ := trodAll_nil r0
  obtain rfl : args = #[v0] := by cases args; simp_all
  obtain ⟨n, rfl, rfl, rfl, hwf⟩ := open_int Tryd.underlying2 (hval 0 2 v0 rfl rfl) h0
  clear hA0
  have hV0 : DataW.TrodVars enc Tryd.prog W (fun _ => true) ["loop.example/pub-g01447/pub/gosyntaxall._Operator_index"] gs q := hV
  obtain ⟨g, t, cs, fuel, d1, p1, rfl, hg, ht, hvar, hd, rfl⟩ := trodVars_one hV0
  obtain rfl : g = 0 := Option.some.inj (hg.symm.trans gTab)
  obtain rfl : t = 31 := Option.some.inj (ht.symm.trans gTabType)
  have hlt := hW'.lt
  have hT := table hL
  have h00 : 0 < W.heap.size := by
    rcases Nat.lt_or_ge 0 W.heap.size with h' | h'
    · exact h'
    · exfalso
      unfold World.var? at hvar
      rw [gTab] at hvar
      simp only [Option.bind_some] at hvar
      rw [Array.getElem?_eq_none h'] at hvar
      cases hvar
  have hTab : Tab W := fun k hk => hT.cell gTab k (by simpa [tab] using hk)
  refine (walk n W h00 hTab).mono fun e W' ⟨he, bel⟩ => ?_
  subst he
  have hv' : W'.var? Tryd.prog "loop.example/pub-g01447/pub/gosyntaxall._Operator_index" = some cs := Go.Joins.var_stays gTab hvar bel (Nat.le_refl _)
  have hd0 : DataW.Trod enc Tryd.prog W 0 (fun _ => true) true 31 (.agg cs) d1 p1 := ⟨fuel, hd⟩
  have hrow : ∀ (W'' : World) (sp : Nat → Bool), (∀ p ∈ ([] ++ [] : List MemPlace) ++ (MemPlace.row ⟨0, 0, none⟩ cs.size ++ p1), sp p.block = true) → DataW.Trod enc Tryd.prog W' 0 sp true 31 (.agg cs) d1 p1 := fun _ sp hsp =>
    WideElems.Trod_stays laidOut (by kernel_rfl) (of_decide_eq_true (by kernel_rfl)) hd0 (fun x hx => bel.same (hlt x (by simp [hx]))) (fun x hx => hsp x (by simp [hx]))
  refine ⟨_, rfl, _, _, _, [], [], MemPlace.row ⟨0, 0, none⟩ cs.size ++ p1, hW', trodAll_mk1 (shut_bool Tryd.underlying4 _), trodAll_cons_mk (shut_int Tryd.underlying2 hwf) trodAll_mk0, ?_, bel.frame _, fun h => by cases h⟩
  obtain ⟨m, hm⟩ := hrow W (fun b => decide (b < W.heap.size)) (fun p hp => by simpa using hlt p (by simpa using hp))
  exact trodVars_mk1 gTab gTabType hv' hm

/-- A world for the witness: the settled one, the four tables holding what their initialisers lay. -/
def lay (cs : Array Value) : Obj → Obj
  | .cells _ t frozen => .cells cs t frozen
  | o => o
def t0 : Array Value := #[.int .u8 0, .int .u8 1, .int .u8 2, .int .u8 4, .int .u8 5, .int .u8 7, .int .u8 9, .int .u8 11, .int .u8 13, .int .u8 14, .int .u8 16, .int .u8 17, .int .u8 19, .int .u8 20, .int .u8 21, .int .u8 22, .int .u8 23, .int .u8 24, .int .u8 25, .int .u8 26, .int .u8 27, .int .u8 29, .int .u8 31, .int .u8 33]
def t1 : Array Value := ((List.range 20).map fun k => Value.int .u64 ((10 ^ k : Nat) : Int)).toArray
def t2 : Array Value := #[.int .u8 0, .int .u8 1, .int .u8 28, .int .u8 2, .int .u8 29, .int .u8 14, .int .u8 24, .int .u8 3, .int .u8 30, .int .u8 22, .int .u8 20, .int .u8 15, .int .u8 25, .int .u8 17, .int .u8 4, .int .u8 8, .int .u8 31, .int .u8 27, .int .u8 13, .int .u8 23, .int .u8 21, .int .u8 19, .int .u8 16, .int .u8 7, .int .u8 26, .int .u8 12, .int .u8 18, .int .u8 6, .int .u8 11, .int .u8 5, .int .u8 10, .int .u8 9]
def t3 : Array Value := #[.int .u8 0, .int .u8 1, .int .u8 56, .int .u8 2, .int .u8 57, .int .u8 49, .int .u8 28, .int .u8 3, .int .u8 61, .int .u8 58, .int .u8 42, .int .u8 50, .int .u8 38, .int .u8 29, .int .u8 17, .int .u8 4, .int .u8 62, .int .u8 47, .int .u8 59, .int .u8 36, .int .u8 45, .int .u8 43, .int .u8 51, .int .u8 22, .int .u8 53, .int .u8 39, .int .u8 33, .int .u8 30, .int .u8 24, .int .u8 18, .int .u8 12, .int .u8 5, .int .u8 63, .int .u8 55, .int .u8 48, .int .u8 27, .int .u8 60, .int .u8 41, .int .u8 37, .int .u8 16, .int .u8 46, .int .u8 35, .int .u8 44, .int .u8 21, .int .u8 52, .int .u8 32, .int .u8 23, .int .u8 11, .int .u8 54, .int .u8 26, .int .u8 40, .int .u8 15, .int .u8 34, .int .u8 20, .int .u8 31, .int .u8 10, .int .u8 25, .int .u8 14, .int .u8 19, .int .u8 9, .int .u8 13, .int .u8 8, .int .u8 7, .int .u8 6]
noncomputable def laidWorld (os : Os) : World :=
  { World.holding Tryd.prog os ⟨#[], #[], []⟩ with heap := ((((World.holding Tryd.prog os ⟨#[], #[], []⟩).heap.modify 0 (lay t0)).modify 1 (lay t1)).modify 2 (lay t2)).modify 3 (lay t3) }
set_option maxRecDepth 100000 in
theorem laid_met (os : Os) : laidMet Tryd.prog Rows.fnOperatorTextRow.laid ((laidWorld os).forCall (fun _ _ => 0) ⟨#[], #[.int .i64 0], []⟩).memory :=
  laidMet_of_run' 8 (by kernel_rfl) (by kernel_rfl)
set_option maxRecDepth 100000 in
theorem reads (os : Os) {H : Type} (enc : TypeId × Value → H) : DataW.whole enc Tryd.prog ((laidWorld os).forCall (fun _ _ => 0) ⟨#[], #[.int .i64 0], []⟩).memory Tryd.f3.params.toList Rows.fnOperatorTextSpec.vars false #[Value.int .i64 0].toList 8 = some ([.lit (.int .i64 0)], [.agg (tab.map fun z => .lit (.int .u8 z))], MemPlace.row ⟨0, 0, none⟩ 24) :=
  by kernel_rfl

set_option maxRecDepth 100000 in
theorem lifted (os : Os) (started : os.Started) (H : Type) (enc : TypeId × Value → H) (F : Stop.Interp) :
    ReturnsInHanded {} Tryd.checked os 3 .any ((OpenSpec.ofChange Rows.fnOperatorTextSpec).preRow enc Tryd.prog Tryd.f3 Rows.fnOperatorTextRow.domain false Rows.fnOperatorTextRow.laid) (((OpenSpec.ofChange Rows.fnOperatorTextSpec).at F).post enc Tryd.prog Tryd.f3 false true false false) := by
  refine returnsInHanded_of_row (C := Tryd.checked) (s := OpenSpec.ofChange Rows.fnOperatorTextSpec) own started (by kernel_rfl) Tryd.func3
    (witness_row_at (enc := enc) (C := Tryd.checked) false (laidWorld os) #[.int .i64 0] rfl (by kernel_rfl) (by kernel_rfl) (by kernel_rfl)
      (OpenSpec.preRow_of_cond 8 (reads os enc) (by kernel_rfl) (fun k hk => by cases hk) (by kernel_rfl) (laid_met os))) ?_
  intro W base args ds gs before hval hW _ _ _ hL _ _
  exact contract H enc W base args ds gs before hval hW hL

theorem said : Rows.FnOperatorTextSaid :=
  OpenClaim.holds_of_cond 3 Tryd.f3 rfl rfl rfl rfl rfl rfl rfl ⟨rfl, rfl, rfl, rfl, rfl⟩ rfl rfl rfl rfl rfl (by kernel_rfl) Tryd.func3 (by kernel_rfl)
    (of_decide_eq_true (by kernel_rfl)) (by unfold Func.isWrapper; first | (rw [if_pos (by decide +kernel)]; kernel_rfl) | (rw [if_neg (by decide +kernel)]; exact ⟨rfl, rfl⟩))
    (fun os started H enc _ F => by rw [OpenClaim.pre_eq_preRow]; exact lifted os started H enc F)

/-- No parameter wants a stand-in; the program's own looks are off: what the card asks. -/
theorem plain (f : FuncId) (fn : Func) (hf : Tryd.pinned.checked.prog.funcNamed "loop.example/pub-g01447/laws.FnOperatorText" = some f) (hfn : Tryd.pinned.checked.prog.funcs[f]? = some fn) :
    false = Tryd.pinned.checked.prog.looks [] ∧ ∀ (j : Nat) t, fn.params[j]? = some t → Tryd.pinned.checked.prog.wantsStandIn t = false := by
  obtain rfl : f = 3 := Option.some.inj ((show Tryd.prog.funcNamed "loop.example/pub-g01447/laws.FnOperatorText" = some 3 by kernel_rfl).symm.trans hf) |>.symm
  obtain rfl : fn = Tryd.f3 := (Option.some.inj (Tryd.func3.symm.trans hfn)).symm
  refine ⟨by kernel_rfl, fun j t ht => ?_⟩
  rw [Tryd.params3] at ht
  obtain rfl : t = 2 := by simpa using Array.mem_of_getElem? ht
  exact (show Tryd.prog.wantsStandIn 2 = false by kernel_rfl)

theorem proved : Rows.FnOperatorTextCardSaid :=
  Claim7.holds_tied_plain_at .later [] _ _ _ _ said (fun _ h => by cases h) (by kernel_rfl) (fun _ h => by cases h) fnOperatorText_row_tie rfl ⟨rfl, rfl⟩ (by kernel_rfl) rfl plain (by kernel_rfl)
#print axioms proved
end Go.Proofs.YtlmllpgebakhhaaDoor.fnOperatorText
