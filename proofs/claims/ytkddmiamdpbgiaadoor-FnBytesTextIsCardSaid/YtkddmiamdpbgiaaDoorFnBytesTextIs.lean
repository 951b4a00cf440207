/-
  The statement Rows.FnBytesTextIsCardSaid: laws.FnBytesTextIs returns true for every input, and each argument reads behind the call as it read before; the listed tables of Go's library are tied to the program's text.
  No condition beyond the given card's own. (The frame was written by a program of this workplace, after the kit's worked texts; the walk is bytes_text_is of YtkddmiamdpbgiaaDoorQuotedLaw.)
-/
import Derived.Test.YtkddmiamdpbgiaaDoorQuotedLaw
import Derived.Test.YtkddmiamdpbgiaaDoorCards
import Derived.Test.YtkddmiamdpbgiaaDoorTie
import Derived.ProofKit
import Derived.OpenShut
import Derived.ShutString
import Derived.ChangeOld
import Derived.Below
import Derived.Lib.LaidIn
import Derived.Lib.LaidU8
import Derived.Lib.LaidSlice
import Derived.PinnedBridge
import Derived.Deep.DeepHandedRow
import Derived.Deep.DeepWitnessRowRef
namespace Go.Proofs.YtkddmiamdpbgiaaDoor.fnBytesTextIs
open Go.ChangeShapes Go.WideShapes Go.ChangeAt Go.RowKit Go.Lib
open Go.ChangeMaps (open_string shut_string)
set_option linter.unusedVariables false

theorem own : ownKnob Tryd.prog.godebug = none := by kernel_rfl
theorem laidOut : laidOutB Tryd.prog = true := by kernel_rfl

noncomputable def laidWorld (os : Os) : World :=
  let w0 := World.holding Tryd.prog os ⟨#[.cells (intCellsOf .u16 Lib.goPrintTabs.n16) 50, .cells (intCellsOf .u16 Lib.goPrintTabs.n32) 50, .cells (intCellsOf .u16 Lib.goPrintTabs.p16) 50, .cells (intCellsOf .u32 Lib.goPrintTabs.p32) 54], #[], []⟩
  let put (h : Array Obj) (g : Nat) (cs : Array Value) : Array Obj := h.modify g fun
    | .cells _ t frozen => .cells cs t frozen
    | o => o
  let h1 := put w0.heap 5 ((List.range 16).flatMap fun i => [Value.int .u8 (Lib.accLo i), Value.int .u8 (Lib.accHi i)]).toArray
  let h2 := put h1 1 #[.slice (some ⟨(World.settled Tryd.prog os).heap.size + 0, 0, none⟩) Lib.goPrintTabs.n16.length Lib.goPrintTabs.n16.length]
  let h3 := put h2 3 #[.slice (some ⟨(World.settled Tryd.prog os).heap.size + 1, 0, none⟩) Lib.goPrintTabs.n32.length Lib.goPrintTabs.n32.length]
  let h4 := put h3 0 #[.slice (some ⟨(World.settled Tryd.prog os).heap.size + 2, 0, none⟩) Lib.goPrintTabs.p16.length Lib.goPrintTabs.p16.length]
  let h5 := put h4 2 #[.slice (some ⟨(World.settled Tryd.prog os).heap.size + 3, 0, none⟩) Lib.goPrintTabs.p32.length Lib.goPrintTabs.p32.length]
  let h6 := put h5 4 (Lib.firstTab.map fun z => Value.int .u8 z).toArray
  { w0 with heap := h6 }
noncomputable def N0 : Nat := (World.settled Tryd.prog default).heap.size
theorem piece0 (os : Os) (args : Array Value) : LaidIn Tryd.prog ((laidWorld os).forCall (fun _ _ => 0) ⟨#[], args, []⟩).memory [("unicode/utf8.acceptRanges", Lib.acceptData)] [5] :=
  LaidIn.of_run [5] 8 (by kernel_rfl) (by kernel_rfl) (by kernel_rfl) (by kernel_rfl)
set_option maxRecDepth 1000000 in
theorem piece1 (os : Os) (args : Array Value) : LaidIn Tryd.prog ((laidWorld os).forCall (fun _ _ => 0) ⟨#[], args, []⟩).memory [("strconv.isNotPrint16", Lib.sliceData .u16 Lib.goPrintTabs.n16)] [1, N0 + 0] :=
  laidIn_slice (t := 51) (e := 50) (te := 50) Lib.goPrintTabs.n16 (N0 + 0) (by kernel_rfl) (by kernel_rfl) (by kernel_rfl) (by kernel_rfl) (by kernel_rfl) (by kernel_rfl) (by kernel_rfl) (by kernel_rfl) (of_decide_eq_true (by kernel_rfl)) (of_decide_eq_true (by kernel_rfl))
set_option maxRecDepth 1000000 in
theorem piece2 (os : Os) (args : Array Value) : LaidIn Tryd.prog ((laidWorld os).forCall (fun _ _ => 0) ⟨#[], args, []⟩).memory [("strconv.isNotPrint32", Lib.sliceData .u16 Lib.goPrintTabs.n32)] [3, N0 + 1] :=
  laidIn_slice (t := 51) (e := 50) (te := 50) Lib.goPrintTabs.n32 (N0 + 1) (by kernel_rfl) (by kernel_rfl) (by kernel_rfl) (by kernel_rfl) (by kernel_rfl) (by kernel_rfl) (by kernel_rfl) (by kernel_rfl) (of_decide_eq_true (by kernel_rfl)) (of_decide_eq_true (by kernel_rfl))
set_option maxRecDepth 1000000 in
theorem piece3 (os : Os) (args : Array Value) : LaidIn Tryd.prog ((laidWorld os).forCall (fun _ _ => 0) ⟨#[], args, []⟩).memory [("strconv.isPrint16", Lib.sliceData .u16 Lib.goPrintTabs.p16)] [0, N0 + 2] :=
  laidIn_slice (t := 51) (e := 50) (te := 50) Lib.goPrintTabs.p16 (N0 + 2) (by kernel_rfl) (by kernel_rfl) (by kernel_rfl) (by kernel_rfl) (by kernel_rfl) (by kernel_rfl) (by kernel_rfl) (by kernel_rfl) (of_decide_eq_true (by kernel_rfl)) (of_decide_eq_true (by kernel_rfl))
set_option maxRecDepth 1000000 in
theorem piece4 (os : Os) (args : Array Value) : LaidIn Tryd.prog ((laidWorld os).forCall (fun _ _ => 0) ⟨#[], args, []⟩).memory [("strconv.isPrint32", Lib.sliceData .u32 Lib.goPrintTabs.p32)] [2, N0 + 3] :=
  laidIn_slice (t := 55) (e := 54) (te := 54) Lib.goPrintTabs.p32 (N0 + 3) (by kernel_rfl) (by kernel_rfl) (by kernel_rfl) (by kernel_rfl) (by kernel_rfl) (by kernel_rfl) (by kernel_rfl) (by kernel_rfl) (of_decide_eq_true (by kernel_rfl)) (of_decide_eq_true (by kernel_rfl))
theorem piece5 (os : Os) (args : Array Value) : LaidIn Tryd.prog ((laidWorld os).forCall (fun _ _ => 0) ⟨#[], args, []⟩).memory [("unicode/utf8.first", Lib.firstData)] [4] :=
  LaidIn.of_run [4] 8 (by kernel_rfl) (by kernel_rfl) (by kernel_rfl) (by kernel_rfl)
theorem laid_eq : Rows.fnBytesTextIsRow.laid = [("unicode/utf8.acceptRanges", Lib.acceptData), ("strconv.isNotPrint16", Lib.sliceData .u16 Lib.goPrintTabs.n16), ("strconv.isNotPrint32", Lib.sliceData .u16 Lib.goPrintTabs.n32), ("strconv.isPrint16", Lib.sliceData .u16 Lib.goPrintTabs.p16), ("strconv.isPrint32", Lib.sliceData .u32 Lib.goPrintTabs.p32), ("unicode/utf8.first", Lib.firstData)] := by kernel_rfl
theorem laid_met (os : Os) (args : Array Value) : laidMet Tryd.prog Rows.fnBytesTextIsRow.laid ((laidWorld os).forCall (fun _ _ => 0) ⟨#[], args, []⟩).memory := by
  rw [laid_eq]
  exact (((((((piece0 os args).append (piece1 os args) (by kernel_rfl)).append (piece2 os args) (by kernel_rfl)).append (piece3 os args) (by kernel_rfl)).append (piece4 os args) (by kernel_rfl)).append (piece5 os args) (by kernel_rfl))).met
theorem witness_row (os : Os) {H : Type} (enc : TypeId × Value → H) :
    (OpenSpec.ofChange Rows.fnBytesTextIsSpec).preRow enc Tryd.prog Tryd.f5 Rows.fnBytesTextIsRow.domain false Rows.fnBytesTextIsRow.laid ((laidWorld os).forCall (fun _ _ => 0) ⟨#[], #[.string ByteArray.empty], []⟩).memory #[.string ByteArray.empty] := by
  have hw : (DataW.whole enc Tryd.prog ((laidWorld os).forCall (fun _ _ => 0) ⟨#[], #[.string ByteArray.empty], []⟩).memory Tryd.f5.params.toList Rows.fnBytesTextIsSpec.vars false (#[.string ByteArray.empty] : Array Value).toList 8).map (fun x => (x.1, x.2.1)) =
      some ([.lit (.string [])], []) := by kernel_rfl
  obtain ⟨⟨x1, x2, x3⟩, hx, hx1⟩ := Option.map_eq_some_iff.1 hw
  simp only [Prod.mk.injEq] at hx1
  obtain ⟨rfl, rfl⟩ := hx1
  exact OpenSpec.preRow_of_cond 8 hx (by kernel_rfl) (fun k hk => by cases hk) (by kernel_rfl) (laid_met os _)

set_option maxRecDepth 100000 in
theorem lifted (os : Os) (started : os.Started) (H : Type) (enc : TypeId × Value → H) (F : Stop.Interp) :
    ReturnsInHanded {} Tryd.checked os 5 .any ((OpenSpec.ofChange Rows.fnBytesTextIsSpec).preRow enc Tryd.prog Tryd.f5 Rows.fnBytesTextIsRow.domain false Rows.fnBytesTextIsRow.laid) (((OpenSpec.ofChange Rows.fnBytesTextIsSpec).at F).post enc Tryd.prog Tryd.f5 false true false false) := by
  refine returnsInHanded_of_row (C := Tryd.checked) (s := OpenSpec.ofChange Rows.fnBytesTextIsSpec) own started (by kernel_rfl) Tryd.func5
    (witness_row_atRef (enc := enc) (C := Tryd.checked) false (laidWorld os) #[.string ByteArray.empty] rfl (by kernel_rfl) (by kernel_rfl) (by kernel_rfl) (witness_row os enc)) ?_
  intro W base args ds gs before hval0 hW _ _ _ hL _ _
  have hval : ∀ (j : Nat) t v, Tryd.f5.params[j]? = some t → args[j]? = some v → Value.okWide Tryd.prog W .any base t v := hval0
  have hW' := hW
  obtain ⟨p, q, hA0, hV, rfl, hfz, hnd⟩ := hW
  have hA : DataW.TrodAll enc Tryd.prog W 0 (fun _ => true) true Tryd.f5.params.toList args.toList ds p := hA0
  rw [Tryd.params5] at hA hval
  obtain ⟨v0, vs0, d0, ds0, p0, q0, hargs, rfl, rfl, h0, r0⟩ := trodAll_cons hA
  obtain ⟨rfl, rfl, rfl⟩ := trodAll_nil r0
  obtain rfl : args = #[v0] := by cases args; simp_all
  obtain ⟨rfl, rfl⟩ := trodVars_none hV
  obtain ⟨a0, rfl, rfl, rfl, w0⟩ := open_string Tryd.underlying9 (hval 0 9 v0 rfl rfl) h0
  have r1 : VarReads Tryd.prog W "unicode/utf8.first" Lib.firstData := by
    have h : VarReads Tryd.prog W "unicode/utf8.first" Rows.laid_unicode_utf8_first := Lib.laidMet.reads hL (.tail _ (.tail _ (.tail _ (.tail _ (.tail _ (.head _))))))
    rwa [show Rows.laid_unicode_utf8_first = Lib.firstData from Pinned.utf8First_eq] at h
  have r2 : VarReads Tryd.prog W "unicode/utf8.acceptRanges" Lib.acceptData := Lib.laidMet.reads hL (.head _)
  have htab := tabs_of_reads r1 r2
  have r_n16 : VarReads Tryd.prog W "strconv.isNotPrint16" (Lib.sliceData .u16 Lib.goPrintTabs.n16) := by
    have h : VarReads Tryd.prog W "strconv.isNotPrint16" Rows.laid_strconv_isNotPrint16 := Lib.laidMet.reads hL (.tail _ (.head _))
    rwa [show Rows.laid_strconv_isNotPrint16 = Lib.sliceData .u16 Lib.goPrintTabs.n16 from Pinned.isNotPrint16_eq] at h
  have r_n32 : VarReads Tryd.prog W "strconv.isNotPrint32" (Lib.sliceData .u16 Lib.goPrintTabs.n32) := by
    have h : VarReads Tryd.prog W "strconv.isNotPrint32" Rows.laid_strconv_isNotPrint32 := Lib.laidMet.reads hL (.tail _ (.tail _ (.head _)))
    rwa [show Rows.laid_strconv_isNotPrint32 = Lib.sliceData .u16 Lib.goPrintTabs.n32 from Pinned.isNotPrint32_eq] at h
  have r_p16 : VarReads Tryd.prog W "strconv.isPrint16" (Lib.sliceData .u16 Lib.goPrintTabs.p16) := by
    have h : VarReads Tryd.prog W "strconv.isPrint16" Rows.laid_strconv_isPrint16 := Lib.laidMet.reads hL (.tail _ (.tail _ (.tail _ (.head _))))
    rwa [show Rows.laid_strconv_isPrint16 = Lib.sliceData .u16 Lib.goPrintTabs.p16 from Pinned.isPrint16_eq] at h
  have r_p32 : VarReads Tryd.prog W "strconv.isPrint32" (Lib.sliceData .u32 Lib.goPrintTabs.p32) := by
    have h : VarReads Tryd.prog W "strconv.isPrint32" Rows.laid_strconv_isPrint32 := Lib.laidMet.reads hL (.tail _ (.tail _ (.tail _ (.tail _ (.head _)))))
    rwa [show Rows.laid_strconv_isPrint32 = Lib.sliceData .u32 Lib.goPrintTabs.p32 from Pinned.isPrint32_eq] at h
  have hprint := prints_of_reads r_p16 r_n16 r_p32 r_n32
  clear hA0 hval0
  refine (bytes_text_is a0 W w0 htab hprint).mono fun e W' ⟨he, bel⟩ => ?_
  subst he
  exact ⟨_, rfl, _, _, _, [], _, [], hW', trodAll_mk1 (shut_bool Tryd.underlying4 _), (trodAll_cons_mk (shut_string Tryd.underlying9 w0) trodAll_mk0), rfl, bel.frame _, fun h => by cases h⟩

theorem said : Rows.FnBytesTextIsSaid :=
  OpenClaim.holds_of_cond 5 Tryd.f5 rfl rfl rfl rfl rfl rfl rfl ⟨rfl, rfl, rfl, rfl, rfl⟩ rfl rfl rfl rfl rfl (by kernel_rfl) Tryd.func5 (by kernel_rfl)
    (of_decide_eq_true (by kernel_rfl)) (by unfold Func.isWrapper; first | (rw [if_pos (by decide +kernel)]; kernel_rfl) | (rw [if_neg (by decide +kernel)]; exact ⟨rfl, rfl⟩))
    (fun os started H enc _ F => by rw [OpenClaim.pre_eq_preRow]; exact lifted os started H enc F)

/-- No parameter wants a stand-in; the program's own looks are as the card says. -/
theorem plain (f : FuncId) (fn : Func) (hf : Tryd.pinned.checked.prog.funcNamed "given.example/pub-larkspur/laws.FnBytesTextIs" = some f) (hfn : Tryd.pinned.checked.prog.funcs[f]? = some fn) :
    Rows.fnBytesTextIsCard.stood.looks = Tryd.pinned.checked.prog.looks [] ∧ ∀ (j : Nat) t, fn.params[j]? = some t → Tryd.pinned.checked.prog.wantsStandIn t = false := by
  obtain rfl : f = 5 := Option.some.inj ((show Tryd.prog.funcNamed "given.example/pub-larkspur/laws.FnBytesTextIs" = some 5 by kernel_rfl).symm.trans hf) |>.symm
  obtain rfl : fn = Tryd.f5 := (Option.some.inj (Tryd.func5.symm.trans hfn)).symm
  refine ⟨by kernel_rfl, fun j t ht => ?_⟩
  rw [Tryd.params5] at ht
  have hm : t ∈ [9] := by simpa using Array.mem_of_getElem? ht
  have hall : ([9].all fun u => !Tryd.prog.wantsStandIn u) = true := by kernel_rfl
  exact (show Tryd.prog.wantsStandIn t = false by simpa using List.all_eq_true.1 hall t hm)

/-- The statement. -/
theorem proved : Rows.FnBytesTextIsCardSaid :=
  Claim7.holds_tied_plain_at .later [] _ _ _ _ said (fun _ h => by cases h) (by kernel_rfl) (fun _ h => by cases h) fnBytesTextIs_row_tie rfl ⟨rfl, rfl⟩ (by kernel_rfl) rfl plain (by kernel_rfl)
#print axioms proved
end Go.Proofs.YtkddmiamdpbgiaaDoor.fnBytesTextIs
