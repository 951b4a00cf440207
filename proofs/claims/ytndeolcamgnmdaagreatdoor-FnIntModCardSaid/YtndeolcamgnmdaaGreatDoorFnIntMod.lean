/-
  The statement Rows.FnIntModCardSaid: laws.FnIntMod returns true for every input, and each argument reads behind the call as it read before; the listed tables of Go's library are tied to the program's text.
  No condition beyond the given card's own. (The frame was written by a program of this workplace, after the kit's worked texts; the walk is int_mod of YtndeolcamgnmdaaGreatDoorIntModLaw.)
-/
import Derived.Test.YtndeolcamgnmdaaGreatDoorIntModLaw
import Derived.Test.YtndeolcamgnmdaaGreatDoorCards
import Derived.Test.YtndeolcamgnmdaaGreatDoorTie
import Derived.ProofKit
import Derived.OpenShut
import Derived.ShutString
import Derived.ChangeOld
import Derived.Below
import Derived.Lib.LaidIn
import Derived.Lib.LaidU8
import Derived.Lib.LaidSlice
import Derived.PinnedBridge
import Derived.OpenVars
import Derived.Deep.DeepHandedRow
import Derived.Deep.DeepWitnessRowRef
set_option linter.unusedVariables false
set_option linter.unusedSimpArgs false
set_option linter.unnecessarySimpa false
namespace Go.Proofs.YtndeolcamgnmdaaGreatDoor.fnIntMod
open Go.ChangeShapes Go.WideShapes Go.ChangeAt Go.RowKit Go.Lib
open Go.ChangeMaps (open_string shut_string)
set_option linter.unusedVariables false

theorem trodVars_all {H : Type} {enc : TypeId × Value → H} {P : Program} {w : World} {spare : Nat → Bool} {n0 n1 n2 n3 : String} {gs : List (DataW H)} {ps : List MemPlace} (h : DataW.TrodVars enc P w spare [n0, n1, n2, n3] gs ps) : ∃ g0 g1 g2 g3, gs = [g0, g1, g2, g3] := by
  rcases gs with _ | ⟨g0, gs⟩
  · exact h.elim
  obtain ⟨_, _, _, _, _, _, _, _, _, _, h, _⟩ := h
  rcases gs with _ | ⟨g1, gs⟩
  · exact h.elim
  obtain ⟨_, _, _, _, _, _, _, _, _, _, h, _⟩ := h
  rcases gs with _ | ⟨g2, gs⟩
  · exact h.elim
  obtain ⟨_, _, _, _, _, _, _, _, _, _, h, _⟩ := h
  rcases gs with _ | ⟨g3, gs⟩
  · exact h.elim
  obtain ⟨_, _, _, _, _, _, _, _, _, _, h, _⟩ := h
  rcases gs with _ | ⟨x, gs⟩
  · exact ⟨g0, g1, g2, g3, rfl⟩
  · exact h.elim
theorem own : ownKnob Tryz.prog.godebug = none := by kernel_rfl
theorem laidOut : laidOutB Tryz.prog = true := by kernel_rfl

noncomputable def laidWorld (os : Os) : World :=
  let w0 := World.holding Tryz.prog os ⟨#[], #[], []⟩
  let put (h : Array Obj) (g : Nat) (cs : Array Value) : Array Obj := h.modify g fun
    | .cells _ t frozen => .cells cs t frozen
    | o => o
  let h1 := put w0.heap 0 #[.int .i64 40]
  let h2 := put h1 1 #[.int .i64 40]
  let h3 := put h2 2 #[.int .i64 12]
  let h4 := put h3 3 #[.int .i64 80]
  { w0 with heap := h4 }
theorem laid_met (os : Os) (args : Array Value) : laidMet Tryz.prog Rows.fnIntModRow.laid ((laidWorld os).forCall (fun _ _ => 0) ⟨#[], args, []⟩).memory :=
  (LaidIn.of_run (l := Rows.fnIntModRow.laid) [0, 1, 2, 3] 8 (by kernel_rfl) (by kernel_rfl) (by kernel_rfl) (by kernel_rfl)).met
theorem witness_row (os : Os) {H : Type} (enc : TypeId × Value → H) :
    (OpenSpec.ofChange Rows.fnIntModSpec).preRow enc Tryz.prog Tryz.f3 Rows.fnIntModRow.domain false Rows.fnIntModRow.laid ((laidWorld os).forCall (fun _ _ => 0) ⟨#[], #[.bool false, .slice none 0 0, .bool false, .slice none 0 0], []⟩).memory #[.bool false, .slice none 0 0, .bool false, .slice none 0 0] := by
  have hw : (DataW.whole enc Tryz.prog ((laidWorld os).forCall (fun _ _ => 0) ⟨#[], #[.bool false, .slice none 0 0, .bool false, .slice none 0 0], []⟩).memory Tryz.f3.params.toList Rows.fnIntModSpec.vars false (#[.bool false, .slice none 0 0, .bool false, .slice none 0 0] : Array Value).toList 8).map (fun x => (x.1, x.2.1)) =
      some ([.lit (.bool false), .nil, .lit (.bool false), .nil], [.lit (.int .i64 40), .lit (.int .i64 40), .lit (.int .i64 12), .lit (.int .i64 80)]) := by kernel_rfl
  obtain ⟨⟨x1, x2, x3⟩, hx, hx1⟩ := Option.map_eq_some_iff.1 hw
  simp only [Prod.mk.injEq] at hx1
  obtain ⟨rfl, rfl⟩ := hx1
  exact OpenSpec.preRow_of_cond 8 hx (by kernel_rfl) (fun k hk => by cases hk) (by kernel_rfl) (laid_met os _)

set_option maxRecDepth 100000 in
theorem lifted (os : Os) (started : os.Started) (H : Type) (enc : TypeId × Value → H) (F : Stop.Interp) :
    ReturnsInHanded {} Tryz.checked os 3 .any ((OpenSpec.ofChange Rows.fnIntModSpec).preRow enc Tryz.prog Tryz.f3 Rows.fnIntModRow.domain false Rows.fnIntModRow.laid) (((OpenSpec.ofChange Rows.fnIntModSpec).at F).post enc Tryz.prog Tryz.f3 false true false false) := by
  refine returnsInHanded_of_row (C := Tryz.checked) (s := OpenSpec.ofChange Rows.fnIntModSpec) own started (by kernel_rfl) Tryz.func3
    (witness_row_atRef (enc := enc) (C := Tryz.checked) false (laidWorld os) #[.bool false, .slice none 0 0, .bool false, .slice none 0 0] rfl (by kernel_rfl) (by kernel_rfl) (by kernel_rfl) (witness_row os enc)) ?_
  intro W base args ds gs before hval0 hW _ _ _ hL _ _
  have hval : ∀ (j : Nat) t v, Tryz.f3.params[j]? = some t → args[j]? = some v → Value.okWide Tryz.prog W .any base t v := hval0
  have hW' := hW
  obtain ⟨p, q, hA0, hV, rfl, hfz, hnd⟩ := hW
  have hA : DataW.TrodAll enc Tryz.prog W 0 (fun _ => true) true Tryz.f3.params.toList args.toList ds p := hA0
  rw [Tryz.params3] at hA hval
  obtain ⟨v0, vs0, d0, ds0, p0, q0, hargs, rfl, rfl, h0, r0⟩ := trodAll_cons hA
  obtain ⟨v1, vs1, d1, ds1, p1, q1, rfl, rfl, rfl, h1, r1⟩ := trodAll_cons r0
  obtain ⟨v2, vs2, d2, ds2, p2, q2, rfl, rfl, rfl, h2, r2⟩ := trodAll_cons r1
  obtain ⟨v3, vs3, d3, ds3, p3, q3, rfl, rfl, rfl, h3, r3⟩ := trodAll_cons r2
  obtain ⟨rfl, rfl, rfl⟩ := trodAll_nil r3
  obtain rfl : args = #[v0, v1, v2, v3] := by cases args; simp_all
  obtain ⟨gv0, gv1, gv2, gv3, rfl⟩ := trodVars_all hV
  obtain ⟨a0, rfl, rfl, rfl⟩ := open_bool Tryz.underlying4 (hval 0 4 v0 rfl rfl) h0
  obtain ⟨a1, len1, cap1, rfl⟩ := okWide_slice Tryz.underlying22 (hval 1 22 v1 rfl rfl)
  have k1 := h1
  have lt1 : ∀ x ∈ p1, x.block < W.heap.size := by obtain ⟨m, hm⟩ := k1; exact DataW.trod_lt m _ _ _ hm
  obtain ⟨z1, w1⟩ : ∃ zs, IsRow .u8 W a1 len1 cap1 zs := by
    obtain ⟨fuel, hf⟩ := h1
    rcases open_ints Tryz.underlying22 Tryz.underlying5 (by kernel_rfl) hf with ⟨hcs, _⟩ | ⟨x, l, c, zs, hcs, _, hl, hm, hz, _, hcell, hwz⟩
    · simp [Value.cells] at hcs
      obtain ⟨rfl, rfl, rfl⟩ := hcs
      exact ⟨[], .inl ⟨rfl, rfl, rfl, rfl⟩⟩
    · simp [Value.cells] at hcs
      obtain ⟨rfl, rfl, rfl⟩ := hcs
      exact ⟨zs, .inr ⟨_, rfl, hl, hm, by simpa using hz, hcell, hwz⟩⟩
  obtain ⟨a2, rfl, rfl, rfl⟩ := open_bool Tryz.underlying4 (hval 2 4 v2 rfl rfl) h2
  obtain ⟨a3, len3, cap3, rfl⟩ := okWide_slice Tryz.underlying22 (hval 3 22 v3 rfl rfl)
  have k3 := h3
  have lt3 : ∀ x ∈ p3, x.block < W.heap.size := by obtain ⟨m, hm⟩ := k3; exact DataW.trod_lt m _ _ _ hm
  obtain ⟨z3, w3⟩ : ∃ zs, IsRow .u8 W a3 len3 cap3 zs := by
    obtain ⟨fuel, hf⟩ := h3
    rcases open_ints Tryz.underlying22 Tryz.underlying5 (by kernel_rfl) hf with ⟨hcs, _⟩ | ⟨x, l, c, zs, hcs, _, hl, hm, hz, _, hcell, hwz⟩
    · simp [Value.cells] at hcs
      obtain ⟨rfl, rfl, rfl⟩ := hcs
      exact ⟨[], .inl ⟨rfl, rfl, rfl, rfl⟩⟩
    · simp [Value.cells] at hcs
      obtain ⟨rfl, rfl, rfl⟩ := hcs
      exact ⟨zs, .inr ⟨_, rfl, hl, hm, by simpa using hz, hcell, hwz⟩⟩
  have r1 : Lib.VarReads Tryz.prog W "given.example/pub-larkspur/pub/bigall.divRecursiveThreshold" (.lit (.int .i64 40)) := by
    have h : Lib.VarReads Tryz.prog W "given.example/pub-larkspur/pub/bigall.divRecursiveThreshold" Rows.laid_given_example_pub_larkspur_pub_bigall_divRecursiveThreshold := Lib.laidMet.reads hL (.head _)
    exact h
  have htab := thr_of_reads r1
  clear hA0 hval0
  refine (int_mod a0 a1 len1 cap1 z1 a2 a3 len3 cap3 z3 W w1 w3 htab).mono fun e W' ⟨he, bel⟩ => ?_
  subst he
  exact ⟨_, rfl, _, _, _, [], _, q, hW', trodAll_mk1 (shut_bool Tryz.underlying4 _), (trodAll_cons_mk (shut_bool Tryz.underlying4 _) (trodAll_cons_mk (Below.trod laidOut (by kernel_rfl) (of_decide_eq_true (by kernel_rfl)) k1 bel lt1) (trodAll_cons_mk (shut_bool Tryz.underlying4 _) (trodAll_cons_mk (Below.trod laidOut (by kernel_rfl) (of_decide_eq_true (by kernel_rfl)) k3 bel lt3) trodAll_mk0)))), bel.trodVars laidOut (by kernel_rfl) hV, bel.frame _, fun h => by cases h⟩

theorem said : Rows.FnIntModSaid :=
  OpenClaim.holds_of_cond 3 Tryz.f3 rfl rfl rfl rfl rfl rfl rfl ⟨rfl, rfl, rfl, rfl, rfl⟩ rfl rfl rfl rfl rfl (by kernel_rfl) Tryz.func3 (by kernel_rfl)
    (of_decide_eq_true (by kernel_rfl)) (by unfold Func.isWrapper; first | (rw [if_pos (by decide +kernel)]; kernel_rfl) | (rw [if_neg (by decide +kernel)]; exact ⟨rfl, rfl⟩))
    (fun os started H enc _ F => by rw [OpenClaim.pre_eq_preRow]; exact lifted os started H enc F)

/-- No parameter wants a stand-in; the program's own looks are as the card says. -/
theorem plain (f : FuncId) (fn : Func) (hf : Tryz.pinned.checked.prog.funcNamed "given.example/pub-larkspur/laws.FnIntMod" = some f) (hfn : Tryz.pinned.checked.prog.funcs[f]? = some fn) :
    Rows.fnIntModCard.stood.looks = Tryz.pinned.checked.prog.looks [] ∧ ∀ (j : Nat) t, fn.params[j]? = some t → Tryz.pinned.checked.prog.wantsStandIn t = false := by
  obtain rfl : f = 3 := Option.some.inj ((show Tryz.prog.funcNamed "given.example/pub-larkspur/laws.FnIntMod" = some 3 by kernel_rfl).symm.trans hf) |>.symm
  obtain rfl : fn = Tryz.f3 := (Option.some.inj (Tryz.func3.symm.trans hfn)).symm
  refine ⟨by kernel_rfl, fun j t ht => ?_⟩
  rw [Tryz.params3] at ht
  have hm : t ∈ [4, 22, 4, 22] := by simpa using Array.mem_of_getElem? ht
  have hall : ([4, 22, 4, 22].all fun u => !Tryz.prog.wantsStandIn u) = true := by kernel_rfl
  exact (show Tryz.prog.wantsStandIn t = false by simpa using List.all_eq_true.1 hall t hm)

/-- The statement. -/
theorem proved : Rows.FnIntModCardSaid :=
  Claim7.holds_tied_plain_at .later [] _ _ _ _ said (fun _ h => by cases h) (by kernel_rfl) (fun _ h => by cases h) fnIntMod_row_tie rfl ⟨rfl, rfl⟩ (by kernel_rfl) rfl plain (by kernel_rfl)
#print axioms proved
end Go.Proofs.YtndeolcamgnmdaaGreatDoor.fnIntMod
