/- A word taken from words, written at any place of a row. (Written by tools/subr_gen.py.) -/
import Derived.Test.YtndeolcamgnmdaaGreatDoorDivLp
import Derived.Test.YtndeolcamgnmdaaGreatDoorSubVW
set_option linter.unusedVariables false
set_option linter.unusedSimpArgs false
set_option linter.unnecessarySimpa false
namespace Go.Proofs.YtndeolcamgnmdaaGreatDoor
open Go.RowKit
theorem ptr_ne_r {W : World} {g gx o ox c cx : Nat} (h : RowB W g c) (hx : RowB W gx cx) (hne : gx ≠ g) :
    (binOp .neq 109 (.pointer (some ⟨g, o, none⟩)) (.pointer (some ⟨gx, ox, none⟩))).run Tryz.prog W = .ok (.bool true) W := by
  obtain ⟨j, hj, hj2⟩ := Option.map_eq_some_iff.1 (show (Tryz.prog.info? 83).map (·.size) = some 1 by kernel_rfl)
  obtain ⟨c1, hh, _⟩ := h
  obtain ⟨c2, hx, _⟩ := hx
  exact run_neq_ptr_other (P := Tryz.prog) W (tp := 109) (te := 83) (a := ⟨g, o, none⟩) (b := ⟨gx, ox, none⟩) Tryz.underlying109 hj (by rw [hj2]; decide) (by intro e; injection e with e1; exact hne e1.symm) hh hx
/-- What a copy of words to a place leaves. -/
theorem run_copy_wa (w : World) (dp sp : Option Addr) (n dCap sCap ty : Nat) (g c off gx ox : Nat) (cs : List Nat) (hr : RowB w g c) (hcl : cs.length = n) (hdp : 0 < n → dp = some ⟨g, off, none⟩) (hsp : 0 < n → sp = some ⟨gx, ox, none⟩) (hsrc : WA w gx ox cs) (hfit : off + n ≤ c) :
    ∃ w', (Builtin.copy_ #[57, 57] ty #[.slice dp n dCap, .slice sp n sCap]).run Tryz.prog w = .ok (goInt n) w' ∧ WA w' g off cs ∧ Wr g off n w w' := by
  have hsz : (Tryz.prog.info? 83).map (·.size) = some 1 := by kernel_rfl
  subst hcl
  by_cases h0 : cs.length = 0
  · have hrun := run_copy_none (P := Tryz.prog) w 57 57 ty 83 dp sp cs.length dCap cs.length sCap Tryz.underlying57 hsz (by simpa using h0)
    have hn : cs = [] := List.eq_nil_of_length_eq_zero h0
    subst hn
    exact ⟨w, hrun, WA.nil _ _ _, Wr.refl _ _ _ _⟩
  · obtain rfl := hdp (by omega)
    obtain rfl := hsp (by omega)
    obtain ⟨cur, hg, hcs⟩ := hr
    have hwl : (wcells cs).length = cs.length := wcells_len cs
    have hfit2 : off + (wcells cs).length ≤ cur.size := by rw [hwl, hcs]; exact hfit
    have hrun := run_copy_row (P := Tryz.prog) w 57 57 ty 83 g off cs.length dCap ⟨gx, ox, none⟩ cs.length sCap cur 83 (wcells cs) Tryz.underlying57 hsz hg (by rw [hwl]; exact (Nat.min_self _).symm) (fun j v hj => by
      have hj2 : j < cs.length := by
        have := (List.getElem?_eq_some_iff.1 hj).1
        simpa using this
      have e : v = .int .u64 ((cs[j]'hj2 : Nat) : Int) := by
        have := (List.getElem?_eq_some_iff.1 hj).2
        rw [← this]; simp [wcells]
      rw [e, Addr.add_lit]
      exact hsrc j hj2) hfit2 (wcells_one cs)
    obtain ⟨r1, r2, r3⟩ := row_splice cur off (wcells cs) hfit2
    rw [hwl] at hrun r1 r2 r3
    rw [List.append_assoc] at hrun
    refine ⟨_, hrun, fun j hj => ?_, ⟨rfl, rfl, rfl, by simp, fun b _ hne => setRow_other w g b _ hne, fun cur' t z hc => ?_⟩⟩
    · rw [cell_setRow_same w g (off + j) cur _ _ _ hg, r2 j hj]
      simp [wcells, hj]
    · rw [hg] at hc
      simp only [Option.some.injEq, Obj.cells.injEq] at hc
      obtain ⟨rfl, rfl, rfl⟩ := hc
      exact ⟨_, setRow_heap w g _ _ _ _ hg, r1, r3⟩
theorem step_copy_r {ops : Array Oper} {o : Oper} {a : Act} {w : World} {K : Act → World → Prop} {Q : Exit → Act → World → Prop} {E : Prop} (hgd : o.guard = none) (d s : Operand)
    (ho : o.op = .call { callee := .builtin .copy, args := #[d, s], argTypes := #[57, 57] }) (dp sp : Option Addr) (n dCap sCap : Nat) (hd : a.eval d = .slice dp n dCap) (hs : a.eval s = .slice sp n sCap)
    (g c off gx ox : Nat) (cs : List Nat) (hr : RowB w g c) (hcl : cs.length = n) (hdp : 0 < n → dp = some ⟨g, off, none⟩) (hsp : 0 < n → sp = some ⟨gx, ox, none⟩) (hsrc : WA w gx ox cs) (hfit : off + n ≤ c)
    (h : ∀ w', WA w' g off cs → Wr g off n w w' → K (a.put o.dst (goInt n)) w') :
    if Region.wanted o (yielded ops a.tmps) = true then Oper.wp Tryz.prog o a w K Q else E := by
  have hw : Region.wanted o (yielded ops a.tmps) = true := by simp [Region.wanted, hgd]
  rw [if_pos hw]
  obtain ⟨w', hrun, h1, h2⟩ := run_copy_wa w dp sp n dCap sCap o.type g c off gx ox cs hr hcl hdp hsp hsrc hfit
  unfold Oper.wp
  simp [execOp, ho, resolve, invoke, builtin, hd, hs, hrun, Result.andThen]
  exact h _ h1 h2
theorem wpList_copy_r {w : World} {ops : Array Oper} {rest : List Oper} {o : Oper} {a : Act} {Q : Exit → Act → World → Prop} (hgd : o.guard = none) (d s : Operand)
    (ho : o.op = .call { callee := .builtin .copy, args := #[d, s], argTypes := #[57, 57] }) (dp sp : Option Addr) (n dCap sCap : Nat) (hd : a.eval d = .slice dp n dCap) (hs : a.eval s = .slice sp n sCap)
    (g c off gx ox : Nat) (cs : List Nat) (hr : RowB w g c) (hcl : cs.length = n) (hdp : 0 < n → dp = some ⟨g, off, none⟩) (hsp : 0 < n → sp = some ⟨gx, ox, none⟩) (hsrc : WA w gx ox cs) (hfit : off + n ≤ c)
    (h : ∀ w', WA w' g off cs → Wr g off n w w' → wpList Tryz.prog ops Q rest (a.put o.dst (goInt n)) w') : wpList Tryz.prog ops Q (o :: rest) a w := by
  obtain ⟨w', hrun, h1, h2⟩ := run_copy_wa w dp sp n dCap sCap o.type g c off gx ox cs hr hcl hdp hsp hsrc hfit
  refine wpList_plain hgd fun K hK => ?_
  unfold Oper.wp
  simp [execOp, ho, resolve, invoke, builtin, hd, hs, hrun, Result.andThen]
  exact hK _ _ (h _ h1 h2)
theorem WA.drop {w : World} {g o : Nat} {xs : List Nat} (h : WA w g o xs) (k : Nat) : WA w g (o + k) (xs.drop k) := fun j hj => by
  have h2 : k + j < xs.length := by simp at hj; omega
  have := h (k + j) h2
  rw [Nat.add_assoc]
  simpa using this
theorem Wr.src {g o k : Nat} {w w0 w' : World} (h : Wr g o k w w') (e : w.heap = w0.heap) (e1 : w.os = w0.os) (e2 : w.tape = w0.tape) (e3 : w.output = w0.output) : Wr g o k w0 w' :=
  ⟨h.os.trans e1, h.tape.trans e2, h.output.trans e3, by rw [← e]; exact h.size, fun b hb hne => by rw [← e] at hb ⊢; exact h.block b hb hne, fun cur t z hc => by rw [← e] at hc; exact h.row cur t z hc⟩
theorem put0 {w : World} {g o c x : Nat} (hr : RowB w g c) (hc : o < c) : WA (w.setCell ⟨g, o, none⟩ (.int .u64 (x : Int))) g o [x] := (WA.nil w g o).put (i := 0) rfl hr hc
set_option maxRecDepth 20000 in
set_option maxHeartbeats 4000000 in
theorem sub_vw_r (g o c gx ox k cz cx cxr y : Nat) (xs : List Nat) (w : World) (hr : RowB w g c) (hoc : o + k ≤ c) (hk : 1 ≤ k) (hkz : k ≤ cz) (hkx : k ≤ cx) (hxl : xs.length = k) (hnb : o + k ≤ 100000) (hob : ox + k ≤ 100000) (hy : y < W64) (hne : gx ≠ g) (hx : WA w gx ox xs) (hxr : RowB w gx cxr) (hxb : ∀ x ∈ xs, x < W64) :
    Calls Tryz.prog 61 #[.slice (some ⟨g, o, none⟩) k cz, .slice (some ⟨gx, ox, none⟩) k cx, .int .u64 (y : Int)] w (VecRPost g o k (fun c rs => valW rs + y = valW xs + W64 ^ k * c) w) := by
  have HR := Lib.hid hr
  have HXR := Lib.hid hxr
  have HXL := Lib.hid hxl
  have HX := Lib.hid hx
  have HXB := Lib.hid hxb
  have HOC := Lib.hid hoc
  have hgx := hxr.lt
  have hgz := hr.lt
  have HPN : Hid (∀ W' : World, RowB W' g c → RowB W' gx cxr → ∀ W : World, W.heap = W'.heap → (binOp .neq 109 (.pointer (some ⟨g, o, none⟩)) (.pointer (some ⟨gx, ox, none⟩))).run Tryz.prog W = .ok (.bool true) W) := fun W' h1 h2 W hW => ptr_ne_r (h1.hp hW) (h2.hp hW) hne
  have h00 : 0 < xs.length := by omega
  obtain ⟨x0, hx0⟩ : ∃ x0, x0 = xs[0]'h00 := ⟨_, rfl⟩
  have cx0 := hx 0 h00
  rw [← hx0, Nat.add_zero] at cx0
  obtain ⟨u0, cz0⟩ := hr.some (i := o) (by omega)
  have fz0 := hr.free o
  have hx64 : x0 < W64 := by rw [hx0]; exact hxb _ (List.getElem_mem _)
  have HADD := Lib.hid (fun W => bits_sub x0 y 0 hx64 hy (by omega) W)
  rw [show ((0 : Nat) : Int) = 0 from rfl] at HADD
  obtain ⟨r, hrr⟩ : ∃ r, r = (x0 + W64 - y - 0) % W64 := ⟨_, rfl⟩
  obtain ⟨d, hd⟩ : ∃ d, d = bor x0 y 0 := ⟨_, rfl⟩
  rw [← hrr, ← hd] at HADD
  have hr64 : r < W64 := by rw [hrr]; exact Nat.mod_lt _ W64_pos
  have hd1 : d = 0 ∨ d = 1 := by rw [hd]; unfold bor; split <;> omega
  have HST : Hid (r + y = x0 + W64 * d) := by
    unfold Hid
    have := sub_step 0 0 0 0 0 x0 y hx64 hy (by omega) rfl
    simp at this
    rw [hrr, hd]
    simpa using this
  have hpos : (0 : Int) < (k : Int) := by omega
  have hkn : ((k : Int) == 0) = false := by rw [beq_eq_false_iff_ne]; omega
  have hw1 : Wr g o k w (w.setCell ⟨g, o, none⟩ (.int .u64 (r : Int))) := (Wr.refl g o k w).set (Nat.le_refl _) (by omega) _
  have ha1 : WA (w.setCell ⟨g, o, none⟩ (.int .u64 (r : Int))) g o [r] := put0 hr (by omega)
  have hpn1 := fun q => HPN.out _ (hw1.rowB hr) (hw1.rowB hxr) ((w.setCell ⟨g, o, none⟩ (.int .u64 (r : Int))).drewN q) rfl
  have HX0 := Lib.hid hx0
  have HW1 := Lib.hid hw1
  have HA1 := Lib.hid ha1
  have HNE := Lib.hid hne
  have HR64 := Lib.hid hr64
  clear hr hxl hx hxb hx0 hrr hd hx64 hr64 hxr hne hy hw1 ha1 hoc
  rcases hd1 with rfl | rfl
  · obtain ⟨AZ, hAZ, hAZ2⟩ := vec_from_at g o k cz 1 hk hkz
    obtain ⟨AX, hAX, hAX2⟩ := vec_from_at gx ox k cx 1 hk hkx
    have HAZ := Lib.hid hAZ2
    have HAX := Lib.hid hAX2
    rw [show ((1 : Nat) : Int) = 1 from rfl] at hAZ hAX
    rw [show ((0 : Nat) : Int) = 0 from rfl] at HADD
    clear hAZ2 hAX2
    go_enter Tryz.func61, Tryz.ntmps61
    go_wp2_with fail
    refine (HADD.out _).mono ?_
    rintro e w' ⟨rfl, rfl⟩
    go_wp2_with fail
    go_quiet (fail)
    go_wp2_with fail
    have HCL : Hid ((xs.drop 1).length = k - 1) := by unfold Hid; have := HXL.out; simp; omega
    go_region_law ((refine step_copy_r rfl (.tmp 40) (.tmp 42) rfl AZ AX (k - 1) _ _ rfl rfl g c (o + 1) gx (ox + 1) (xs.drop 1) ((HW1.out.rowB HR.out).hp rfl) HCL.out HAZ.out HAX.out (((HX.out.keep HW1.out (.inl HNE.out)).drop 1).hp rfl) (by have := HOC.out; omega) ?_; intro w4 hwa4 hwr4))
    all_goals
      have HF := Lib.hid (And.intro hwa4 hwr4)
      clear hwa4 hwr4
      go_wp2
      go_ret
      obtain ⟨hwa4, hwr0⟩ := HF.out
      have hwr4 : Wr g (o + 1) (k - 1) (w.setCell ⟨g, o, none⟩ (.int .u64 (r : Int))) w4 := hwr0.src rfl rfl rfl rfl
      refine ⟨0, [r] ++ xs.drop 1, rfl, by omega, by have := HCL.out; simp at this ⊢; omega, ?_, ?_, ?_, ?_⟩
      · intro z hz
        rcases List.mem_append.1 hz with h | h
        · simp at h; rw [h]; exact HR64.out
        · exact HXB.out z (List.mem_of_mem_drop h)
      · show valW _ + y = _ + W64 ^ k * 0
        rw [Nat.mul_zero, Nat.add_zero, valW_append]
        refine sub_fin (rs := [r]) (t := 1) (by have := HXL.out; omega) ?_
        have := HST.out
        rw [val_one _ h00, ← HX0.out]
        simp [valW]
        omega
      · exact (HA1.out.keep hwr4 (.inr (.inl (by simp)))).app hwa4
      · exact HW1.out.trans (hwr4.mono (by omega) (by omega))
  · rw [show ((1 : Nat) : Int) = 1 from rfl] at HADD
    go_enter Tryz.func61, Tryz.ntmps61
    go_wp2_with fail
    refine (HADD.out _).mono ?_
    rintro e w' ⟨rfl, rfl⟩
    go_wp2_with fail
    go_loopw [9] (fun iv wr => ∃ (i : Nat) (rs : List Nat), 1 ≤ i ∧ i ≤ k ∧ iv = .int .i64 (i : Int) ∧ Hid (rs.length = i ∧ ∀ z ∈ rs, z < W64) ∧ Hid (valW rs + y = valW (xs.take i) + W64 ^ i) ∧ Hid (WA wr g o rs) ∧ Hid (Wr g o k w wr))
      (fun iv _ => k - (intOf iv).toNat)
    case atStart => exact ⟨1, [r], by omega, hk, rfl, ⟨rfl, by simp; exact HR64.out⟩, by unfold Hid; rw [val_one _ h00, ← HX0.out]; have := HST.out; simp [valW]; omega, HA1.out, HW1.out⟩
    case round =>
      obtain ⟨i, rs, hi1, hik, rfl, hrl, hval, hwa, hO⟩ := hrel
      by_cases hin : i < k
      · have hix : i < xs.length := by rw [HXL.out]; exact hin
        obtain ⟨x, hxd⟩ : ∃ x, x = xs[i]'hix := ⟨_, rfl⟩
        have cx1 := HX.out.keep hO.out (.inl HNE.out) i hix
        rw [← hxd] at cx1
        have hx64 : x < W64 := by rw [hxd]; exact HXB.out _ (List.getElem_mem hix)
        have hrow := hO.out.rowB HR.out
        have hrowx := hO.out.rowB HXR.out
        obtain ⟨u1, cz1⟩ := hrow.some (i := o + i) (by have := HOC.out; omega)
        have fz1 := hrow.free (o + i)
        have hgr := hrow.lt
        have hin' : (i : Int) < (k : Int) := by omega
        have htk : valW (xs.take (i + 1)) = valW (xs.take i) + W64 ^ i * x := by
          rw [List.take_succ_eq_append_getElem hix, valW_append, List.length_take, Nat.min_eq_left (by omega), ← hxd]; simp [valW]
        by_cases hmax : x = 0
        · have hq : ((x : Int) != 0) = false := by rw [hmax]; rfl
          have HTK : Hid (valW (rs ++ [18446744073709551615]) + y = valW (xs.take (i + 1)) + W64 ^ (i + 1)) := by
            unfold Hid
            have h1 := hval.out
            rw [htk, valW_append, hrl.out.1, Nat.pow_succ, hmax]
            have h2 : W64 ^ i * W64 = W64 ^ i * 18446744073709551615 + W64 ^ i := by unfold W64; omega
            rw [h2]
            simp [valW]
            omega
          have HP := Lib.hid (hwa.out.put (x := 18446744073709551615) hrl.out.1 hrow (by have := HOC.out; omega))
          have HO2 := Lib.hid (hO.out.set (i := o + i) (by omega) (by omega) (.int .u64 18446744073709551615))
          clear hxd hx64 htk hmax hval hrow hrowx
          go_wp2
          go_roundw
          case rel =>
            refine ⟨i + 1, rs ++ [18446744073709551615], by omega, by omega, by go_num, ⟨by simp [hrl.out.1], ?_⟩, HTK.out, HP.out, HO2.out⟩
            intro z hz
            rcases List.mem_append.1 hz with h | h
            · exact hrl.out.2 z h
            · simp at h; rw [h]; unfold W64; omega
          case measure => simp [intOf]; omega
        · have hq : ((x : Int) != 0) = true := by rw [bne_iff_ne]; omega
          obtain ⟨x', hx'⟩ : ∃ x', x = x' + 1 := ⟨x - 1, by omega⟩
          have hx1 : x' < W64 := by omega
          have hxw : IntKind.u64.wrap (x' : Int) = (x' : Int) := wrap64_small _ (by omega) (by unfold W64 at hx64; omega)
          have hxw2 : (x : Int) - 1 = (x' : Int) := by omega
          have HTK : Hid (valW (rs ++ [x']) + y = valW (xs.take (i + 1))) := by
            unfold Hid
            have h1 := hval.out
            rw [htk, valW_append, hrl.out.1, hx', valW, valW, Nat.mul_zero, Nat.add_zero, Nat.mul_add, Nat.mul_one]
            omega
          have hp2 := hwa.out.put (x := x') hrl.out.1 hrow (by have := HOC.out; omega)
          have ho2 := hO.out.set (i := o + i) (by omega) (by omega) (.int .u64 (x' : Int))
          have hpn2 := fun q => HPN.out _ (ho2.rowB HR.out) (ho2.rowB HXR.out) ((wr.setCell ⟨g, o + i, none⟩ (.int .u64 (x' : Int))).drewN q) rfl
          obtain ⟨AZ, hAZ, hAZ2⟩ := vec_from_at g o k cz (i + 1) (by omega) hkz
          obtain ⟨AX, hAX, hAX2⟩ := vec_from_at gx ox k cx (i + 1) (by omega) hkx
          obtain ⟨m1, hm1⟩ : ∃ m, m = k - (i + 1) := ⟨_, rfl⟩
          obtain ⟨q1, hq1⟩ : ∃ q, q = cz - (i + 1) := ⟨_, rfl⟩
          obtain ⟨q2, hq2⟩ : ∃ q, q = cx - (i + 1) := ⟨_, rfl⟩
          rw [← hm1] at hAZ2 hAX2
          have HAZ := Lib.hid hAZ2
          have HAX := Lib.hid hAX2
          rw [show ((i + 1 : Nat) : Int) = (i : Int) + 1 by omega, ← hm1] at hAZ hAX
          rw [← hq1] at hAZ
          rw [← hq2] at hAX
          have HP2 := Lib.hid hp2
          have HO2 := Lib.hid ho2
          have HCL : Hid ((xs.drop (i + 1)).length = m1) := by unfold Hid; have := HXL.out; simp; omega
          have HRL : Hid ((rs ++ [x']).length = i + 1 ∧ ∀ z ∈ rs ++ [x'], z < W64) := by
            refine ⟨by simp [hrl.out.1], fun z hz => ?_⟩
            rcases List.mem_append.1 hz with h | h
            · exact hrl.out.2 z h
            · simp at h; rw [h]; exact hx1
          have HM1 := Lib.hid hm1
          clear hm1 hq1 hq2 hxd hx64 htk hmax hval hx1 hx' hp2 ho2 hAZ2 hAX2 hrow hrowx
          go_wp2_with fail
          go_quiet (fail)
          go_wp2_with fail
          have hw1 : IntKind.i64.wrap ((i : Int) + 1) = (i : Int) + 1 := wrap_i64_mid _ (by omega) (by omega)
          go_still_tail 8, (by kernel_rfl)
          clear hw1
          refine wpList_copy_r rfl (.tmp 69) (.tmp 73) rfl AZ AX m1 q1 q2 rfl rfl g c (o + (i + 1)) gx (ox + (i + 1)) (xs.drop (i + 1)) ((HO2.out.rowB HR.out).hp rfl) HCL.out HAZ.out HAX.out (((HX.out.keep HO2.out (.inl HNE.out)).drop (i + 1)).hp rfl) (by have := HOC.out; have := HM1.out; omega) ?_
          intro w4 hwa4 hwr4
          have HF := Lib.hid (And.intro hwa4 hwr4)
          clear hwa4 hwr4
          go_wp2
          go_ret
          obtain ⟨hwa4, hwr0⟩ := HF.out
          have hwr4 : Wr g (o + (i + 1)) m1 (wr.setCell ⟨g, o + i, none⟩ (.int .u64 (x' : Int))) w4 := hwr0.src rfl rfl rfl rfl
          refine ⟨0, rs ++ [x'] ++ xs.drop (i + 1), rfl, by omega, by rw [List.length_append, HRL.out.1, HCL.out, HM1.out]; omega, ?_, ?_, ?_, ?_⟩
          · intro z hz
            rcases List.mem_append.1 hz with h | h
            · exact HRL.out.2 z h
            · exact HXB.out z (List.mem_of_mem_drop h)
          · show valW _ + y = _ + W64 ^ k * 0
            rw [Nat.mul_zero, Nat.add_zero, valW_append, HRL.out.1]
            exact sub_fin (by have := HXL.out; omega) HTK.out
          · exact (HP2.out.keep hwr4 (.inr (.inl (by rw [HRL.out.1]; exact Nat.le_refl _)))).app (by rw [HRL.out.1]; exact hwa4)
          · exact HO2.out.trans (hwr4.mono (by omega) (by have := HM1.out; omega))
      · obtain rfl : i = k := by omega
        go_wp2
        go_ret
        exact ⟨1, rs, rfl, Nat.le_refl _, hrl.out.1, hrl.out.2, by
          have := hval.out
          rw [List.take_of_length_le (by have := HXL.out; omega)] at this
          show valW rs + y = _ + W64 ^ i * 1
          rw [Nat.mul_one]; exact this, hwa.out, hO.out⟩
end Go.Proofs.YtndeolcamgnmdaaGreatDoor
