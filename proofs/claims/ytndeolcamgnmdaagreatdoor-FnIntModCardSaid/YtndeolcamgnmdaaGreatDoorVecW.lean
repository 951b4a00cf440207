/- A word added to, or taken from, words in a row. -/
import Derived.Test.YtndeolcamgnmdaaGreatDoorVec
import Derived.Test.YtndeolcamgnmdaaGreatDoorModBaseD
import Derived.Deep.RegionLaw
set_option linter.unusedVariables false
set_option linter.unusedSimpArgs false
set_option linter.unnecessarySimpa false
namespace Go.Proofs.YtndeolcamgnmdaaGreatDoor
open Go.RowKit
theorem vec_from (w : World) (a : Option Addr) (n cap k : Nat) (hk : k ≤ n) :
    (Instr.slice 57 (.slice a n cap) (some (.int .i64 (k : Int))) none none).run Tryz.prog w = .ok (.slice (if cap = k then a else a.map (·.add (k * 1))) (n - k) (cap - k)) w := by
  have e : ((n : Int) - (k : Int)) = ((n - k : Nat) : Int) := by omega
  simp [Instr.slice, run_underlying Tryz.underlying57, Instr.sliceBounds, Instr.sliceBound, asIntOf, hk, Tryz.sizeOf83]
theorem vec_from_at (g o n cap k : Nat) (hk : k ≤ n) (hc : n ≤ cap) : ∃ A, (∀ w, (Instr.slice 57 (.slice (some ⟨g, o, none⟩) n cap) (some (.int .i64 (k : Int))) none none).run Tryz.prog w = .ok (.slice A (n - k) (cap - k)) w) ∧ (0 < n - k → A = some ⟨g, o + k, none⟩) := by
  refine ⟨_, fun w => vec_from w _ n cap k hk, fun h => ?_⟩
  rw [if_neg (by omega)]
  simp [Addr.add_lit]
theorem ow_splice {w w' : World} {B gz N cz off : Nat} {zs cs : List Nat} {cur : Array Value} (h : OW w B (.slice (some ⟨gz, 0, none⟩) N cz) zs) (hg : w.heap[gz]? = some (.cells cur 83 (0, 0))) (hoff : off + cs.length ≤ zs.length) (hcs : ∀ x ∈ cs, x < W64)
    (hg' : w'.heap[gz]? = some (.cells (cur.toList.take off ++ wcells cs ++ cur.toList.drop (off + cs.length)).toArray 83 (0, 0))) : OW w' B (.slice (some ⟨gz, 0, none⟩) N cz) (zs.take off ++ cs ++ zs.drop (off + cs.length)) := by
  have hlen : (zs.take off ++ cs ++ zs.drop (off + cs.length)).length = zs.length := by simp; omega
  refine ⟨⟨by simp, ?_⟩, ?_⟩
  · rcases h.1.2 with ⟨h0, _⟩ | ⟨g, cap, cur2, hv, hb, hh, h1, h2, h3, h4⟩
    · simp at h0
    · injection hv with e1 e2 e3
      injection e1 with e1
      injection e1 with e1
      subst e1 e2 e3
      rw [hg] at hh
      injection hh with hh
      injection hh with hh
      subst hh
      have hcl : cur.toList.length = cz := by rw [Array.length_toList, h3]; simp
      refine .inr ⟨gz, cz, _, by rw [hlen], hb, hg', by rw [hlen]; omega, h2, by simp; omega, ?_⟩
      rw [hlen]
      have hw : cur.toList.take (zs.length * 1) = wcells zs := by simpa using h4
      rw [Nat.mul_one] at hw
      have e : cur.toList = wcells zs ++ cur.toList.drop zs.length := by rw [← hw, List.take_append_drop]
      have w1 : (wcells zs).length = zs.length := by simp
      have t1 : cur.toList.take off = (wcells zs).take off := by rw [e, List.take_append_of_le_length (by omega)]
      have t2 : cur.toList.drop (off + cs.length) = (wcells zs).drop (off + cs.length) ++ cur.toList.drop zs.length := by
        conv => lhs; rw [e]
        rw [List.drop_append_of_le_length (by omega)]
      rw [Nat.mul_one, t1, t2, ← List.append_assoc, List.take_append_of_le_length (by simp; omega), List.take_of_length_le (by simp; omega)]
      simp [wcells]
  · intro x hx
    rw [List.mem_append, List.mem_append] at hx
    rcases hx with (hx | hx) | hx
    · exact h.2 x (List.mem_of_mem_take hx)
    · exact hcs x hx
    · exact h.2 x (List.mem_of_mem_drop hx)
theorem only_setRow (w : World) (g : Nat) (cs : Array Value) : Only (· = g) w (w.setRow g cs) :=
  ⟨rfl, rfl, rfl, by simp [World.setRow], fun i hi hne => by
    have : ¬ g = i := fun e => hne e.symm
    simp [World.setRow, Array.getElem?_modify, this]⟩
theorem step_copy_ow {ops : Array Oper} {o : Oper} {a : Act} {w : World} {K : Act → World → Prop} {Q : Exit → Act → World → Prop} {E : Prop} (hgd : o.guard = none) (d s : Operand)
    (ho : o.op = .call { callee := .builtin .copy, args := #[d, s], argTypes := #[57, 57] }) (dp sp : Option Addr) (n dCap sCap : Nat) (hd : a.eval d = .slice dp n dCap) (hs : a.eval s = .slice sp n sCap)
    (B gz N cz off gx ox : Nat) (zs cs : List Nat) (hz : OW w B (.slice (some ⟨gz, 0, none⟩) N cz) zs) (hcl : cs.length = n) (hdp : 0 < n → dp = some ⟨gz, off, none⟩) (hsp : 0 < n → sp = some ⟨gx, ox, none⟩)
    (hsrc : ∀ j (h : j < cs.length), w.cell? ⟨gx, ox + j, none⟩ = some (.int .u64 ((cs[j]'h : Nat) : Int))) (hfit : off + n ≤ zs.length) (hcs : ∀ x ∈ cs, x < W64)
    (h : ∀ w', OW w' B (.slice (some ⟨gz, 0, none⟩) N cz) (zs.take off ++ cs ++ zs.drop (off + n)) → Only (· = gz) w w' → K (a.put o.dst (goInt n)) w') :
    if Region.wanted o (yielded ops a.tmps) = true then Oper.wp Tryz.prog o a w K Q else E := by
  have hw : Region.wanted o (yielded ops a.tmps) = true := by simp [Region.wanted, hgd]
  rw [if_pos hw]
  have hsz : (Tryz.prog.info? 83).map (·.size) = some 1 := by kernel_rfl
  subst hcl
  by_cases h0 : cs.length = 0
  · have hrun := run_copy_none (P := Tryz.prog) w 57 57 o.type 83 dp sp cs.length dCap cs.length sCap Tryz.underlying57 hsz (by simpa using h0)
    unfold Oper.wp
    simp [execOp, ho, resolve, invoke, builtin, hd, hs, hrun, Result.andThen]
    have hn : cs = [] := List.eq_nil_of_length_eq_zero h0
    subst hn
    exact h w (by simpa using hz) (Only.refl _ _)
  · obtain rfl := hdp (by omega)
    obtain rfl := hsp (by omega)
    rcases hz.1.2 with ⟨h1, _⟩ | ⟨g, cap, cur, hv, hb, hh, h1, h2, h3, h4⟩
    · simp at h1
    have hz' := hz
    injection hv with e1 e2 e3
    injection e1 with e1
    injection e1 with e1
    subst e1 e2 e3
    have hfit2 : off + (wcells cs).length ≤ cur.size := by
      rw [wcells_len, h3]
      have := hz.len
      simp
      omega
    have hrun := run_copy_row (P := Tryz.prog) w 57 57 o.type 83 gz off cs.length dCap ⟨gx, ox, none⟩ cs.length sCap cur 83 (wcells cs) Tryz.underlying57 hsz hh (by rw [wcells_len]; exact (Nat.min_self _).symm) (fun j v hj => by
      have hj2 : j < cs.length := by
        have := (List.getElem?_eq_some_iff.1 hj).1
        simpa using this
      have e : v = .int .u64 ((cs[j]'hj2 : Nat) : Int) := by
        have := (List.getElem?_eq_some_iff.1 hj).2
        rw [← this]; simp [wcells]
      rw [e, Addr.add_lit]
      exact hsrc j hj2) hfit2 (wcells_one cs)
    rw [wcells_len] at hrun
    unfold Oper.wp
    simp [execOp, ho, resolve, invoke, builtin, hd, hs, hrun, Result.andThen]
    refine h _ (ow_splice hz' hh hfit hcs ?_) (only_setRow w gz _)
    rw [List.append_assoc]
    exact setRow_heap w gz _ _ 83 _ hh
theorem wp_copy_ow {o : Oper} {a : Act} {w : World} {K : Act → World → Prop} {Q : Exit → Act → World → Prop} (d s : Operand)
    (ho : o.op = .call { callee := .builtin .copy, args := #[d, s], argTypes := #[57, 57] }) (dp sp : Option Addr) (n dCap sCap : Nat) (hd : a.eval d = .slice dp n dCap) (hs : a.eval s = .slice sp n sCap)
    (B gz N cz off gx ox : Nat) (zs cs : List Nat) (hz : OW w B (.slice (some ⟨gz, 0, none⟩) N cz) zs) (hcl : cs.length = n) (hdp : 0 < n → dp = some ⟨gz, off, none⟩) (hsp : 0 < n → sp = some ⟨gx, ox, none⟩)
    (hsrc : ∀ j (h : j < cs.length), w.cell? ⟨gx, ox + j, none⟩ = some (.int .u64 ((cs[j]'h : Nat) : Int))) (hfit : off + n ≤ zs.length) (hcs : ∀ x ∈ cs, x < W64)
    (h : ∀ w', OW w' B (.slice (some ⟨gz, 0, none⟩) N cz) (zs.take off ++ cs ++ zs.drop (off + n)) → Only (· = gz) w w' → K (a.put o.dst (goInt n)) w') :
    Oper.wp Tryz.prog o a w K Q := by
  have hsz : (Tryz.prog.info? 83).map (·.size) = some 1 := by kernel_rfl
  subst hcl
  by_cases h0 : cs.length = 0
  · have hrun := run_copy_none (P := Tryz.prog) w 57 57 o.type 83 dp sp cs.length dCap cs.length sCap Tryz.underlying57 hsz (by simpa using h0)
    unfold Oper.wp
    simp [execOp, ho, resolve, invoke, builtin, hd, hs, hrun, Result.andThen]
    have hn : cs = [] := List.eq_nil_of_length_eq_zero h0
    subst hn
    exact h w (by simpa using hz) (Only.refl _ _)
  · obtain rfl := hdp (by omega)
    obtain rfl := hsp (by omega)
    rcases hz.1.2 with ⟨h1, _⟩ | ⟨g, cap, cur, hv, hb, hh, h1, h2, h3, h4⟩
    · simp at h1
    have hz' := hz
    injection hv with e1 e2 e3
    injection e1 with e1
    injection e1 with e1
    subst e1 e2 e3
    have hfit2 : off + (wcells cs).length ≤ cur.size := by
      rw [wcells_len, h3]
      have := hz.len
      simp
      omega
    have hrun := run_copy_row (P := Tryz.prog) w 57 57 o.type 83 gz off cs.length dCap ⟨gx, ox, none⟩ cs.length sCap cur 83 (wcells cs) Tryz.underlying57 hsz hh (by rw [wcells_len]; exact (Nat.min_self _).symm) (fun j v hj => by
      have hj2 : j < cs.length := by
        have := (List.getElem?_eq_some_iff.1 hj).1
        simpa using this
      have e : v = .int .u64 ((cs[j]'hj2 : Nat) : Int) := by
        have := (List.getElem?_eq_some_iff.1 hj).2
        rw [← this]; simp [wcells]
      rw [e, Addr.add_lit]
      exact hsrc j hj2) hfit2 (wcells_one cs)
    rw [wcells_len] at hrun
    unfold Oper.wp
    simp [execOp, ho, resolve, invoke, builtin, hd, hs, hrun, Result.andThen]
    refine h _ (ow_splice hz' hh hfit hcs ?_) (only_setRow w gz _)
    rw [List.append_assoc]
    exact setRow_heap w gz _ _ 83 _ hh
theorem wpList_copy_ow {ops : Array Oper} {rest : List Oper} {o : Oper} {a : Act} {w : World} {Q : Exit → Act → World → Prop} (hgd : o.guard = none) (d s : Operand)
    (ho : o.op = .call { callee := .builtin .copy, args := #[d, s], argTypes := #[57, 57] }) (dp sp : Option Addr) (n dCap sCap : Nat) (hd : a.eval d = .slice dp n dCap) (hs : a.eval s = .slice sp n sCap)
    (B gz N cz off gx ox : Nat) (zs cs : List Nat) (hz : OW w B (.slice (some ⟨gz, 0, none⟩) N cz) zs) (hcl : cs.length = n) (hdp : 0 < n → dp = some ⟨gz, off, none⟩) (hsp : 0 < n → sp = some ⟨gx, ox, none⟩)
    (hsrc : ∀ j (h : j < cs.length), w.cell? ⟨gx, ox + j, none⟩ = some (.int .u64 ((cs[j]'h : Nat) : Int))) (hfit : off + n ≤ zs.length) (hcs : ∀ x ∈ cs, x < W64)
    (h : ∀ w', OW w' B (.slice (some ⟨gz, 0, none⟩) N cz) (zs.take off ++ cs ++ zs.drop (off + n)) → Only (· = gz) w w' → wpList Tryz.prog ops Q rest (a.put o.dst (goInt n)) w') :
    wpList Tryz.prog ops Q (o :: rest) a w :=
  wpList_plain hgd fun _ hK => wp_copy_ow d s ho dp sp n dCap sCap hd hs B gz N cz off gx ox zs cs hz hcl hdp hsp hsrc hfit hcs fun w' h1 h2 => hK _ _ (h w' h1 h2)
end Go.Proofs.YtndeolcamgnmdaaGreatDoor
