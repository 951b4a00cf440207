/- sync.Once around the reading of the table. -/
import Derived.Test.YtkddmiamdpbgiaaDec
import Derived.Tactics
import Derived.Tactics2
import Derived.Defers
import Derived.Laws.Pointers
import Derived.Laws.LoneSync
import Derived.RegionCalls
namespace Go.Proofs.Ytkddmiamdpbgiaa
open Go.RowKit
theorem disable (w : World) : (callFunc 63 #[]).run Try.prog w = .ok (.value (.tuple #[])) w := run_call_mark0 Try.func63 (by kernel_rfl) (by kernel_rfl) (by kernel_rfl) .disable (by kernel_rfl) w
theorem enable (w : World) : (callFunc 65 #[]).run Try.prog w = .ok (.value (.tuple #[])) w := run_call_mark0 Try.func65 (by kernel_rfl) (by kernel_rfl) (by kernel_rfl) .enable (by kernel_rfl) w
theorem acquire (a : Addr) (w : World) : (callFunc 66 #[.pointer (some a)]).run Try.prog w = .ok (.value (.tuple #[])) w := run_call_marked Try.func66 (by kernel_rfl) (by kernel_rfl) (by kernel_rfl) .acquire (by kernel_rfl) a w
theorem releaseMerge (a : Addr) (w : World) : (callFunc 68 #[.pointer (some a)]).run Try.prog w = .ok (.value (.tuple #[])) w := run_call_marked Try.func68 (by kernel_rfl) (by kernel_rfl) (by kernel_rfl) .releaseMerge (by kernel_rfl) a w
theorem store_deferred (a : Addr) (x : Value) (u : FrameMode) (w : World) (hc : w.cell? a = some x) (hz : w.frozen? a = false) :
    CallsD Try.prog 55 #[.pointer (some a), .bool true] u w fun e u' w' => u' = u ∧ (e = .returned (.tuple #[]) ∧ w' = w.drew.setCell a (.int .u32 1)) := by
  have hc' : w.drew.cell? a = some x := by go_simp
  have hz' : w.drew.frozen? a = false := by go_simp
  have hst := run_call_store (P := Try.prog) Try.func61 (by kernel_rfl) (by kernel_rfl) (by kernel_rfl) (by kernel_rfl) (k := .u32) (y := 1) hc' hz'
  go_enter_d Try.func55, Try.ntmps55
  go_wp2
  go_region_calls
  all_goals (go_end0; exact ⟨rfl, rfl⟩)
set_option maxRecDepth 100000 in
theorem unlock_deferred (a : Addr) (u : FrameMode) (w : World) (hc : w.cell? a = some (.int .i32 1)) (hz : w.frozen? a = false) :
    CallsD Try.prog 54 #[.pointer (some a)] u w fun e u' w' => u' = u ∧ (e = .returned (.tuple #[]) ∧ w' = w.setCell a (.int .i32 0)) := by
  have hd := disable
  have he := enable
  have hr := releaseMerge
  have hadd := run_call_add (P := Try.prog) Try.func69 (by kernel_rfl) (by kernel_rfl) (by kernel_rfl) .i32 (by kernel_rfl) (y := -1) (s := 0) hc hz (by simp [go_sem]; rfl)
  have hcv := run_convert_to_unsafe (P := Try.prog) (src := 138) (dst := 142) Try.underlying138 Try.underlying142 (by kernel_rfl) hc
  go_enter_d Try.func54, Try.ntmps54
  go_wp2
  go_end0
  go_wp2
  go_end0
  exact ⟨rfl, rfl⟩
set_option maxRecDepth 100000 in
theorem lock_free (a : Addr) (w : World) (hc : w.cell? a = some (.int .i32 0)) (hz : w.frozen? a = false) :
    Calls Try.prog 53 #[.pointer (some a)] w fun e w' => e = .returned (.tuple #[]) ∧ w' = w.setCell a (.int .i32 1) := by
  have hd := disable
  have he := enable
  have ha := acquire
  have hcas := run_call_cas_hit (P := Try.prog) Try.func64 (by kernel_rfl) (by kernel_rfl) (by kernel_rfl) .i32 (by kernel_rfl) (y := 1) hc hz
  have hc' : (w.setCell a (.int .i32 1)).cell? a = some (.int .i32 1) := World.cell?_setCell_same w a _ hc
  have hcv := run_convert_to_unsafe (P := Try.prog) (src := 138) (dst := 142) Try.underlying138 Try.underlying142 (by kernel_rfl) hc'
  go_enter Try.func53, Try.ntmps53
  go_wp2
  first | go_end0 | (simp only [Exit.inBlock, Exit.then]; refine bodyPost_ret (results_none rfl _ _ _) rfl ?_) | refine bodyPost_ret (results_none rfl _ _ _) rfl ?_
  go_wp2
  go_end0
  exact ⟨rfl, rfl⟩
/-- The table is there, the Once done. -/
def OncePost (G : Nat) (fa : Option Addr) (ln c : Int) (v6 v7 : Value) (rows : List Nat) (w : World) (e : Ending) (w' : World) : Prop :=
  e = .returned (.tuple #[]) ∧ ∃ R, w.heap.size ≤ R ∧ Blk w' G 90 (funCells fa ln c v6 v7 (.int .u32 1) (.int .i32 0) (.int .u32 0) (.slice (some ⟨R, 0, none⟩) (undelta rows 0 ln c).length rows.length)) ∧ LntAt w' R rows.length (undelta rows 0 ln c) ∧ Only (· = G) w w'
theorem once_end {G R n : Nat} {fa : Option Addr} {ln c : Int} {v6 v7 vl : Value} {places : List (Nat × Int × Int)} {w w1 w3 : World} (hG : Blk w G 90 (funCells fa ln c v6 v7 (.int .u32 0) (.int .i32 0) (.int .u32 0) (.slice none 0 0)))
    (h1 : w1 = w.setCell ⟨G, 17, none⟩ (.int .i32 1)) (h3 : Blk w3 G 90 (funCells fa ln c v6 v7 (.int .u32 0) (.int .i32 1) (.int .u32 0) vl)) (hl : LntAt w3 R n places) (hR : G < R) (ho : Only (· = G) w1 w3) :
    Blk ((w3.drew.setCell ⟨G, 16, none⟩ (.int .u32 1)).setCell ⟨G, 17, none⟩ (.int .i32 0)) G 90 (funCells fa ln c v6 v7 (.int .u32 1) (.int .i32 0) (.int .u32 0) vl) ∧
    LntAt ((w3.drew.setCell ⟨G, 16, none⟩ (.int .u32 1)).setCell ⟨G, 17, none⟩ (.int .i32 0)) R n places ∧ Only (· = G) w ((w3.drew.setCell ⟨G, 16, none⟩ (.int .u32 1)).setCell ⟨G, 17, none⟩ (.int .i32 0)) := by
  have k : Only (· = G) w3 ((w3.drew.setCell ⟨G, 16, none⟩ (.int .u32 1)).setCell ⟨G, 17, none⟩ (.int .i32 0)) := (((Only.refl (· = G) w3).drew).setCell (p := ⟨G, 16, none⟩) (.inl rfl) _).setCell (p := ⟨G, 17, none⟩) (.inl rfl) _
  refine ⟨?_, hl.only k (by omega), ?_⟩
  · have := ((h3.drew).put 16 (.int .u32 1)).put 17 (.int .i32 0)
    simpa [funCells] using this
  · subst h1
    exact (((Only.refl (· = G) w).setCell (p := ⟨G, 17, none⟩) (.inl rfl) _).trans ho).trans k
set_option maxRecDepth 100000 in
set_option maxHeartbeats 1600000 in
theorem slow_any (B G : Nat) (fa : Option Addr) (ln c : Int) (v6 v7 : Value) (rows : List Nat) (w : World)
    (hG : Blk w G 90 (funCells fa ln c v6 v7 (.int .u32 0) (.int .i32 0) (.int .u32 0) (.slice none 0 0))) (hT : NH B w v7 rows) (hr : rows.length ≤ 50000000) (hx : ∀ x ∈ rows, x < 65536)
    (hln : -100000 ≤ ln ∧ ln ≤ 100000) (hc : -100000 ≤ c ∧ c ≤ 100000) :
    Calls Try.prog 47 #[.pointer (some ⟨G, 16, none⟩), .func (.func 36) #[.pointer (some ⟨G, 0, none⟩)] #[]] w (OncePost G fa ln c v6 v7 rows w) := by
  have a16 := hG.cell 16
  have a17 := hG.cell 17
  have y16 := hG.frozen 16
  have y17 := hG.frozen 17
  simp only [funCells, List.getElem?_toArray, List.getElem?_cons_zero, List.getElem?_cons_succ] at a16 a17
  have hG1 : Blk (w.setCell ⟨G, 17, none⟩ (.int .i32 1)) G 90 (funCells fa ln c v6 v7 (.int .u32 0) (.int .i32 1) (.int .u32 0) (.slice none 0 0)) := by
    have := hG.put 17 (.int .i32 1)
    simpa [funCells] using this
  have hT1 : NH B (w.setCell ⟨G, 17, none⟩ (.int .i32 1)) v7 rows := (keeps_put hG 17 _).own hT (by decide)
  have HDEC := Lib.hid (dec_any B G fa ln c v6 v7 (.int .u32 0) (.int .i32 1) (.int .u32 0) rows _ hG1 hT1 hr hx hln hc)
  have hl := run_call_load (P := Try.prog) Try.func52 (by kernel_rfl) (by kernel_rfl) (by kernel_rfl) .u32 (by kernel_rfl) (w := w.setCell ⟨G, 17, none⟩ (.int .i32 1)) (a := ⟨G, 16, none⟩) (x := 0) ((World.cell?_setCell_other _ ⟨G, 17, none⟩ ⟨G, 16, none⟩ _ (by simp)).trans a16)
  have hnot : ∀ (x : Bool) (w : World), (Op.unary .not (.bool x)).run Try.prog w = .ok (.bool (!x)) w := fun _ _ => rfl
  have HG := Lib.hid hG
  have hGl := hG.lt
  clear hG hT hr hx hG1 hT1 hln hc
  go_enter_defers Try.func47, Try.ntmps47
  go_wp2_with (first | (go_at_call 53; refine (lock_free ⟨G, 17, none⟩ _ (by go_simp) (by go_simp)).mono ?_; rintro e w' ⟨rfl, rfl⟩) | (go_at_call 46; go_in))
  refine HDEC.out.mono ?_
  rintro e w3 ⟨rfl, hG3, hL3, hO3⟩
  have HG3 := Lib.hid hG3
  have HE := Lib.hid (once_end HG.out rfl hG3 hL3 (by simp; omega) hO3)
  have hsz : w.heap.size = (w.setCell ⟨G, 17, none⟩ (.int .i32 1)).heap.size := by simp
  have HSZ := Lib.hid hsz
  clear hG3 hL3 hO3 hsz
  go_wp2
  refine leaves_cons (f := 55) (args := #[.pointer (some ⟨G, 16, none⟩), .bool true]) (by simp) (by simp [go_sem]) ?_
  refine (store_deferred ⟨G, 16, none⟩ (.int .u32 0) .returning _ ?_ (HG3.out.frozen 16)).mono ?_
  · have := HG3.out.cell 16
    simpa [funCells] using this
  rintro e u' w'' ⟨rfl, rfl, rfl⟩
  refine leaves_cons (f := 54) (args := #[.pointer (some ⟨G, 17, none⟩)]) (by simp [settle]) (by simp [go_sem]) ?_
  refine (unlock_deferred ⟨G, 17, none⟩ _ _ ?_ (by simpa using HG3.out.frozen 17)).mono ?_
  · refine (World.cell?_setCell_other _ ⟨G, 16, none⟩ ⟨G, 17, none⟩ _ (by simp)).trans ?_
    rw [World.cell?_drew]
    have := HG3.out.cell 17
    simpa [funCells] using this
  rintro e u' w'' ⟨rfl, rfl, rfl⟩
  simp [Leaves, settle, results, Try.results47]
  obtain ⟨x1, x2, x3⟩ := HE.out
  exact ⟨rfl, _, Nat.le_of_eq HSZ.out, x1, x2, x3⟩
set_option maxRecDepth 100000 in
set_option maxHeartbeats 1600000 in
theorem do_first (B G : Nat) (fa : Option Addr) (ln c : Int) (v6 v7 : Value) (rows : List Nat) (w : World)
    (hG : Blk w G 90 (funCells fa ln c v6 v7 (.int .u32 0) (.int .i32 0) (.int .u32 0) (.slice none 0 0))) (hT : NH B w v7 rows) (hr : rows.length ≤ 50000000) (hx : ∀ x ∈ rows, x < 65536)
    (hln : -100000 ≤ ln ∧ ln ≤ 100000) (hc : -100000 ≤ c ∧ c ≤ 100000) :
    Calls Try.prog 35 #[.pointer (some ⟨G, 16, none⟩), .func (.func 36) #[.pointer (some ⟨G, 0, none⟩)] #[]] w (OncePost G fa ln c v6 v7 rows w) := by
  have a16 := hG.cell 16
  simp only [funCells, List.getElem?_toArray, List.getElem?_cons_zero, List.getElem?_cons_succ] at a16
  have hl := run_call_load (P := Try.prog) Try.func52 (by kernel_rfl) (by kernel_rfl) (by kernel_rfl) .u32 (by kernel_rfl) a16
  have hnot : ∀ (x : Bool) (w : World), (Op.unary .not (.bool x)).run Try.prog w = .ok (.bool (!x)) w := fun _ _ => rfl
  have HS := Lib.hid (slow_any B G fa ln c v6 v7 rows w hG hT hr hx hln hc)
  clear hG hT hr hx hln hc
  go_enter Try.func35, Try.ntmps35
  go_wp2_with (first | (go_at_call 47; refine HS.out.mono ?_; rintro e w' ⟨rfl, h⟩; have HH := Lib.hid h; clear h) | (go_at_call 46; go_in))
  go_end0
  exact ⟨rfl, HH.out⟩
theorem do_done (a : Addr) (d : Int) (hd : ¬ d = 0) (fv : Value) (w : World) (h0 : w.cell? a = some (.int .u32 d)) :
    Calls Try.prog 35 #[.pointer (some a), fv] w fun e w' => e = .returned (.tuple #[]) ∧ w = w' := by
  have hl := run_call_load (P := Try.prog) Try.func52 (by kernel_rfl) (by kernel_rfl) (by kernel_rfl) .u32 (by kernel_rfl) h0
  have hnot : ∀ (x : Bool) (w : World), (Op.unary .not (.bool x)).run Try.prog w = .ok (.bool (!x)) w := fun _ _ => rfl
  have hd' : (d != 0) = true := by simp [hd]
  go_enter Try.func35, Try.ntmps35
  go_wp2
  go_end0
  exact ⟨rfl, rfl⟩
end Go.Proofs.Ytkddmiamdpbgiaa
