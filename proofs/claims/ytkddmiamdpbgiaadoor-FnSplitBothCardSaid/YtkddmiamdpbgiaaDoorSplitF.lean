/- The walk of the package's split at white space from the beginning on, over texts of bytes below 128. -/
import Derived.Test.YtkddmiamdpbgiaaDoorRows
import Derived.Test.YtkddmiamdpbgiaaDoorFields
import Derived.Test.YtkddmiamdpbgiaaDoorOwn
import Derived.WalkSpells
import Derived.WalkLawsBesides
import Derived.Lib.OthersKept
import Derived.Shelf.Strings.FieldsFuncAny
namespace Go.Proofs.YtkddmiamdpbgiaaDoor
open Go.RowKit
theorem Tryd.infoStr : (Tryd.prog.info? 9).map (fun i => (i.zero, i.size, i.bytes)) = some (some (.string ⟨#[]⟩), 1, 16) := by kernel_rfl
theorem Tryd.infoByte : (Tryd.prog.info? 5).map (fun i => (i.zero, i.size, i.bytes)) = some (some (.int .u8 0), 1, 1) := by kernel_rfl
def texts (fs : List (List UInt8)) : List Value := fs.map fun f => .string ⟨f.toArray⟩
/-- The slice value v owns these texts. -/
def OwnS (w : World) (B : Nat) (v : Value) (fs : List (List UInt8)) : Prop := w.ownsRow B 9 1 v fs.length (texts fs)
theorem OwnS.nil (w : World) (B : Nat) : OwnS w B (.slice none 0 0) [] := World.ownsRow_nil _ _ _ _
theorem OwnS.more {w : World} {B : Nat} {v : Value} {fs : List (List UInt8)} {f : List UInt8} (h : w.ownsRow B 9 1 v (fs.length + 1) (texts fs ++ [.string ⟨f.toArray⟩])) : OwnS w B v (fs ++ [f]) := by
  unfold OwnS texts; simpa [texts] using h
theorem OwnS.shape {w : World} {B : Nat} {v : Value} {fs : List (List UInt8)} (h : OwnS w B v fs) : ∃ A c, v = .slice A fs.length c := by
  rcases h.2 with ⟨rfl, h0⟩ | ⟨g, cap, cur, rfl, _⟩
  · exact ⟨none, 0, by rw [h0]⟩
  · exact ⟨_, _, rfl⟩
/-- zzletters.IsSpace, of a rune below 128. -/
theorem space_ascii (c : UInt8) (hc : (c.toNat : Int) < 128) (w : World) :
    Calls Tryd.prog 39 #[.int .i32 (c.toNat : Int)] w fun e w' => e = .returned (.bool (sp c)) ∧ w = w' := by
  by_cases h1 : (c.toNat : Int) = 32
  · have hs : sp c = true := by have : c.toNat = 32 := by omega
                                simp [sp, this]
    have h1' : ((c.toNat : Int) == 32) = true := by simp [h1]
    have HS := Lib.hid hs
    clear h1 hs
    go_enter Tryd.func39, Tryd.ntmps39
    go_wp2
    go_ret
    exact ⟨by rw [HS.out]; rfl, rfl⟩
  · have h1' : ((c.toNat : Int) == 32) = false := by simp [h1]
    by_cases h2 : 9 ≤ (c.toNat : Int)
    · by_cases h3 : (c.toNat : Int) ≤ 13
      · have hs : sp c = true := by simp [sp]; omega
        have HS := Lib.hid hs
        clear h1 hs
        go_enter Tryd.func39, Tryd.ntmps39
        go_wp2
        go_ret
        exact ⟨by rw [HS.out]; rfl, rfl⟩
      · have hs : sp c = false := by simp [sp]; omega
        have HS := Lib.hid hs
        clear h1 hs
        go_enter Tryd.func39, Tryd.ntmps39
        go_wp2
        go_ret
        exact ⟨by rw [HS.out]; rfl, rfl⟩
    · have hs : sp c = false := by simp [sp]; omega
      have HS := Lib.hid hs
      clear h1 hs
      go_enter Tryd.func39, Tryd.ntmps39
      go_wp2
      go_ret
      exact ⟨by rw [HS.out]; rfl, rfl⟩
/-- Every byte is below 128. -/
def Low (s : ByteArray) : Prop := ∀ (k : Nat) (h : k < s.size), (s[k].toNat : Int) < 128
set_option maxRecDepth 20000 in
set_option maxHeartbeats 800000 in
theorem splitspace (s : ByteArray) (hs : s.size ≤ 400) (hl : Low s) (w : World) :
    Calls Tryd.prog 29 #[.string s, .int .i64 400] w fun e w' => ∃ v, e = .returned v ∧ OwnS w' w.heap.size v (fields s.data.toList) ∧ Below w.heap.size w w' := by
  obtain ⟨i0, hi, hz0, hz1, hz2⟩ := info_parts Tryd.infoStr
  have HL := Lib.hid hl
  clear hl
  have hlen : s.data.toList.length = s.size := by simp
  have HN := Lib.hid hlen
  clear hlen
  go_enter Tryd.func29, Tryd.ntmps29
  go_wp2
  go_loopw [5, 6] (fun v st wr => ∃ (pos : Nat) (x : Int) (fs : List (List UInt8)), pos ≤ s.size ∧ st = .int .i64 x ∧ wr.heap[w.heap.size]? = some (.stringIter s pos) ∧ Fwd s.data.toList pos x fs ∧ OwnS wr w.heap.size v fs ∧ Below w.heap.size w wr)
    (fun _ _ wr => s.size - wr.iterPos w.heap.size)
  case atStart => exact ⟨0, -1, [], Nat.zero_le _, rfl, World.iter_heap _ _ _, fwd_start _, OwnS.nil _ _, (Below.refl _ _).alloc (Nat.le_refl _) _⟩
  case round =>
    obtain ⟨pos, x, fs, hp, rfl, hit, hF, hown, hb⟩ := hrel
    have hfl := fwd_len hF
    have HI := Lib.hid (Go.iterPos_of hit)
    have hsz : w.heap.size < wr.heap.size := (Array.getElem?_eq_some_iff.1 hit).1
    by_cases hlt : pos < s.size
    · have hc := HL.out pos hlt
      obtain ⟨W1, hW1⟩ : ∃ W1, W1 = wr.iterAt w.heap.size s (pos + 1) := ⟨_, rfl⟩
      have hnx : ∀ ty, (Instr.next (.pointer (some ⟨w.heap.size, 0, none⟩)) true ty).run Tryd.prog wr = .ok (.tuple #[.bool true, .int .i64 pos, .int .i32 s[pos].toNat]) W1 := fun ty => by
        rw [hW1]; exact Lib.run_next_ascii_at wr w.heap.size s pos ty hit hlt (by omega)
      have hit1 : W1.heap[w.heap.size]? = some (.stringIter s (pos + 1)) := by rw [hW1]; exact Lib.iterAt_heap _ _ _ _ _ hit
      have hown1 : OwnS W1 w.heap.size u5 fs := by rw [hW1]; exact own_iterAt hown hit _
      have hb1 : Below w.heap.size w W1 := by rw [hW1]; exact Lib.below_iterAt hb (Nat.le_refl _) _ _
      clear hW1 hown hb hit
      have hpl : pos < s.data.toList.length := by have := HN.out; omega
      have hgl : s.data.toList[pos] = s[pos] := rfl
      have HG := Lib.hid hgl
      clear hgl
      rcases fwd_cases hF with rfl | ⟨k, rfl, hk⟩
      · cases hs : sp s[pos] with
        | true =>
          have HF := Lib.hid (fwd_sp1 hpl hF (by rw [HG.out]; exact hs))
          have Hs := Lib.hid hs
          clear hF hs
          go_wp2_with fail
          refine (space_ascii s[pos] hc _).mono ?_
          rintro e w' ⟨rfl, rfl⟩
          rw [Hs.out]
          go_wp2
          go_roundw
          case rel => exact ⟨pos + 1, -1, fs, by omega, rfl, hit1, HF.out, hown1, hb1⟩
          case measure => rw [Go.iterPos_of hit1, HI.out]; omega
        | false =>
          have HF := Lib.hid (fwd_ns1 hpl hF (by rw [HG.out]; exact hs))
          have Hs := Lib.hid hs
          clear hF hs
          go_wp2_with fail
          refine (space_ascii s[pos] hc _).mono ?_
          rintro e w' ⟨rfl, rfl⟩
          rw [Hs.out]
          go_wp2
          go_roundw
          case rel => exact ⟨pos + 1, pos, fs, by omega, rfl, hit1, HF.out, hown1, hb1⟩
          case measure => rw [Go.iterPos_of hit1, HI.out]; omega
      · cases hs : sp s[pos] with
        | true =>
          have HF := Lib.hid (fwd_sp2 hpl hF (by rw [HG.out]; exact hs))
          have Hs := Lib.hid hs
          obtain ⟨A5, c5, rfl⟩ := hown1.shape
          have hmx : ((fs.length : Int) == 400) = false := by simp; omega
          have hfl2 : fs.length < 400 := by omega
          have hks : k ≤ s.size := by omega
          have hz1' := hb1.size
          have HE := Lib.hid (extract_list s k pos)
          clear hF hs hfl
          go_wp2_with fail
          refine (space_ascii s[pos] hc _).mono ?_
          rintro e w' ⟨rfl, rfl⟩
          rw [Hs.out]
          go_wp2_with (at_builtin; refine wpList_append_one rfl (.tmp 23) (.tmp 28) 27 rfl _ w.heap.size 9 i0 _ 16 Tryd.underlying27 hi hz0 hz1 hz2 rfl _ fs.length _ hown1 rfl (.string (s.extract k pos)) rfl rfl rfl (by unfold maxLen; omega) (by omega) hz1' ?_)
          intro v2 W2 hown2 hb2 hg2
          have hit2 : W2.heap[w.heap.size]? = some (.stringIter s (pos + 1)) := (hg2.block _ (Array.getElem?_eq_some_iff.1 hit1).1 (own_ne_iter hown1 hit1)).trans hit1
          rw [HE.out] at hown2
          have hown3 := OwnS.more hown2
          have hb3 := hb1.trans hb2
          clear hown1 hown2 hb1 hb2 hg2 hit1 hz1'
          go_wp2
          go_roundw
          case rel => exact ⟨pos + 1, -1, fs ++ [(s.data.toList.take pos).drop k], by omega, rfl, hit2, HF.out, hown3, hb3⟩
          case measure => rw [Go.iterPos_of hit2, HI.out]; omega
        | false =>
          have HF := Lib.hid (fwd_ns2 hpl hF (by rw [HG.out]; exact hs))
          have Hs := Lib.hid hs
          clear hF hs
          go_wp2_with fail
          refine (space_ascii s[pos] hc _).mono ?_
          rintro e w' ⟨rfl, rfl⟩
          rw [Hs.out]
          go_wp2
          go_roundw
          case rel => exact ⟨pos + 1, k, fs, by omega, rfl, hit1, HF.out, hown1, hb1⟩
          case measure => rw [Go.iterPos_of hit1, HI.out]; omega
    · have hnx : ∀ ty, (Instr.next (.pointer (some ⟨w.heap.size, 0, none⟩)) true ty).run Tryd.prog wr = _ := fun ty => Lib.run_next_end_at wr w.heap.size s pos ty hit hlt
      rcases fwd_cases hF with rfl | ⟨k, rfl, hk⟩
      · have hfin := Lib.hid (fwd_end1 (by have := HN.out; omega) hF)
        clear hF hit
        go_wp2
        go_ret
        exact ⟨_, rfl, by rw [← hfin.out]; exact hown, hb⟩
      · have hfin := Lib.hid (fwd_end2 (by have := HN.out; omega) (by have := HN.out; omega) hF)
        have hk2 : k < s.size := by omega
        have HE := Lib.hid ((extract_list s k s.size).trans (by rw [take_all s s.size (Nat.le_refl _)]))
        clear hF hit
        go_wp2_with (at_builtin; refine wpList_append_one rfl (.tmp 35) (.tmp 39) 27 rfl _ w.heap.size 9 i0 _ 16 Tryd.underlying27 hi hz0 hz1 hz2 rfl _ fs.length _ hown rfl (.string (s.extract k s.size)) rfl rfl rfl (by unfold maxLen; omega) (by omega) hb.size ?_)
        intro v2 W2 hown2 hb2 hg2
        rw [HE.out] at hown2
        have hown3 := OwnS.more hown2
        have hb3 := hb.trans hb2
        clear hown hown2 hb hb2 hg2
        go_wp2
        go_ret
        refine ⟨_, rfl, ?_, hb3⟩
        rw [← hfin.out]
        exact hown3
end Go.Proofs.YtkddmiamdpbgiaaDoor
