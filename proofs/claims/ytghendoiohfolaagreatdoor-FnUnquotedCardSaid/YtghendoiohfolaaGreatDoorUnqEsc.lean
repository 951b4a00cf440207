/- The reference's escapes: what begins with a backslash. -/
import Derived.Test.YtghendoiohfolaaGreatDoorUnqOct
namespace Go.Proofs.YtghendoiohfolaaGreatDoor
set_option linter.unusedSimpArgs false
set_option linter.unusedVariables false
set_option linter.unnecessarySimpa false
open Go.RowKit
def nmL : List UInt8 := [110, 114, 116, 97, 98, 102, 118, 34, 39, 92]
theorem one_no : ∀ c : Fin 256, (∀ j : Fin 10, nmL.getD j.1 0 ≠ UInt8.ofNat c.1) → one? (UInt8.ofNat c.1) = none := by decide +kernel
theorem one_none {c : UInt8} (h : ∀ j, j < 10 → nmL.getD j 0 ≠ c) : one? c = none := by
  have := one_no ⟨c.toNat, c.toNat_lt⟩
  simp only [UInt8.ofNat_toNat] at this
  exact this fun j => h j.1 j.2
/-- So many digits of base 16. -/
def digA (by_ one : Bool) (D : Nat) (t : List UInt8) : Option (List UInt8 × Nat) :=
  if t.length < D then none else match hexV 0 (t.take D) with
    | none => none
    | some n => codedP n one by_ (2 + D)
theorem esc_split (by_ : Bool) (b c : UInt8) (t : List UInt8) (h : one? c = none) : esc by_ (b :: c :: t) =
    if c = 120 then digA by_ true 2 t else if c = 117 then digA by_ false 4 t else if c = 85 then digA by_ false 8 t else octA by_ (b :: c :: t) := by
  simp only [esc, h]
  rfl
theorem hexV_none {acc : Nat} {c : UInt8} {t : List UInt8} (h : hexD c = none) : hexV acc (c :: t) = none := by simp [hexV, h]
theorem hexV_some {acc d : Nat} {c : UInt8} {t : List UInt8} (h : hexD c = some d) : hexV acc (c :: t) = hexV (acc * 16 + d) t := by simp [hexV, h]
theorem or32 (c : UInt8) : bits .or .u8 (c.toNat : Int) 32 = ((c ||| 32).toNat : Int) := by
  have h := u8_or_nat c.toNat 32 c.toNat_lt (by omega)
  rw [UInt8.toNat_or]
  exact h
theorem hexOf_some {c : UInt8} {r : Int} {d : Nat} (hp : 32 ≤ c.toNat ∨ c.toNat = 9 ∨ c.toNat = 10) (hd : hexD c = some d) (h : HexOf (c ||| 32) r) : r = (d : Int) := by
  obtain ⟨h1, h2⟩ := hexD_some hd hp
  rcases h with ⟨j, hj, hjc, rfl⟩ | ⟨hn, _⟩
  · have key : ∀ i j : Fin 16, sixteen.getD i.1 0 = sixteen.getD j.1 0 → i = j := by decide +kernel
    have := key ⟨j, hj⟩ ⟨d, h1⟩ (hjc.trans h2.symm)
    have e : j = d := congrArg Fin.val this
    rw [e]
  · exact absurd h2 (hn d h1)
theorem hexOf_none {c : UInt8} {r : Int} (hp : 32 ≤ c.toNat ∨ c.toNat = 9 ∨ c.toNat = 10) (hd : hexD c = none) (h : HexOf (c ||| 32) r) : r = -1 := by
  rcases h with ⟨j, hj, hjc, rfl⟩ | ⟨_, h⟩
  · exact absurd hjc (hexD_none hd hp j hj)
  · exact h
theorem place_hexL (c : UInt8) (w : World) :
    Calls Tryz.prog 98 #[.string ⟨#[48, 49, 50, 51, 52, 53, 54, 55, 56, 57, 97, 98, 99, 100, 101, 102]⟩, .string ⟨#[c]⟩] w (HexPost c w) := place_hex c w
theorem esc_text (w : World) (c : UInt8) (z : Int) (hz : z = (c.toNat : Int)) : (convert 24 9 (.slice (some ⟨w.heap.size, 0, none⟩) 1 1)).run Tryz.prog (w.alloc (.cells #[.int .u8 z] 5)) = .ok (.string ⟨#[c]⟩) (w.alloc (.cells #[.int .u8 z] 5)) :=
  (ownb_lit w c z hz).text 24 9 Tryz.underlying24 Tryz.underlying5 Tryz.underlying9
theorem dig_next {D k : Nat} {L : List UInt8} (h : k < 2 + D) (h2 : 2 ≤ k) (hl : 2 + D ≤ L.length) : ((L.drop 2).take D).drop (k - 2) = pk L k :: ((L.drop 2).take D).drop (k + 1 - 2) := by
  have hk : k < L.length := by omega
  rw [List.drop_eq_getElem_cons (by simp; omega)]
  congr 1
  · rw [pk_at hk]
    simp only [List.getElem_take, List.getElem_drop]
    congr 1
    omega
  · congr 1
    omega
theorem nm_ne (c : UInt8) (hc : ∀ j, j < 10 → nmL.getD j 0 ≠ c) (k : Nat) (hk : k < 10) : ((c.toNat : Int) == (((⟨#[110, 114, 116, 97, 98, 102, 118, 34, 39, 92]⟩ : ByteArray)[k]'hk).toNat : Int)) = false := by
  rw [beq_eq_false_iff_ne]
  intro e
  refine hc k hk (UInt8.toNat_inj.1 ?_)
  have h : ∀ j : Fin 10, nmL.getD j.1 0 = (⟨#[110, 114, 116, 97, 98, 102, 118, 34, 39, 92]⟩ : ByteArray)[j.1]'j.2 := by decide +kernel
  rw [h ⟨k, hk⟩]
  exact (Int.ofNat_inj.1 e).symm
def EscI (w : World) (iv : Value) (wr : World) : Prop := ∃ k d : Nat, k ≤ 10 ∧ iv = .int .i64 k ∧ wr = w.drewN d
theorem own_base {w : World} {B C : Nat} {v : Value} {l : List UInt8} (h : OwnB 5 w B v l) (hC : C ≤ B) : OwnB 5 w C v l := by
  refine ⟨h.1, ?_⟩
  rcases h.2 with h0 | ⟨g, cap, cur, hv, hb, hrest⟩
  · exact .inl h0
  · exact .inr ⟨g, cap, cur, hv, Nat.le_trans hC hb, hrest⟩
set_option maxRecDepth 20000 in
set_option maxHeartbeats 4000000 in
theorem esc_at120 (s : ByteArray) (by_ : Bool) (w : World) (hs : s.size ≤ 1000000) (h1 : 1 < s.size) (hp : PlainL s.data.toList) (hc : s[1]'h1 = 120) :
    Calls Tryz.prog 76 #[.string s, .bool by_] w (EscPost (digA by_ true 2 (s.data.toList.drop 2)) w) := by
  have HP := Lib.hid hp
  have hLl : s.data.toList.length = s.size := by simp
  have HL := Lib.hid hLl
  clear hp hLl
  have g1 : (1 : Int) < (s.size : Int) := by omega
  have g0 : (0 : Int) ≤ 1 := by omega
  have e120 : (((s[1]'h1).toNat : Int) == 120) = true := by rw [hc]; rfl
  have HC := Lib.hid hc
  clear hc
  go_enter Tryz.func76, Tryz.ntmps76
  go_wp2_with fail
  go_loopw [6] (fun iv wr => EscI w iv wr) (fun iv _ => 10 - (intOf iv).toNat)
  case atStart => exact ⟨0, 0, by omega, rfl, rfl⟩
  case round =>
    obtain ⟨k, d, hk, rfl, rfl⟩ := hrel
    by_cases hk10 : k < 10
    · have hne := nm_ne (s[1]'h1) (by rw [HC.out]; decide) k hk10
      have hk0 : (0 : Int) ≤ (k : Int) := by omega
      have hk1 : (k : Int) < 10 := by omega
      go_wp2
      go_quiet (fail)
      go_wp2
      go_roundw
      case rel => exact ⟨k + 1, _, by omega, by go_num, rfl⟩
      case measure => simp [intOf]; omega
    · have hk11 : (10 : Int) ≤ (k : Int) := by omega
      obtain ⟨k0, rfl⟩ : ∃ k0, k0 = k := ⟨_, rfl⟩
      clear hk10
      by_cases hlen : s.size < 2 + 2
      · have hld : decide ((s.size : Int) < 2 + 2) = true := by simp; omega
        have hld2 : decide ((s.size : Int) < 4) = true := by simp; omega
        go_wp2
        go_ret2
        refine .inl ⟨?_, rfl, below_dn (Below.refl _ _) _⟩
        unfold digA
        rw [if_pos (by rw [List.length_drop, HL.out]; omega)]
      · have hld : decide ((s.size : Int) < 2 + 2) = false := by simp; omega
        have hld2 : decide ((s.size : Int) < 4) = false := by simp; omega
        have hDA : Hid (digA by_ true 2 (s.data.toList.drop 2) = match hexV 0 ((s.data.toList.drop 2).take 2) with
          | none => none
          | some n => codedP n true by_ (2 + 2)) := by
          unfold digA
          rw [if_neg (by rw [List.length_drop, HL.out]; omega)]
          exact rfl
        obtain ⟨w1, hw1⟩ : ∃ w1, w1 = w.drewN d := ⟨_, rfl⟩
        have HB0 : Hid (Below w.heap.size w w1) := by rw [hw1]; exact below_dn (Below.refl _ _) _
        rw [← hw1]
        clear hw1
        go_wp2_with fail
        go_loopw [8, 9, 10] (fun nv iv _ wr => ∃ k acc : Nat, 2 ≤ k ∧ k ≤ 2 + 2 ∧ acc ≤ 4294967295 ∧ nv = .int .i64 acc ∧ iv = .int .i64 k ∧ Hid (acc < 16 ^ (k - 2)) ∧ Hid (hexV 0 ((s.data.toList.drop 2).take 2) = hexV acc (((s.data.toList.drop 2).take 2).drop (k - 2))) ∧ Hid (Below w.heap.size w wr)) (fun _ iv _ _ => 2 + 2 - (intOf iv).toNat)
        case atStart => exact ⟨2, 0, by omega, by omega, by omega, rfl, rfl, by simp [Hid], by simp [Hid], HB0⟩
        case round =>
          obtain ⟨k, acc, hk1, hk4, hacc, rfl, rfl, hlt, hhx, hbel⟩ := hrel
          by_cases hgo : k < 2 + 2
          · have hks : k < s.size := by omega
            have hgd : (k : Int) < 2 + 2 := by omega
            have hnx := dig_next (L := s.data.toList) (D := 2) hgo hk1 (by rw [HL.out]; omega)
            have hpk : pk s.data.toList k = s[k] := by rw [pk_at (by rw [HL.out]; omega)]; rfl
            rw [hpk] at hnx
            have HPL := Lib.hid (HP.out (s[k]) (by rw [← hpk, pk_at (by rw [HL.out]; omega)]; exact List.getElem_mem _)).1
            obtain ⟨z, hz⟩ : ∃ z : Int, z = bits .or .u8 ((s[k]).toNat : Int) 32 := ⟨_, rfl⟩
            have HZ := Lib.hid (hz.trans (or32 s[k]))
            have hcv := esc_text wr (s[k] ||| 32) z HZ.out
            have hz2 := hz.symm
            clear hz
            have HNX := Lib.hid hnx
            clear hnx hpk
            go_wp2_with fail
            refine (place_hexL (s[k] ||| 32) _).mono ?_
            rintro e w' ⟨r, hr, rfl, rfl⟩
            have hbel2 : Hid (Below w.heap.size w (wr.alloc (.cells #[.int .u8 z] 5))) := hbel.out.alloc hbel.out.size _
            clear hcv hz2
            cases hxd : hexD s[k] with
            | none =>
              have hr1 := hexOf_none HPL.out hxd hr
              subst hr1
              have HXD := Lib.hid hxd
              clear hxd hr
              go_wp2
              go_ret2
              refine .inl ⟨?_, rfl, hbel2.out⟩
              rw [hDA.out, hhx.out, HNX.out, hexV_none HXD.out]
            | some dd =>
              have hr1 := hexOf_some HPL.out hxd hr
              subst hr1
              have hd16 := hexD_lt hxd
              have HXD := Lib.hid hxd
              clear hxd hr
              have hnew : Hid (acc * 16 + dd < 16 ^ (k + 1 - 2)) := by
                have e : k + 1 - 2 = (k - 2) + 1 := by omega
                unfold Hid
                rw [e, Nat.pow_succ]
                have := hlt.out
                omega
              have hub : acc * 16 + dd ≤ 4294967295 := by
                have h5 := hnew.out
                have h6 : 16 ^ (k + 1 - 2) ≤ 16 ^ 8 := Nat.pow_le_pow_right (by omega) (by omega)
                have h7 : (16 : Nat) ^ 8 = 4294967296 := by decide
                omega
              have hO : Hid (hexV 0 ((s.data.toList.drop 2).take 2) = hexV (acc * 16 + dd) (((s.data.toList.drop 2).take 2).drop (k + 1 - 2))) := by
                unfold Hid
                rw [hhx.out, HNX.out, hexV_some HXD.out]
              have hdd0 : decide ((dd : Int) < 0) = false := by simp
              clear hlt hhx
              go_wp2
              go_roundw
              case rel => exact ⟨k + 1, acc * 16 + dd, by omega, by omega, hub, by go_num, by go_num, hnew, hO, hbel2⟩
              case measure => simp [intOf]; omega
          · obtain rfl : k = 2 + 2 := by omega
            have hV : Hid (hexV 0 ((s.data.toList.drop 2).take 2) = some acc) := by
              unfold Hid
              rw [hhx.out, List.drop_eq_nil_of_le (by rw [List.length_take, List.length_drop, HL.out]; omega)]
              rfl
            clear hlt hhx
            go_wp2_with fail
            refine (coded_esc acc (2 + 2) true by_ _ (by omega)).mono ?_
            have hAn : codedP acc true by_ (2 + 2) = digA by_ true 2 (s.data.toList.drop 2) := by rw [hDA.out, hV.out]
            rw [hAn]
            clear hAn
            rintro e w' (⟨ha, rfl, hb⟩ | ⟨p, kk, v, ha, rfl, ho, hb⟩)
            · have HA := Lib.hid ha
              have HB := Lib.hid (hbel.out.trans (hb.mono hbel.out.size))
              clear ha hb
              go_wp2
              go_ret2
              exact .inl ⟨HA.out, rfl, HB.out⟩
            · have HA := Lib.hid ha
              have HB := Lib.hid (hbel.out.trans (hb.mono hbel.out.size))
              have HO := Lib.hid (own_base ho hbel.out.size)
              clear ha hb ho
              go_wp2
              go_ret2
              exact .inr ⟨p, kk, v, HA.out, rfl, HO.out, HB.out⟩
set_option maxRecDepth 20000 in
set_option maxHeartbeats 4000000 in
theorem esc_at117 (s : ByteArray) (by_ : Bool) (w : World) (hs : s.size ≤ 1000000) (h1 : 1 < s.size) (hp : PlainL s.data.toList) (hc : s[1]'h1 = 117) :
    Calls Tryz.prog 76 #[.string s, .bool by_] w (EscPost (digA by_ false 4 (s.data.toList.drop 2)) w) := by
  have HP := Lib.hid hp
  have hLl : s.data.toList.length = s.size := by simp
  have HL := Lib.hid hLl
  clear hp hLl
  have g1 : (1 : Int) < (s.size : Int) := by omega
  have g0 : (0 : Int) ≤ 1 := by omega
  have e120 : (((s[1]'h1).toNat : Int) == 120) = false := by rw [hc]; rfl
  have e117 : (((s[1]'h1).toNat : Int) == 117) = true := by rw [hc]; rfl
  have HC := Lib.hid hc
  clear hc
  go_enter Tryz.func76, Tryz.ntmps76
  go_wp2_with fail
  go_loopw [6] (fun iv wr => EscI w iv wr) (fun iv _ => 10 - (intOf iv).toNat)
  case atStart => exact ⟨0, 0, by omega, rfl, rfl⟩
  case round =>
    obtain ⟨k, d, hk, rfl, rfl⟩ := hrel
    by_cases hk10 : k < 10
    · have hne := nm_ne (s[1]'h1) (by rw [HC.out]; decide) k hk10
      have hk0 : (0 : Int) ≤ (k : Int) := by omega
      have hk1 : (k : Int) < 10 := by omega
      go_wp2
      go_quiet (fail)
      go_wp2
      go_roundw
      case rel => exact ⟨k + 1, _, by omega, by go_num, rfl⟩
      case measure => simp [intOf]; omega
    · have hk11 : (10 : Int) ≤ (k : Int) := by omega
      obtain ⟨k0, rfl⟩ : ∃ k0, k0 = k := ⟨_, rfl⟩
      clear hk10
      by_cases hlen : s.size < 2 + 4
      · have hld : decide ((s.size : Int) < 2 + 4) = true := by simp; omega
        have hld2 : decide ((s.size : Int) < 6) = true := by simp; omega
        go_wp2
        go_ret2
        refine .inl ⟨?_, rfl, below_dn (Below.refl _ _) _⟩
        unfold digA
        rw [if_pos (by rw [List.length_drop, HL.out]; omega)]
      · have hld : decide ((s.size : Int) < 2 + 4) = false := by simp; omega
        have hld2 : decide ((s.size : Int) < 6) = false := by simp; omega
        have hDA : Hid (digA by_ false 4 (s.data.toList.drop 2) = match hexV 0 ((s.data.toList.drop 2).take 4) with
          | none => none
          | some n => codedP n false by_ (2 + 4)) := by
          unfold digA
          rw [if_neg (by rw [List.length_drop, HL.out]; omega)]
          exact rfl
        obtain ⟨w1, hw1⟩ : ∃ w1, w1 = w.drewN d := ⟨_, rfl⟩
        have HB0 : Hid (Below w.heap.size w w1) := by rw [hw1]; exact below_dn (Below.refl _ _) _
        rw [← hw1]
        clear hw1
        go_wp2_with fail
        go_loopw [8, 9, 10] (fun nv iv _ wr => ∃ k acc : Nat, 2 ≤ k ∧ k ≤ 2 + 4 ∧ acc ≤ 4294967295 ∧ nv = .int .i64 acc ∧ iv = .int .i64 k ∧ Hid (acc < 16 ^ (k - 2)) ∧ Hid (hexV 0 ((s.data.toList.drop 2).take 4) = hexV acc (((s.data.toList.drop 2).take 4).drop (k - 2))) ∧ Hid (Below w.heap.size w wr)) (fun _ iv _ _ => 2 + 4 - (intOf iv).toNat)
        case atStart => exact ⟨2, 0, by omega, by omega, by omega, rfl, rfl, by simp [Hid], by simp [Hid], HB0⟩
        case round =>
          obtain ⟨k, acc, hk1, hk4, hacc, rfl, rfl, hlt, hhx, hbel⟩ := hrel
          by_cases hgo : k < 2 + 4
          · have hks : k < s.size := by omega
            have hgd : (k : Int) < 2 + 4 := by omega
            have hnx := dig_next (L := s.data.toList) (D := 4) hgo hk1 (by rw [HL.out]; omega)
            have hpk : pk s.data.toList k = s[k] := by rw [pk_at (by rw [HL.out]; omega)]; rfl
            rw [hpk] at hnx
            have HPL := Lib.hid (HP.out (s[k]) (by rw [← hpk, pk_at (by rw [HL.out]; omega)]; exact List.getElem_mem _)).1
            obtain ⟨z, hz⟩ : ∃ z : Int, z = bits .or .u8 ((s[k]).toNat : Int) 32 := ⟨_, rfl⟩
            have HZ := Lib.hid (hz.trans (or32 s[k]))
            have hcv := esc_text wr (s[k] ||| 32) z HZ.out
            have hz2 := hz.symm
            clear hz
            have HNX := Lib.hid hnx
            clear hnx hpk
            go_wp2_with fail
            refine (place_hexL (s[k] ||| 32) _).mono ?_
            rintro e w' ⟨r, hr, rfl, rfl⟩
            have hbel2 : Hid (Below w.heap.size w (wr.alloc (.cells #[.int .u8 z] 5))) := hbel.out.alloc hbel.out.size _
            clear hcv hz2
            cases hxd : hexD s[k] with
            | none =>
              have hr1 := hexOf_none HPL.out hxd hr
              subst hr1
              have HXD := Lib.hid hxd
              clear hxd hr
              go_wp2
              go_ret2
              refine .inl ⟨?_, rfl, hbel2.out⟩
              rw [hDA.out, hhx.out, HNX.out, hexV_none HXD.out]
            | some dd =>
              have hr1 := hexOf_some HPL.out hxd hr
              subst hr1
              have hd16 := hexD_lt hxd
              have HXD := Lib.hid hxd
              clear hxd hr
              have hnew : Hid (acc * 16 + dd < 16 ^ (k + 1 - 2)) := by
                have e : k + 1 - 2 = (k - 2) + 1 := by omega
                unfold Hid
                rw [e, Nat.pow_succ]
                have := hlt.out
                omega
              have hub : acc * 16 + dd ≤ 4294967295 := by
                have h5 := hnew.out
                have h6 : 16 ^ (k + 1 - 2) ≤ 16 ^ 8 := Nat.pow_le_pow_right (by omega) (by omega)
                have h7 : (16 : Nat) ^ 8 = 4294967296 := by decide
                omega
              have hO : Hid (hexV 0 ((s.data.toList.drop 2).take 4) = hexV (acc * 16 + dd) (((s.data.toList.drop 2).take 4).drop (k + 1 - 2))) := by
                unfold Hid
                rw [hhx.out, HNX.out, hexV_some HXD.out]
              have hdd0 : decide ((dd : Int) < 0) = false := by simp
              clear hlt hhx
              go_wp2
              go_roundw
              case rel => exact ⟨k + 1, acc * 16 + dd, by omega, by omega, hub, by go_num, by go_num, hnew, hO, hbel2⟩
              case measure => simp [intOf]; omega
          · obtain rfl : k = 2 + 4 := by omega
            have hV : Hid (hexV 0 ((s.data.toList.drop 2).take 4) = some acc) := by
              unfold Hid
              rw [hhx.out, List.drop_eq_nil_of_le (by rw [List.length_take, List.length_drop, HL.out]; omega)]
              rfl
            clear hlt hhx
            go_wp2_with fail
            refine (coded_esc acc (2 + 4) false by_ _ (by omega)).mono ?_
            have hAn : codedP acc false by_ (2 + 4) = digA by_ false 4 (s.data.toList.drop 2) := by rw [hDA.out, hV.out]
            rw [hAn]
            clear hAn
            rintro e w' (⟨ha, rfl, hb⟩ | ⟨p, kk, v, ha, rfl, ho, hb⟩)
            · have HA := Lib.hid ha
              have HB := Lib.hid (hbel.out.trans (hb.mono hbel.out.size))
              clear ha hb
              go_wp2
              go_ret2
              exact .inl ⟨HA.out, rfl, HB.out⟩
            · have HA := Lib.hid ha
              have HB := Lib.hid (hbel.out.trans (hb.mono hbel.out.size))
              have HO := Lib.hid (own_base ho hbel.out.size)
              clear ha hb ho
              go_wp2
              go_ret2
              exact .inr ⟨p, kk, v, HA.out, rfl, HO.out, HB.out⟩
set_option maxRecDepth 20000 in
set_option maxHeartbeats 4000000 in
theorem esc_at85 (s : ByteArray) (by_ : Bool) (w : World) (hs : s.size ≤ 1000000) (h1 : 1 < s.size) (hp : PlainL s.data.toList) (hc : s[1]'h1 = 85) :
    Calls Tryz.prog 76 #[.string s, .bool by_] w (EscPost (digA by_ false 8 (s.data.toList.drop 2)) w) := by
  have HP := Lib.hid hp
  have hLl : s.data.toList.length = s.size := by simp
  have HL := Lib.hid hLl
  clear hp hLl
  have g1 : (1 : Int) < (s.size : Int) := by omega
  have g0 : (0 : Int) ≤ 1 := by omega
  have e120 : (((s[1]'h1).toNat : Int) == 120) = false := by rw [hc]; rfl
  have e117 : (((s[1]'h1).toNat : Int) == 117) = false := by rw [hc]; rfl
  have e85 : (((s[1]'h1).toNat : Int) == 85) = true := by rw [hc]; rfl
  have HC := Lib.hid hc
  clear hc
  go_enter Tryz.func76, Tryz.ntmps76
  go_wp2_with fail
  go_loopw [6] (fun iv wr => EscI w iv wr) (fun iv _ => 10 - (intOf iv).toNat)
  case atStart => exact ⟨0, 0, by omega, rfl, rfl⟩
  case round =>
    obtain ⟨k, d, hk, rfl, rfl⟩ := hrel
    by_cases hk10 : k < 10
    · have hne := nm_ne (s[1]'h1) (by rw [HC.out]; decide) k hk10
      have hk0 : (0 : Int) ≤ (k : Int) := by omega
      have hk1 : (k : Int) < 10 := by omega
      go_wp2
      go_quiet (fail)
      go_wp2
      go_roundw
      case rel => exact ⟨k + 1, _, by omega, by go_num, rfl⟩
      case measure => simp [intOf]; omega
    · have hk11 : (10 : Int) ≤ (k : Int) := by omega
      obtain ⟨k0, rfl⟩ : ∃ k0, k0 = k := ⟨_, rfl⟩
      clear hk10
      by_cases hlen : s.size < 2 + 8
      · have hld : decide ((s.size : Int) < 2 + 8) = true := by simp; omega
        have hld2 : decide ((s.size : Int) < 10) = true := by simp; omega
        go_wp2
        go_ret2
        refine .inl ⟨?_, rfl, below_dn (Below.refl _ _) _⟩
        unfold digA
        rw [if_pos (by rw [List.length_drop, HL.out]; omega)]
      · have hld : decide ((s.size : Int) < 2 + 8) = false := by simp; omega
        have hld2 : decide ((s.size : Int) < 10) = false := by simp; omega
        have hDA : Hid (digA by_ false 8 (s.data.toList.drop 2) = match hexV 0 ((s.data.toList.drop 2).take 8) with
          | none => none
          | some n => codedP n false by_ (2 + 8)) := by
          unfold digA
          rw [if_neg (by rw [List.length_drop, HL.out]; omega)]
          exact rfl
        obtain ⟨w1, hw1⟩ : ∃ w1, w1 = w.drewN d := ⟨_, rfl⟩
        have HB0 : Hid (Below w.heap.size w w1) := by rw [hw1]; exact below_dn (Below.refl _ _) _
        rw [← hw1]
        clear hw1
        go_wp2_with fail
        go_loopw [8, 9, 10] (fun nv iv _ wr => ∃ k acc : Nat, 2 ≤ k ∧ k ≤ 2 + 8 ∧ acc ≤ 4294967295 ∧ nv = .int .i64 acc ∧ iv = .int .i64 k ∧ Hid (acc < 16 ^ (k - 2)) ∧ Hid (hexV 0 ((s.data.toList.drop 2).take 8) = hexV acc (((s.data.toList.drop 2).take 8).drop (k - 2))) ∧ Hid (Below w.heap.size w wr)) (fun _ iv _ _ => 2 + 8 - (intOf iv).toNat)
        case atStart => exact ⟨2, 0, by omega, by omega, by omega, rfl, rfl, by simp [Hid], by simp [Hid], HB0⟩
        case round =>
          obtain ⟨k, acc, hk1, hk4, hacc, rfl, rfl, hlt, hhx, hbel⟩ := hrel
          by_cases hgo : k < 2 + 8
          · have hks : k < s.size := by omega
            have hgd : (k : Int) < 2 + 8 := by omega
            have hnx := dig_next (L := s.data.toList) (D := 8) hgo hk1 (by rw [HL.out]; omega)
            have hpk : pk s.data.toList k = s[k] := by rw [pk_at (by rw [HL.out]; omega)]; rfl
            rw [hpk] at hnx
            have HPL := Lib.hid (HP.out (s[k]) (by rw [← hpk, pk_at (by rw [HL.out]; omega)]; exact List.getElem_mem _)).1
            obtain ⟨z, hz⟩ : ∃ z : Int, z = bits .or .u8 ((s[k]).toNat : Int) 32 := ⟨_, rfl⟩
            have HZ := Lib.hid (hz.trans (or32 s[k]))
            have hcv := esc_text wr (s[k] ||| 32) z HZ.out
            have hz2 := hz.symm
            clear hz
            have HNX := Lib.hid hnx
            clear hnx hpk
            go_wp2_with fail
            refine (place_hexL (s[k] ||| 32) _).mono ?_
            rintro e w' ⟨r, hr, rfl, rfl⟩
            have hbel2 : Hid (Below w.heap.size w (wr.alloc (.cells #[.int .u8 z] 5))) := hbel.out.alloc hbel.out.size _
            clear hcv hz2
            cases hxd : hexD s[k] with
            | none =>
              have hr1 := hexOf_none HPL.out hxd hr
              subst hr1
              have HXD := Lib.hid hxd
              clear hxd hr
              go_wp2
              go_ret2
              refine .inl ⟨?_, rfl, hbel2.out⟩
              rw [hDA.out, hhx.out, HNX.out, hexV_none HXD.out]
            | some dd =>
              have hr1 := hexOf_some HPL.out hxd hr
              subst hr1
              have hd16 := hexD_lt hxd
              have HXD := Lib.hid hxd
              clear hxd hr
              have hnew : Hid (acc * 16 + dd < 16 ^ (k + 1 - 2)) := by
                have e : k + 1 - 2 = (k - 2) + 1 := by omega
                unfold Hid
                rw [e, Nat.pow_succ]
                have := hlt.out
                omega
              have hub : acc * 16 + dd ≤ 4294967295 := by
                have h5 := hnew.out
                have h6 : 16 ^ (k + 1 - 2) ≤ 16 ^ 8 := Nat.pow_le_pow_right (by omega) (by omega)
                have h7 : (16 : Nat) ^ 8 = 4294967296 := by decide
                omega
              have hO : Hid (hexV 0 ((s.data.toList.drop 2).take 8) = hexV (acc * 16 + dd) (((s.data.toList.drop 2).take 8).drop (k + 1 - 2))) := by
                unfold Hid
                rw [hhx.out, HNX.out, hexV_some HXD.out]
              have hdd0 : decide ((dd : Int) < 0) = false := by simp
              clear hlt hhx
              go_wp2
              go_roundw
              case rel => exact ⟨k + 1, acc * 16 + dd, by omega, by omega, hub, by go_num, by go_num, hnew, hO, hbel2⟩
              case measure => simp [intOf]; omega
          · obtain rfl : k = 2 + 8 := by omega
            have hV : Hid (hexV 0 ((s.data.toList.drop 2).take 8) = some acc) := by
              unfold Hid
              rw [hhx.out, List.drop_eq_nil_of_le (by rw [List.length_take, List.length_drop, HL.out]; omega)]
              rfl
            clear hlt hhx
            go_wp2_with fail
            refine (coded_esc acc (2 + 8) false by_ _ (by omega)).mono ?_
            have hAn : codedP acc false by_ (2 + 8) = digA by_ false 8 (s.data.toList.drop 2) := by rw [hDA.out, hV.out]
            rw [hAn]
            clear hAn
            rintro e w' (⟨ha, rfl, hb⟩ | ⟨p, kk, v, ha, rfl, ho, hb⟩)
            · have HA := Lib.hid ha
              have HB := Lib.hid (hbel.out.trans (hb.mono hbel.out.size))
              clear ha hb
              go_wp2
              go_ret2
              exact .inl ⟨HA.out, rfl, HB.out⟩
            · have HA := Lib.hid ha
              have HB := Lib.hid (hbel.out.trans (hb.mono hbel.out.size))
              have HO := Lib.hid (own_base ho hbel.out.size)
              clear ha hb ho
              go_wp2
              go_ret2
              exact .inr ⟨p, kk, v, HA.out, rfl, HO.out, HB.out⟩
end Go.Proofs.YtghendoiohfolaaGreatDoor
