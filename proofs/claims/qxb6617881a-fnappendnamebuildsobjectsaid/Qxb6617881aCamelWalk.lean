/-
  THE WALK OF 'zzCamelOfSnake' (8).
-/
import Derived.Test.Qxb6617881aEqWalk
namespace Go.Proofs.Qxb6617881a
open Go.RowKit

/-- What a function that answers bytes of its own leaves. -/
def OwnPost (B : Nat) (w : World) (l : List UInt8) (e : Ending) (w' : World) : Prop := ∃ v, e = .returned v ∧ Owns w' B v l ∧ Below B w w'

theorem OwnPost.mk {B : Nat} {w : World} {l : List UInt8} {e : Ending} {w' : World} {v : Value} (h0 : e = .returned v) (h1 : Owns w' B v l) (h2 : Below B w w') : OwnPost B w l e w' := ⟨v, h0, h1, h2⟩

/-- The outer loop's relation. -/
def CamelRel (N : List UInt8) (B : Nat) (w : World) (so ss sf : Value) (wr : World) : Prop :=
  ∃ (out : List UInt8) (st : Nat) (first : Bool), st ≤ N.length + 1 ∧ ss = .int .i64 st ∧ sf = .bool first ∧ Owns wr B so out ∧ Below B w wr ∧ Pl.Pieces N out first st

set_option maxHeartbeats 1600000 in
theorem camel_any (s : ByteArray) (w : World) (hs : s.size ≤ 1048576) :
    Calls Try.prog 8 #[.string s] w fun e w' => OwnPost w.heap.size w (Pl.camel false s.data.toList) e w' := by
  obtain ⟨i0, hi0, hz0, hz1, hz2⟩ := info_parts Try.info5
  obtain ⟨N, hN⟩ : ∃ N, N = s.data.toList := ⟨_, rfl⟩
  rw [← hN]
  have HLen : Hid (N.length = s.size) := by rw [hN]; exact len_data s
  have HBy : Hid (∀ j (hj : j < s.size), N.getD j 0 = s[j]) := by rw [hN]; exact fun j hj => byte_getD s j hj
  have HN : Hid _ := hN
  obtain ⟨B, hB⟩ : ∃ B, B = w.heap.size := ⟨_, rfl⟩
  rw [← hB]
  have HB : Hid (B = w.heap.size) := hB
  clear hN hB
  go_enter Try.func8, Try.ntmps8
  go_wp2_with (at_make; refine wpList_make_own _ rfl _ _ 22 rfl B 5 i0 (.int .u8 0) 1 Try.underlying22 hi0 hz0 hz1 _ _ _ s.size rfl rfl rfl ?mb2 ?mb3 ?mb4 ?_)
  case mb2 => rw [hz2]; omega
  case mb3 => unfold maxLen; omega
  case mb4 => rw [HB.out]; exact Nat.le_refl _
  intro W1 hown1 hgrow1
  have HB1 : Hid (Below B w W1) := (Below.refl _ _).grown hgrow1 (by rw [HB.out]; exact Nat.le_refl _) (fun k hk => by cases hk)
  have HO1 : Hid (Owns W1 B (.slice (some ⟨w.heap.size, 0, none⟩) 0 s.size) []) := hown1
  clear hown1 hgrow1
  go_wp2
  go_loopw [3, 4, 5] (fun so ss sf wr => CamelRel N B w so ss sf wr) (fun _ ss _ _ => s.size + 1 - (intOf ss).toNat)
  case atStart => exact ⟨[], 0, true, Nat.zero_le _, rfl, rfl, HO1.out, HB1.out, Pl.Pieces.start N⟩
  case round =>
    obtain ⟨out, st, first, hst, rfl, rfl, hO, hbr, hP⟩ := hrel
    rw [HLen.out] at hst
    have HO : Hid (Owns wr B _ out) := hO
    have HBr : Hid (Below B w wr) := hbr
    have HP : Hid (Pl.Pieces N out first st) := hP
    have hol : out.length ≤ st := hP.2
    clear hO hbr hP
    by_cases hlt : st ≤ s.size
    · go_wp2
      go_loop [6] (fun se => ∃ e : Nat, st ≤ e ∧ e ≤ s.size ∧ se = .int .i64 e ∧ Hid (∀ j, st ≤ j → j < e → (N.getD j 0).toNat ≠ 95)) (fun se => s.size - (intOf se).toNat)
      case atStart => exact ⟨st, Nat.le_refl _, hlt, rfl, fun j h1 h2 => absurd h1 (by omega)⟩
      case round =>
        obtain ⟨e, he1, he2, rfl, HFree⟩ := hrel
        by_cases hen : e < s.size
        · by_cases hus : (s[e].toNat : Int) = 95
          · have hub : ((s[e].toNat : Int) == 95) = true := by rw [beq_iff_eq]; exact hus
            have HEnd : Hid (e = N.length ∨ (e < N.length ∧ (N.getD e 0).toNat = 95)) := Or.inr ⟨by rw [HLen.out]; exact hen, by rw [HBy.out e hen]; omega⟩
            clear hus
            by_cases hse : st < e
            · have hsts : st < s.size := by omega
              have HPP : Hid (Pl.Pieces N (out ++ [Pl.cap (!first) (N.getD st 0)] ++ (N.drop (st + 1)).take (e - (st + 1))) false (e + 1)) := Pl.Pieces.piece HP.out hse (by rw [HLen.out]; omega) HFree.out HEnd.out
              cases first
              · by_cases h97 : 97 ≤ (s[st].toNat : Int)
                · by_cases h122 : (s[st].toNat : Int) ≤ 122
                  · have HC : Hid (((Pl.cap (!false) (N.getD st 0)).toNat : Int) = (s[st].toNat : Int) - 32) := by
                      show _ = _
                      rw [Pl.cap_sub (by rw [HBy.out st hsts]; exact ⟨rfl, by omega, by omega⟩), HBy.out st hsts]
                    go_wp2_with (at_builtin; refine app_one _ rfl (.tmp 46) (.tmp 48) rfl B _ out rfl (HO.out.alloc _) ⟨wr.heap.size, 0, none⟩ _ (Pl.cap (!false) (N.getD st 0)) rfl (val_int HC.out.symm) (cell_one_new _ _ _) ?k0a1 ?k0a2 w ?k0a3 ?_)
                    case k0a1 => omega
                    case k0a2 => have := HBr.out.size; have := HB.out; first | omega | (simp; omega)
                    case k0a3 => exact HBr.out.alloc (by have := HBr.out.size; have := HB.out; omega) _
                    intro v2 W2 HO2 HB2
                    go_wp2_with (at_builtin; refine app_str _ rfl (.tmp 50) (.tmp 55) rfl B _ (out ++ [Pl.cap (!false) (N.getD st 0)]) rfl HO2.out (s.extract (st + 1) e) rfl ?k0b1 ?k0b2 w HB2.out ?_)
                    case k0b1 => simp; omega
                    case k0b2 => have := HB2.out.size; have := HB.out; omega
                    intro v3 W3 HO3' HB3
                    have HO3 : Hid (Owns W3 B v3 (out ++ [Pl.cap (!false) (N.getD st 0)] ++ (N.drop (st + 1)).take (e - (st + 1)))) := Owns.cast HO3'.out (by rw [HN.out]; simp)
                    clear HO3' HO2 HB2
                    go_wp2
                    go_roundw
                    case rel => exact ⟨_, e + 1, false, by have := HLen.out; omega, by go_num, rfl, HO3.out, HB3.out, HPP.out⟩
                    case measure => simp [intOf]; omega
                  · have HC : Hid (((Pl.cap (!false) (N.getD st 0)).toNat : Int) = (s[st].toNat : Int)) := by
                      show _ = _
                      rw [Pl.cap_same (by rw [HBy.out st hsts]; intro h; omega), HBy.out st hsts]
                    go_wp2_with (at_builtin; refine app_one _ rfl (.tmp 46) (.tmp 48) rfl B _ out rfl (HO.out.alloc _) ⟨wr.heap.size, 0, none⟩ _ (Pl.cap (!false) (N.getD st 0)) rfl (val_int HC.out.symm) (cell_one_new _ _ _) ?k1a1 ?k1a2 w ?k1a3 ?_)
                    case k1a1 => omega
                    case k1a2 => have := HBr.out.size; have := HB.out; first | omega | (simp; omega)
                    case k1a3 => exact HBr.out.alloc (by have := HBr.out.size; have := HB.out; omega) _
                    intro v2 W2 HO2 HB2
                    go_wp2_with (at_builtin; refine app_str _ rfl (.tmp 50) (.tmp 55) rfl B _ (out ++ [Pl.cap (!false) (N.getD st 0)]) rfl HO2.out (s.extract (st + 1) e) rfl ?k1b1 ?k1b2 w HB2.out ?_)
                    case k1b1 => simp; omega
                    case k1b2 => have := HB2.out.size; have := HB.out; omega
                    intro v3 W3 HO3' HB3
                    have HO3 : Hid (Owns W3 B v3 (out ++ [Pl.cap (!false) (N.getD st 0)] ++ (N.drop (st + 1)).take (e - (st + 1)))) := Owns.cast HO3'.out (by rw [HN.out]; simp)
                    clear HO3' HO2 HB2
                    go_wp2
                    go_roundw
                    case rel => exact ⟨_, e + 1, false, by have := HLen.out; omega, by go_num, rfl, HO3.out, HB3.out, HPP.out⟩
                    case measure => simp [intOf]; omega
                · have HC : Hid (((Pl.cap (!false) (N.getD st 0)).toNat : Int) = (s[st].toNat : Int)) := by
                    show _ = _
                    rw [Pl.cap_same (by rw [HBy.out st hsts]; intro h; omega), HBy.out st hsts]
                  go_wp2_with (at_builtin; refine app_one _ rfl (.tmp 46) (.tmp 48) rfl B _ out rfl (HO.out.alloc _) ⟨wr.heap.size, 0, none⟩ _ (Pl.cap (!false) (N.getD st 0)) rfl (val_int HC.out.symm) (cell_one_new _ _ _) ?k2a1 ?k2a2 w ?k2a3 ?_)
                  case k2a1 => omega
                  case k2a2 => have := HBr.out.size; have := HB.out; first | omega | (simp; omega)
                  case k2a3 => exact HBr.out.alloc (by have := HBr.out.size; have := HB.out; omega) _
                  intro v2 W2 HO2 HB2
                  go_wp2_with (at_builtin; refine app_str _ rfl (.tmp 50) (.tmp 55) rfl B _ (out ++ [Pl.cap (!false) (N.getD st 0)]) rfl HO2.out (s.extract (st + 1) e) rfl ?k2b1 ?k2b2 w HB2.out ?_)
                  case k2b1 => simp; omega
                  case k2b2 => have := HB2.out.size; have := HB.out; omega
                  intro v3 W3 HO3' HB3
                  have HO3 : Hid (Owns W3 B v3 (out ++ [Pl.cap (!false) (N.getD st 0)] ++ (N.drop (st + 1)).take (e - (st + 1)))) := Owns.cast HO3'.out (by rw [HN.out]; simp)
                  clear HO3' HO2 HB2
                  go_wp2
                  go_roundw
                  case rel => exact ⟨_, e + 1, false, by have := HLen.out; omega, by go_num, rfl, HO3.out, HB3.out, HPP.out⟩
                  case measure => simp [intOf]; omega
              · have HC : Hid (((Pl.cap (!true) (N.getD st 0)).toNat : Int) = (s[st].toNat : Int)) := by
                  show _ = _
                  rw [Pl.cap_same (by simp), HBy.out st hsts]
                go_wp2_with (at_builtin; refine app_one _ rfl (.tmp 46) (.tmp 48) rfl B _ out rfl (HO.out.alloc _) ⟨wr.heap.size, 0, none⟩ _ (Pl.cap (!true) (N.getD st 0)) rfl (val_int HC.out.symm) (cell_one_new _ _ _) ?k3a1 ?k3a2 w ?k3a3 ?_)
                case k3a1 => omega
                case k3a2 => have := HBr.out.size; have := HB.out; first | omega | (simp; omega)
                case k3a3 => exact HBr.out.alloc (by have := HBr.out.size; have := HB.out; omega) _
                intro v2 W2 HO2 HB2
                go_wp2_with (at_builtin; refine app_str _ rfl (.tmp 50) (.tmp 55) rfl B _ (out ++ [Pl.cap (!true) (N.getD st 0)]) rfl HO2.out (s.extract (st + 1) e) rfl ?k3b1 ?k3b2 w HB2.out ?_)
                case k3b1 => simp; omega
                case k3b2 => have := HB2.out.size; have := HB.out; omega
                intro v3 W3 HO3' HB3
                have HO3 : Hid (Owns W3 B v3 (out ++ [Pl.cap (!true) (N.getD st 0)] ++ (N.drop (st + 1)).take (e - (st + 1)))) := Owns.cast HO3'.out (by rw [HN.out]; simp)
                clear HO3' HO2 HB2
                go_wp2
                go_roundw
                case rel => exact ⟨_, e + 1, false, by have := HLen.out; omega, by go_num, rfl, HO3.out, HB3.out, HPP.out⟩
                case measure => simp [intOf]; omega
            · obtain rfl : e = st := by omega
              have HPP : Hid (Pl.Pieces N out false (e + 1)) := Pl.Pieces.bare HP.out HEnd.out
              go_wp2
              go_roundw
              case rel => exact ⟨out, e + 1, false, by have := HLen.out; omega, by go_num, rfl, HO.out, HBr.out, HPP.out⟩
              case measure => simp [intOf]; omega
          · have hub : ((s[e].toNat : Int) == 95) = false := by rw [beq_eq_false_iff_ne]; exact hus
            have HX : Hid (∀ j, st ≤ j → j < e + 1 → (N.getD j 0).toNat ≠ 95) := fun j h1 h2 => by
              by_cases q : j = e
              · rw [q, HBy.out e hen]; omega
              · exact HFree.out j h1 (by omega)
            clear hus
            go_wp2
            go_round
            case rel => exact ⟨e + 1, by omega, by omega, by go_num, HX⟩
            case measure => simp [intOf]; omega
        · have HEnd : Hid (e = N.length ∨ (e < N.length ∧ (N.getD e 0).toNat = 95)) := Or.inl (by rw [HLen.out]; omega)
          by_cases hse : st < e
          · have hsts : st < s.size := by omega
            have HPP : Hid (Pl.Pieces N (out ++ [Pl.cap (!first) (N.getD st 0)] ++ (N.drop (st + 1)).take (e - (st + 1))) false (e + 1)) := Pl.Pieces.piece HP.out hse (by rw [HLen.out]; omega) HFree.out HEnd.out
            cases first
            · by_cases h97 : 97 ≤ (s[st].toNat : Int)
              · by_cases h122 : (s[st].toNat : Int) ≤ 122
                · have HC : Hid (((Pl.cap (!false) (N.getD st 0)).toNat : Int) = (s[st].toNat : Int) - 32) := by
                    show _ = _
                    rw [Pl.cap_sub (by rw [HBy.out st hsts]; exact ⟨rfl, by omega, by omega⟩), HBy.out st hsts]
                  go_wp2_with (at_builtin; refine app_one _ rfl (.tmp 46) (.tmp 48) rfl B _ out rfl (HO.out.alloc _) ⟨wr.heap.size, 0, none⟩ _ (Pl.cap (!false) (N.getD st 0)) rfl (val_int HC.out.symm) (cell_one_new _ _ _) ?k4a1 ?k4a2 w ?k4a3 ?_)
                  case k4a1 => omega
                  case k4a2 => have := HBr.out.size; have := HB.out; first | omega | (simp; omega)
                  case k4a3 => exact HBr.out.alloc (by have := HBr.out.size; have := HB.out; omega) _
                  intro v2 W2 HO2 HB2
                  go_wp2_with (at_builtin; refine app_str _ rfl (.tmp 50) (.tmp 55) rfl B _ (out ++ [Pl.cap (!false) (N.getD st 0)]) rfl HO2.out (s.extract (st + 1) e) rfl ?k4b1 ?k4b2 w HB2.out ?_)
                  case k4b1 => simp; omega
                  case k4b2 => have := HB2.out.size; have := HB.out; omega
                  intro v3 W3 HO3' HB3
                  have HO3 : Hid (Owns W3 B v3 (out ++ [Pl.cap (!false) (N.getD st 0)] ++ (N.drop (st + 1)).take (e - (st + 1)))) := Owns.cast HO3'.out (by rw [HN.out]; simp)
                  clear HO3' HO2 HB2
                  go_wp2
                  go_roundw
                  case rel => exact ⟨_, e + 1, false, by have := HLen.out; omega, by go_num, rfl, HO3.out, HB3.out, HPP.out⟩
                  case measure => simp [intOf]; omega
                · have HC : Hid (((Pl.cap (!false) (N.getD st 0)).toNat : Int) = (s[st].toNat : Int)) := by
                    show _ = _
                    rw [Pl.cap_same (by rw [HBy.out st hsts]; intro h; omega), HBy.out st hsts]
                  go_wp2_with (at_builtin; refine app_one _ rfl (.tmp 46) (.tmp 48) rfl B _ out rfl (HO.out.alloc _) ⟨wr.heap.size, 0, none⟩ _ (Pl.cap (!false) (N.getD st 0)) rfl (val_int HC.out.symm) (cell_one_new _ _ _) ?k5a1 ?k5a2 w ?k5a3 ?_)
                  case k5a1 => omega
                  case k5a2 => have := HBr.out.size; have := HB.out; first | omega | (simp; omega)
                  case k5a3 => exact HBr.out.alloc (by have := HBr.out.size; have := HB.out; omega) _
                  intro v2 W2 HO2 HB2
                  go_wp2_with (at_builtin; refine app_str _ rfl (.tmp 50) (.tmp 55) rfl B _ (out ++ [Pl.cap (!false) (N.getD st 0)]) rfl HO2.out (s.extract (st + 1) e) rfl ?k5b1 ?k5b2 w HB2.out ?_)
                  case k5b1 => simp; omega
                  case k5b2 => have := HB2.out.size; have := HB.out; omega
                  intro v3 W3 HO3' HB3
                  have HO3 : Hid (Owns W3 B v3 (out ++ [Pl.cap (!false) (N.getD st 0)] ++ (N.drop (st + 1)).take (e - (st + 1)))) := Owns.cast HO3'.out (by rw [HN.out]; simp)
                  clear HO3' HO2 HB2
                  go_wp2
                  go_roundw
                  case rel => exact ⟨_, e + 1, false, by have := HLen.out; omega, by go_num, rfl, HO3.out, HB3.out, HPP.out⟩
                  case measure => simp [intOf]; omega
              · have HC : Hid (((Pl.cap (!false) (N.getD st 0)).toNat : Int) = (s[st].toNat : Int)) := by
                  show _ = _
                  rw [Pl.cap_same (by rw [HBy.out st hsts]; intro h; omega), HBy.out st hsts]
                go_wp2_with (at_builtin; refine app_one _ rfl (.tmp 46) (.tmp 48) rfl B _ out rfl (HO.out.alloc _) ⟨wr.heap.size, 0, none⟩ _ (Pl.cap (!false) (N.getD st 0)) rfl (val_int HC.out.symm) (cell_one_new _ _ _) ?k6a1 ?k6a2 w ?k6a3 ?_)
                case k6a1 => omega
                case k6a2 => have := HBr.out.size; have := HB.out; first | omega | (simp; omega)
                case k6a3 => exact HBr.out.alloc (by have := HBr.out.size; have := HB.out; omega) _
                intro v2 W2 HO2 HB2
                go_wp2_with (at_builtin; refine app_str _ rfl (.tmp 50) (.tmp 55) rfl B _ (out ++ [Pl.cap (!false) (N.getD st 0)]) rfl HO2.out (s.extract (st + 1) e) rfl ?k6b1 ?k6b2 w HB2.out ?_)
                case k6b1 => simp; omega
                case k6b2 => have := HB2.out.size; have := HB.out; omega
                intro v3 W3 HO3' HB3
                have HO3 : Hid (Owns W3 B v3 (out ++ [Pl.cap (!false) (N.getD st 0)] ++ (N.drop (st + 1)).take (e - (st + 1)))) := Owns.cast HO3'.out (by rw [HN.out]; simp)
                clear HO3' HO2 HB2
                go_wp2
                go_roundw
                case rel => exact ⟨_, e + 1, false, by have := HLen.out; omega, by go_num, rfl, HO3.out, HB3.out, HPP.out⟩
                case measure => simp [intOf]; omega
            · have HC : Hid (((Pl.cap (!true) (N.getD st 0)).toNat : Int) = (s[st].toNat : Int)) := by
                show _ = _
                rw [Pl.cap_same (by simp), HBy.out st hsts]
              go_wp2_with (at_builtin; refine app_one _ rfl (.tmp 46) (.tmp 48) rfl B _ out rfl (HO.out.alloc _) ⟨wr.heap.size, 0, none⟩ _ (Pl.cap (!true) (N.getD st 0)) rfl (val_int HC.out.symm) (cell_one_new _ _ _) ?k7a1 ?k7a2 w ?k7a3 ?_)
              case k7a1 => omega
              case k7a2 => have := HBr.out.size; have := HB.out; first | omega | (simp; omega)
              case k7a3 => exact HBr.out.alloc (by have := HBr.out.size; have := HB.out; omega) _
              intro v2 W2 HO2 HB2
              go_wp2_with (at_builtin; refine app_str _ rfl (.tmp 50) (.tmp 55) rfl B _ (out ++ [Pl.cap (!true) (N.getD st 0)]) rfl HO2.out (s.extract (st + 1) e) rfl ?k7b1 ?k7b2 w HB2.out ?_)
              case k7b1 => simp; omega
              case k7b2 => have := HB2.out.size; have := HB.out; omega
              intro v3 W3 HO3' HB3
              have HO3 : Hid (Owns W3 B v3 (out ++ [Pl.cap (!true) (N.getD st 0)] ++ (N.drop (st + 1)).take (e - (st + 1)))) := Owns.cast HO3'.out (by rw [HN.out]; simp)
              clear HO3' HO2 HB2
              go_wp2
              go_roundw
              case rel => exact ⟨_, e + 1, false, by have := HLen.out; omega, by go_num, rfl, HO3.out, HB3.out, HPP.out⟩
              case measure => simp [intOf]; omega
          · obtain rfl : e = st := by omega
            have HPP : Hid (Pl.Pieces N out false (e + 1)) := Pl.Pieces.bare HP.out HEnd.out
            go_wp2
            go_roundw
            case rel => exact ⟨out, e + 1, false, by have := HLen.out; omega, by go_num, rfl, HO.out, HBr.out, HPP.out⟩
            case measure => simp [intOf]; omega
    · have HD := Pl.Pieces.done HP.out (by rw [HLen.out]; omega)
      have HOD : Hid (Owns wr B _ (Pl.camel false N)) := Owns.cast HO.out HD
      clear HD
      go_wp2
      go_ret
      exact OwnPost.mk rfl HOD.out HBr.out

end Go.Proofs.Qxb6617881a
