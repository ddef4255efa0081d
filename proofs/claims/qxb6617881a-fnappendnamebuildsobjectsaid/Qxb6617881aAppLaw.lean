/-
  THE WALK OF 'FnAppendNameBuildsObject' (6).
-/
import Derived.Test.Qxb6617881aNameWalk
namespace Go.Proofs.Qxb6617881a
open Go.RowKit

/-- 'want' so far. -/
def WantRel (W1 : World) (l : List UInt8) (v : Value) (wx : World) : Prop := Owns wx W1.heap.size v l ∧ Below W1.heap.size W1 wx
/-- 'got' so far. -/
def GotRel (W3 : World) (gb n : Nat) (K : List UInt8) (S' : Nat → List UInt8) (k : Nat) (v : Value) (wx : World) : Prop :=
  Below W3.heap.size W3 wx ∧ ((k = 0 ∧ v = .slice (some ⟨gb, 0, none⟩) n n) ∨ (0 < k ∧ Owns wx W3.heap.size v (Pl.gotK K S' k)))
theorem owns_base {w : World} {B B' : Nat} {v : Value} {l : List UInt8} (h : Owns w B' v l) (hB : B ≤ B') : Owns w B v l := ownsRow_base h hB

set_option maxRecDepth 100000 in
set_option maxHeartbeats 3200000 in
theorem app_law (ao : Option Addr) (n c : Nat) (f : Nat → Int) (K : List UInt8) (no : Option Addr) (m cn : Nat) (S : Nat → ByteArray) (w : World) (hn : n ≤ maxLen) (hm : m ≤ maxLen) (hS : ∀ j, j < m → (S j).size ≤ maxLen)
    (hR : Reads w ao n f) (hI : Is f n K) (hN : NamesAt w no m S) :
    Calls Try.prog 6 #[.slice ao n c, .slice no m cn] w fun e w' => e = .returned (.bool true) ∧ Below w.heap.size w w' := by
  have HR : Hid _ := hR
  have HI : Hid _ := hI
  have HN : Hid _ := hN
  have HS : Hid _ := hS
  have hn' := hn
  have hm' := hm
  unfold maxLen at hn' hm'
  clear hR hI hN hS
  go_enter Try.func6, Try.ntmps6
  go_wp2_with fail
  refine (look_any ao n c no m cn S _ hn hm HS.out HN.out).mono ?_
  rintro e w' ⟨r, rfl, rfl, hr⟩
  clear HS hn hm
  cases r
  · go_wp2
    go_ret
    exact ⟨rfl, Below.refl _ _⟩
  obtain ⟨hn20, hS20⟩ := hr rfl
  have HS20 : Hid _ := hS20
  clear hr hS20
  by_cases hm16 : 65536 < m
  · go_wp2
    go_ret
    exact ⟨rfl, Below.refl _ _⟩
  obtain ⟨S', hS'⟩ : ∃ S' : Nat → List UInt8, S' = fun j => (S j).data.toList := ⟨_, rfl⟩
  have HSe : Hid (∀ j, S' j = (S j).data.toList) := by rw [hS']; exact fun _ => rfl
  have HSl : Hid (∀ j, (S' j).length = (S j).size) := by rw [hS']; exact fun j => len_data (S j)
  clear hS'
  go_wp2
  go_loop [5, 6] (fun st sk => ∃ (k T : Nat), k ≤ m ∧ T ≤ 1048576 ∧ sk = .int .i64 k ∧ st = .int .i64 T ∧ Hid (T = Pl.tot n S' k)) (fun _ sk => m - (intOf sk).toNat)
  case atStart => exact ⟨0, n, Nat.zero_le _, hn20, rfl, rfl, rfl⟩
  case round =>
    obtain ⟨k, T, hk, hT, rfl, rfl, HT⟩ := hrel
    by_cases hlt : k < m
    · rcases HN.out with h0 | ⟨nb, noff, rfl, hnb, hnc⟩
      · omega
      have hck := hnc k hlt
      have hsk := HS20.out k hlt
      obtain ⟨s, hs⟩ : ∃ s, s = S k := ⟨_, rfl⟩
      rw [← hs] at hck hsk
      have HTN : Hid (T + (16 + s.size) = Pl.tot n S' (k + 1)) := by
        show _ = _
        rw [HT.out, hs, ← HSl.out k]
        rfl
      clear hnc hs
      by_cases hbig : 1048576 < T + (16 + s.size)
      · go_wp2
        go_ret
        exact ⟨rfl, Below.refl _ _⟩
      · go_wp2
        go_round
        case rel => exact ⟨k + 1, T + (16 + s.size), by omega, by omega, by go_num, by go_num, HTN⟩
        case measure => simp [intOf]; omega
    · have HTot : Hid (Pl.tot n S' m ≤ 1048576) := by
        show _ ≤ _
        rw [show m = k by omega, ← HT.out]
        exact hT
      clear hT HT
      by_cases hn0 : n = 0
      · have hb0 : ((n : Int) == 0) = true := by rw [beq_iff_eq]; omega
        go_wp2
        go_ret
        exact ⟨rfl, Below.refl _ _⟩
      have hb0 : ((n : Int) == 0) = false := by rw [beq_eq_false_iff_ne]; omega
      have hpos : 0 < n := by omega
      have HKn : Hid (n = K.length) := HI.out.1
      go_wp2_with fail
      refine (clone_any ao n c f K _ hn20 hpos HR.out HI.out).mono ?_
      rintro e W1 ⟨gb, rfl, hOb, hB1⟩
      obtain ⟨f1, hR1, hI1⟩ := owns_reads hOb
      have HOb : Hid (Owns W1 w'.heap.size (.slice (some ⟨gb, 0, none⟩) n n) K) := hOb
      have HB1 : Hid (Below w'.heap.size w' W1) := hB1
      have HR1 : Hid (Reads W1 (some ⟨gb, 0, none⟩) n f1) := hR1
      have HI1 : Hid (Is f1 n K) := hI1
      have HN1 : Hid (NamesAt W1 no m S) := NamesAt.later HN.out hB1 (Nat.le_refl _)
      clear hOb hB1 hR1 hI1 HN HR HI
      go_wp2_with fail
      refine (clone_any (some ⟨gb, 0, none⟩) n n f1 K _ hn20 hpos HR1.out HI1.out).mono ?_
      rintro e W2 ⟨gw, rfl, hOw, hB2⟩
      have HOb2 : Hid (Owns W2 w'.heap.size (.slice (some ⟨gb, 0, none⟩) n n) K) := owns_later HOb.out hB2 (Nat.le_refl _)
      have HOw : Hid (Owns W2 W1.heap.size (.slice (some ⟨gw, 0, none⟩) n n) K) := hOw
      have HB2 : Hid (Below W1.heap.size W1 W2) := hB2
      obtain ⟨gw', hgw', -, -, -, hcw⟩ := owns_at hOw (by rw [← HKn.out]; exact hpos)
      simp only [Option.some.injEq, Addr.mk.injEq, and_true] at hgw'
      subst hgw'
      have hcl := hcw (K.length - 1) (by rw [← HKn.out]; omega)
      obtain ⟨x, hx⟩ : ∃ x : Int, x = ((K.getD (K.length - 1) 0).toNat : Int) := ⟨_, rfl⟩
      rw [← hx, ← HKn.out] at hcl
      have HX : Hid (x = ((Pl.lastB K).toNat : Int)) := hx
      have HOb1 := HOb
      clear hcw hx hOw hB2 HOb HR1 HI1
      obtain ⟨wd, hwd⟩ : ∃ wd, wd = decide (0 < m ∧ Pl.lastB K ≠ 123) := ⟨_, rfl⟩
      have HWD : Hid (wd = decide (0 < m ∧ Pl.lastB K ≠ 123)) := hwd
      clear hwd
      go_upto_region 18 with fail
      go_cut [57] (fun s57 wx => s57 = .bool wd ∧ W2 = wx)
      case first =>
        by_cases hm0 : 0 < m
        · by_cases h123 : x = 123
          · have hxb : (x == 123) = true := by rw [beq_iff_eq]; exact h123
            have HV : Hid (wd = false) := by
              rw [HWD.out]
              exact decide_eq_false (fun e => e.2 (UInt8.toNat_inj.1 (by have := HX.out; simp; omega)))
            clear h123
            go_wp2
            go_meet
            exact ⟨val_bool (by rw [HV.out]; simp [bne, hxb]), rfl⟩
          · have hxb : (x == 123) = false := by rw [beq_eq_false_iff_ne]; exact h123
            have HV : Hid (wd = true) := by
              rw [HWD.out]
              exact decide_eq_true ⟨hm0, fun e => h123 (by rw [HX.out, e]; rfl)⟩
            clear h123
            go_wp2
            go_meet
            exact ⟨val_bool (by rw [HV.out]; simp [bne, hxb]), rfl⟩
        · have HV : Hid (wd = false) := by
            rw [HWD.out]
            exact decide_eq_false (fun e => hm0 e.1)
          go_wp2
          go_meet
          exact ⟨val_bool HV.out.symm, rfl⟩
      case rest =>
      obtain ⟨rfl, rfl⟩ := hcut
      go_upto_if 57 with fail
      go_cut [7] (fun s7 wx => WantRel W1 (Pl.want0 K m) s7 wx)
      case first =>
        cases wd
        · have HE : Hid (WantRel W1 (Pl.want0 K m) (.slice (some ⟨gw, 0, none⟩) n n) W2) := by
            refine ⟨Owns.cast HOw.out ?_, HB2.out⟩
            unfold Pl.want0
            rw [if_neg (of_decide_eq_false HWD.out.symm), List.append_nil]
          go_wp2
          go_meet
          exact HE.out
        · have HE : Hid (Pl.want0 K m = K ++ [44]) := by
            show _ = _
            unfold Pl.want0
            rw [if_pos (of_decide_eq_true HWD.out.symm)]
          go_wp2_with (at_builtin; refine app_one _ rfl (.tmp 58) (.tmp 59) rfl W1.heap.size _ K rfl (HOw.out.alloc _) ⟨W2.heap.size, 0, none⟩ _ 44 rfl rfl (cell_one_new _ _ _) ?e1 ?e2 W1 ?e3 ?_)
          case e1 => have := HKn.out; omega
          case e2 => have := HB2.out.size; first | omega | (simp; omega)
          case e3 => exact HB2.out.alloc HB2.out.size _
          intro v4 W4 HO4 HB4
          have HE4 : Hid (WantRel W1 (Pl.want0 K m) v4 W4) := ⟨Owns.cast HO4.out (by rw [HE.out]), HB4.out⟩
          clear HO4 HB4
          go_wp2
          go_meet
          exact HE4.out
      case rest =>
      have HW0 : Hid (WantRel W1 (Pl.wantK K S' m 0) u7 wc) := hcut
      have HOb3 : Hid (∀ wx, Below W1.heap.size W1 wx → Owns wx w'.heap.size (.slice (some ⟨gb, 0, none⟩) n n) K) := fun wx hx => owns_later HOb1.out hx (Nat.le_refl _)
      clear hcut HOw HWD HOb2 HB2 hcl
      have hsz1 := HB1.out.size
      have hKn1 : K.length ≤ n := Nat.le_of_eq HKn.out.symm
      go_wp2
      go_loopw [7, 8] (fun s7 s8 wr => ∃ k : Nat, k ≤ m ∧ s8 = .int .i64 k ∧ WantRel W1 (Pl.wantK K S' m k) s7 wr) (fun _ s8 _ => m - (intOf s8).toNat)
      case atStart => exact ⟨0, Nat.zero_le _, rfl, HW0.out⟩
      case round =>
        obtain ⟨k, hk, rfl, hOk, hBk⟩ := hrel
        have HBk : Hid (Below W1.heap.size W1 wr) := hBk
        by_cases hlt : k < m
        · rcases HN1.out with h0 | ⟨nb, noff, rfl, hnbW, hnc⟩
          · omega
          have hck0 := hnc k hlt
          have hsk := HS20.out k hlt
          obtain ⟨s, hs⟩ : ∃ s, s = S k := ⟨_, rfl⟩
          rw [← hs] at hck0 hsk
          have HCK : Hid (W1.cell? ⟨nb, noff + k, none⟩ = some (.string s)) := hck0
          have HSk : Hid (S' k = s.data.toList) := by show _ = _; rw [HSe.out k, hs]
          obtain ⟨lw, hlw⟩ : ∃ lw, lw = Pl.wantK K S' m k := ⟨_, rfl⟩
          have hlwl : lw.length ≤ 1048577 := by
            have h1 := Pl.wantK_len K S' m k
            have h2 := Pl.tot_mono n S' (show k ≤ m by omega)
            have h3 := HTot.out
            rw [hlw]
            rw [← HKn.out] at h1
            omega
          rw [← hlw] at hOk
          have HOk : Hid (Owns wr W1.heap.size u7 lw) := hOk
          have HLW : Hid (lw = Pl.wantK K S' m k) := hlw
          clear hOk hBk hlw hs hck0 hnc
          by_cases hk0 : 0 < k
          · go_wp2_with (at_builtin; refine app_one _ rfl (.tmp 69) (.tmp 70) rfl W1.heap.size _ lw rfl (HOk.out.alloc _) ⟨wr.heap.size, 0, none⟩ _ 44 rfl rfl (cell_one_new _ _ _) ?f1 ?f2 W1 ?f3 ?_)
            case f1 => omega
            case f2 => have := HBk.out.size; first | omega | (simp; omega)
            case f3 => exact HBk.out.alloc HBk.out.size _
            intro v4 W4 HO4 HB4
            have hsz4 := HB4.out.size
            clear HOk
            go_wp2_with (at_builtin; refine app_one _ rfl (.tmp 72) (.tmp 73) rfl W1.heap.size _ (lw ++ [44]) rfl (HO4.out.alloc _) ⟨W4.heap.size, 0, none⟩ _ 34 rfl rfl (cell_one_new _ _ _) ?ga1 ?ga2 W1 ?ga3 ?_)
            case ga1 => simp; omega
            case ga2 => have := HB4.out.size; first | omega | (simp; omega)
            case ga3 => exact HB4.out.alloc HB4.out.size _
            intro v5 W5 HO5p HB5
            have HO5 : Hid (Owns W5 W1.heap.size v5 ((lw ++ [44]) ++ [34])) := Owns.cast HO5p.out (by simp)
            have hsz5 := HB5.out.size
            have hck5 : W5.cell? ⟨nb, noff + k, none⟩ = some (.string s) := (HB5.out.cell (p := ⟨nb, noff + k, none⟩) hnbW).trans HCK.out
            clear HO5p
            go_wp2_with (at_builtin; refine app_str _ rfl (.tmp 75) (.tmp 79) rfl W1.heap.size _ ((lw ++ [44]) ++ [34]) rfl HO5.out s rfl ?gb1 ?gb2 W1 HB5.out ?_)
            case gb1 => simp; omega
            case gb2 => omega
            intro v6 W6 HO6p HB6
            have hsz6 := HB6.out.size
            have HO6 : Hid (Owns W6 W1.heap.size v6 ((lw ++ [44]) ++ [34] ++ s.data.toList)) := Owns.cast HO6p.out (by simp)
            clear HO5 HB5 HO6p
            go_wp2_with (at_builtin; refine app_src _ rfl (.tmp 81) (.tmp 82) rfl W1.heap.size _ ((lw ++ [44]) ++ [34] ++ s.data.toList) rfl (HO6.out.alloc _) ⟨W6.heap.size, 0, none⟩ 2 2 [34, 58] rfl rfl (two_new _ _) ?gc1 ?gc2 W1 ?gc3 ?_)
            case gc1 => simp; omega
            case gc2 => first | omega | (simp; omega)
            case gc3 => exact HB6.out.alloc (by omega) _
            intro v7 W7 HO7 HB7
            have HWN : Hid (WantRel W1 (Pl.wantK K S' m (k + 1)) v7 W7) := ⟨Owns.cast HO7.out (by simp [Pl.wantK, hk0, HLW.out, HSk.out]), HB7.out⟩
            clear HO7 HB7 HO6 HB6
            go_wp2
            go_roundw
            case rel => exact ⟨k + 1, by omega, by go_num, HWN.out⟩
            case measure => simp [intOf]; omega
          · have hk00 : ¬ 0 < k := hk0
            go_wp2_with (at_builtin; refine app_one _ rfl (.tmp 72) (.tmp 73) rfl W1.heap.size _ lw rfl (HOk.out.alloc _) ⟨wr.heap.size, 0, none⟩ _ 34 rfl rfl (cell_one_new _ _ _) ?ha1 ?ha2 W1 ?ha3 ?_)
            case ha1 => simp; omega
            case ha2 => have := HBk.out.size; first | omega | (simp; omega)
            case ha3 => exact HBk.out.alloc HBk.out.size _
            intro v5 W5 HO5p HB5
            have HO5 : Hid (Owns W5 W1.heap.size v5 (lw ++ [34])) := Owns.cast HO5p.out (by simp)
            have hsz5 := HB5.out.size
            have hck5 : W5.cell? ⟨nb, noff + k, none⟩ = some (.string s) := (HB5.out.cell (p := ⟨nb, noff + k, none⟩) hnbW).trans HCK.out
            clear HO5p
            go_wp2_with (at_builtin; refine app_str _ rfl (.tmp 75) (.tmp 79) rfl W1.heap.size _ (lw ++ [34]) rfl HO5.out s rfl ?hb1 ?hb2 W1 HB5.out ?_)
            case hb1 => simp; omega
            case hb2 => omega
            intro v6 W6 HO6p HB6
            have hsz6 := HB6.out.size
            have HO6 : Hid (Owns W6 W1.heap.size v6 (lw ++ [34] ++ s.data.toList)) := Owns.cast HO6p.out (by simp)
            clear HO5 HB5 HO6p
            go_wp2_with (at_builtin; refine app_src _ rfl (.tmp 81) (.tmp 82) rfl W1.heap.size _ (lw ++ [34] ++ s.data.toList) rfl (HO6.out.alloc _) ⟨W6.heap.size, 0, none⟩ 2 2 [34, 58] rfl rfl (two_new _ _) ?hc1 ?hc2 W1 ?hc3 ?_)
            case hc1 => simp; omega
            case hc2 => first | omega | (simp; omega)
            case hc3 => exact HB6.out.alloc (by omega) _
            intro v7 W7 HO7 HB7
            have HWN : Hid (WantRel W1 (Pl.wantK K S' m (k + 1)) v7 W7) := ⟨Owns.cast HO7.out (by simp [Pl.wantK, hk00, HLW.out, HSk.out]), HB7.out⟩
            clear HO7 HB7 HO6 HB6
            go_wp2
            go_roundw
            case rel => exact ⟨k + 1, by omega, by go_num, HWN.out⟩
            case measure => simp [intOf]; omega
        · have hkm : k = m := by omega
          rw [hkm] at hOk
          obtain ⟨LW, hLW⟩ : ∃ LW, LW = Pl.wantK K S' m m := ⟨_, rfl⟩
          have hLWl : LW.length ≤ 2097152 := by
            have h1 := Pl.wantK_len K S' m m
            have h3 := HTot.out
            rw [← HKn.out] at h1
            rw [hLW]
            omega
          rw [← hLW] at hOk
          obtain ⟨wo, cw, hv7⟩ := Owns.form hOk
          obtain ⟨mw, hmw⟩ : ∃ mw, mw = LW.length := ⟨_, rfl⟩
          rw [← hmw] at hv7 hLWl
          subst hv7
          obtain ⟨W3, hW3⟩ : ∃ W3, W3 = wr := ⟨_, rfl⟩
          subst hW3
          have HWant : Hid (Owns W3 W1.heap.size (.slice wo mw cw) LW) := hOk
          have HLW : Hid (LW = Pl.wantK K S' m m) := hLW
          have HObW : Hid (Owns W3 w'.heap.size (.slice (some ⟨gb, 0, none⟩) n n) K) := HOb3.out W3 hBk
          have hsz3 := hBk.size
          clear hkm hLW hmw hOk hBk HW0
          go_wp2
          go_loopw [9, 10] (fun s9 s10 wr => ∃ q : Nat, q ≤ m ∧ s10 = .int .i64 q ∧ GotRel W3 gb n K S' q s9 wr) (fun _ s10 _ => m - (intOf s10).toNat)
          case atStart => exact ⟨0, Nat.zero_le _, rfl, Below.refl _ _, .inl ⟨rfl, rfl⟩⟩
          case round =>
            obtain ⟨q, hq, rfl, hBq, hcase⟩ := hrel
            have HBq : Hid (Below W3.heap.size W3 wr) := hBq
            have HB1q : Hid (Below W1.heap.size W1 wr) := HBk.out.trans (hBq.mono hsz3)
            have hszq := hBq.size
            have HObq : Hid (Owns wr w'.heap.size (.slice (some ⟨gb, 0, none⟩) n n) K) := owns_later HObW.out hBq (Nat.le_refl _)
            have HWq : Hid (Below w'.heap.size w' wr) := HB1.out.trans (HB1q.out.mono HB1.out.size)
            have hgl : (Pl.gotK K S' q).length ≤ 1048576 := by
              have h1 := Pl.gotK_len K S' q
              have h2 := Pl.tot_mono n S' hq
              have h3 := HTot.out
              rw [← HKn.out] at h1
              omega
            have hgp : 0 < (Pl.gotK K S' q).length := Pl.gotK_pos K S' (by rw [← HKn.out]; exact hpos) q
            clear hBq
            by_cases hltq : q < m
            · rcases HN1.out with h0 | ⟨nb, noff, rfl, hnbW, hnc⟩
              · omega
              have hsk := HS20.out q hltq
              obtain ⟨s, hs⟩ : ∃ s, s = S q := ⟨_, rfl⟩
              have hckq : wr.cell? ⟨nb, noff + q, none⟩ = some (.string s) := by
                rw [hs]
                exact (HB1q.out.cell (p := ⟨nb, noff + q, none⟩) hnbW).trans (hnc q hltq)
              rw [← hs] at hsk
              have HSk : Hid (S' q = s.data.toList) := by show _ = _; rw [HSe.out q, hs]
              clear hnc hs
              rcases hcase with ⟨rfl, rfl⟩ | ⟨hq0, hOq⟩
              · obtain ⟨gb', hgb', -, -, hgs, hcb⟩ := owns_at HObq.out (by rw [← HKn.out]; exact hpos)
                simp only [Option.some.injEq, Addr.mk.injEq, and_true] at hgb'
                subst hgb'
                have HCB : Hid _ := hcb
                simp only [Nat.add_zero] at hckq
                clear hcb
                go_wp2_with fail
                refine (zzName_full gb n K s _ HKn.out HCB.out hgs (by rw [← HKn.out]; exact hpos) (by omega)).mono ?_
                rintro e W9 ⟨v9, rfl, hO9, hB9⟩
                have HG : Hid (GotRel W3 gb n K S' 1 v9 W9) := by
                  refine ⟨HBq.out.trans (hB9.mono hszq), .inr ⟨by omega, owns_base (Owns.cast hO9 ?_) hszq⟩⟩
                  show _ = Pl.apn K (S' 0)
                  rw [HSk.out]
                clear hO9 hB9
                go_wp2
                go_roundw
                case rel => exact ⟨1, by omega, by go_num, HG.out⟩
                case measure => simp [intOf]; omega
              · have HOq : Hid (Owns wr W3.heap.size u9 (Pl.gotK K S' q)) := hOq
                clear hOq
                go_wp2_with fail
                refine (zzName_owned u9 (Pl.gotK K S' q) s W3.heap.size _ HOq.out hgp hszq (by omega)).mono ?_
                rintro e W9 ⟨v9, rfl, hO9, hB9⟩
                have HG : Hid (GotRel W3 gb n K S' (q + 1) v9 W9) := by
                  refine ⟨HBq.out.trans hB9, .inr ⟨by omega, Owns.cast hO9 ?_⟩⟩
                  show _ = Pl.apn (Pl.gotK K S' q) (S' q)
                  rw [HSk.out]
                clear hO9 hB9
                go_wp2
                go_roundw
                case rel => exact ⟨q + 1, by omega, by go_num, HG.out⟩
                case measure => simp [intOf]; omega
            · have hqm : q = m := by omega
              have HWantq : Hid (Owns wr W1.heap.size (.slice wo mw cw) LW) := owns_later HWant.out HBq.out (Nat.le_refl _)
              obtain ⟨gf, hgR, hgI⟩ := owns_reads HWantq.out
              have HGR : Hid (Reads wr wo mw gf) := hgR
              have HGI : Hid (Is gf mw LW) := hgI
              have HEQ : Hid (decide (Pl.gotK K S' q = LW) = true) := by
                show _ = _
                rw [decide_eq_true_iff, HLW.out, hqm]
                exact Pl.got_eq_want K S' m
              obtain ⟨LG, hLG⟩ : ∃ LG, LG = Pl.gotK K S' q := ⟨_, rfl⟩
              rw [← hLG] at HEQ hgl hgp
              have HC2 : ∃ go mg cg hf, u9 = .slice go mg cg ∧ mg ≤ 2097152 ∧ Reads wr go mg hf ∧ Is hf mg LG := by
                rcases hcase with ⟨h0, hv⟩ | ⟨_, hOq⟩
                · obtain ⟨hf, h1, h2⟩ := owns_reads HObq.out
                  refine ⟨_, _, _, hf, hv, by omega, h1, ?_⟩
                  rw [hLG, h0]
                  exact h2
                · rw [← hLG] at hOq
                  obtain ⟨go, cg, hv⟩ := Owns.form hOq
                  rw [hv] at hOq
                  obtain ⟨hf, h1, h2⟩ := owns_reads hOq
                  exact ⟨go, LG.length, cg, hf, hv, by omega, h1, h2⟩
              obtain ⟨go, mg, cg, hf, hv9, hmg, h1, h2⟩ := HC2
              subst hv9
              have H1 : Hid (Reads wr go mg hf) := h1
              have H2 : Hid (Is hf mg LG) := h2
              clear h1 h2 hLG hcase hgR hgI hqm
              go_wp2_with fail
              refine (bytesEq_any go mg cg hf LG wo mw cw gf LW _ hmg hLWl H1.out H2.out HGR.out HGI.out).mono ?_
              rintro e W9 ⟨rfl, hB9⟩
              have HF : Hid (Below w'.heap.size w' W9) := HWq.out.trans (hB9.mono HWq.out.size)
              go_wp2
              go_ret
              exact ⟨ret_bool HEQ.out, HF.out⟩

end Go.Proofs.Qxb6617881a
