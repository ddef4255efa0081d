/-
  THE WALKS OF 'isJSONName' (18), 'ZZisJSONName' (9), 'zzBytesEqual' (10), 'zzBytesEqualString' (12).
-/
import Derived.Test.Qxb6617881aOwn
import Derived.Test.Qxb6617881aJsonPlain
namespace Go.Proofs.Qxb6617881a
open Go.RowKit

/-- n bytes f lie where the slice begins; where there is none, nothing is said. -/
def Reads (w : World) (ao : Option Addr) (n : Nat) (f : Nat → Int) : Prop :=
  n = 0 ∨ ∃ b off, ao = some ⟨b, off, none⟩ ∧ b < w.heap.size ∧ ∀ j, j < n → w.cell? ⟨b, off + j, none⟩ = some (.int .u8 (f j))

theorem Reads.later {w w' : World} {ao : Option Addr} {n : Nat} {f : Nat → Int} (h : Reads w ao n f) {B : Nat} (hb : Below B w w') (hB : w.heap.size ≤ B) : Reads w' ao n f := by
  rcases h with h | ⟨b, off, rfl, h1, h2⟩
  · exact .inl h
  · refine .inr ⟨b, off, rfl, Nat.lt_of_lt_of_le h1 hb.size, fun j hj => ?_⟩
    rw [hb.cell (p := ⟨b, off + j, none⟩) (Nat.lt_of_lt_of_le h1 hB)]
    exact h2 j hj

/-- The numbers f are the bytes K. -/
def Is (f : Nat → Int) (n : Nat) (K : List UInt8) : Prop := n = K.length ∧ ∀ j, j < n → f j = ((K.getD j 0).toNat : Int)

theorem Owns.reads {w : World} {B : Nat} {v : Value} {l : List UInt8} (h : Owns w B v l) : ∃ ao c f, v = .slice ao l.length c ∧ Reads w ao l.length f ∧ Is f l.length l := by
  by_cases hp : 0 < l.length
  · obtain ⟨g, c, rfl, _, hg, hc⟩ := h.some hp
    exact ⟨_, _, fun j => ((l.getD j 0).toNat : Int), rfl, .inr ⟨g, 0, rfl, hg, fun j hj => by rw [Nat.zero_add]; exact hc j hj⟩, rfl, fun _ _ => rfl⟩
  · obtain ⟨ao, c, rfl⟩ := h.form
    exact ⟨ao, c, fun _ => 0, rfl, .inl (by omega), rfl, fun j hj => by omega⟩

theorem is_hit {f : Nat → Int} {n k : Nat} {K : List UInt8} (h : Is f n K) (hk : k < n) {c : UInt8} (he : f k = (c.toNat : Int)) : K.getD k 0 = c := by
  rw [h.2 k hk] at he
  exact UInt8.toNat_inj.1 (by omega)
theorem is_miss {f : Nat → Int} {n k : Nat} {K : List UInt8} (h : Is f n K) (hk : k < n) {c : UInt8} (he : ¬ f k = (c.toNat : Int)) : K.getD k 0 ≠ c := by
  intro e
  apply he
  rw [h.2 k hk, e]

set_option maxHeartbeats 1600000 in
theorem json_any (ao : Option Addr) (n cap : Nat) (f : Nat → Int) (K : List UInt8) (s : ByteArray) (w : World) (hn : n ≤ 1048576) (hR : Reads w ao n f) (hI : Is f n K) (hs : s.size ≤ 2097152) :
    Calls Try.prog 18 #[.slice ao n cap, .string s] w fun e w' => e = .returned (.bool (decide (K = Pl.camel false s.data.toList))) ∧ w' = w := by
  obtain ⟨N, hN⟩ : ∃ N, N = s.data.toList := ⟨_, rfl⟩
  rw [← hN]
  obtain ⟨ans, hans⟩ : ∃ b, b = decide (K = Pl.camel false N) := ⟨_, rfl⟩
  rw [← hans]
  have HA : Hid (ans = decide (K = Pl.camel false N)) := hans
  have HLen : Hid (N.length = s.size) := by rw [hN]; exact len_data s
  have HBy : Hid (∀ j (hj : j < s.size), N.getD j 0 = s[j]) := by rw [hN]; exact fun j hj => byte_getD s j hj
  have HR : Hid _ := hR
  have HI : Hid _ := hI
  clear hN hR hI hans
  go_enter Try.func18, Try.ntmps18
  go_wp2
  go_loop [5, 6, 7] (fun sk su si => ∃ (k i : Nat) (u : Bool), k ≤ n ∧ i ≤ s.size ∧ sk = .int .i64 k ∧ su = .bool u ∧ si = .int .i64 i ∧ Pl.Left K N k u i) (fun _ _ si => s.size - (intOf si).toNat)
  case atStart => exact ⟨0, 0, false, Nat.zero_le _, Nat.zero_le _, rfl, rfl, rfl, Pl.Left.start K N⟩
  case round =>
    obtain ⟨k, i, u, hk, hi, rfl, rfl, rfl, hL⟩ := hrel
    have HL : Hid _ := hL
    clear hL
    by_cases hlt : i < s.size
    · have hiN : Hid (i < N.length) := by show _ < _; rw [HLen.out]; exact hlt
      by_cases hus : (s[i].toNat : Int) = 95
      · have HX : Hid (Pl.Left K N k true (i + 1)) := Pl.Left.us HL.out hiN.out (by rw [HBy.out i hlt]; omega)
        go_wp2
        go_round
        case rel => exact ⟨k, i + 1, true, hk, by omega, rfl, rfl, by go_num, HX⟩
        case measure => simp [intOf]; omega
      · have hus' : ((s[i].toNat : Int) == 95) = false := by rw [beq_eq_false_iff_ne]; exact hus
        have HU : Hid ((N.getD i 0).toNat ≠ 95) := by show _ ≠ _; rw [HBy.out i hlt]; omega
        clear hus
        by_cases hup : u = true ∧ 97 ≤ (s[i].toNat : Int) ∧ (s[i].toNat : Int) ≤ 122
        · obtain ⟨rfl, h97, h122⟩ := hup
          have HC : Hid (((Pl.cap true (N.getD i 0)).toNat : Int) = (s[i].toNat : Int) - 32) := by
            show _ = _
            rw [Pl.cap_sub (by rw [HBy.out i hlt]; exact ⟨rfl, by omega, by omega⟩), HBy.out i hlt]
          by_cases hkn : k < n
          · rcases HR.out with h0 | ⟨b, off, rfl, _, hc⟩
            · omega
            have hck := hc k hkn
            clear hc
            have hkb : ((k : Int) == (n : Int)) = false := by rw [beq_eq_false_iff_ne]; omega
            by_cases heq : f k = (s[i].toNat : Int) - 32
            · have heb : (f k == (s[i].toNat : Int) - 32) = true := by rw [beq_iff_eq]; exact heq
              have HX : Hid (Pl.Left K N (k + 1) false (i + 1)) := Pl.Left.hit HL.out hiN.out HU.out (by rw [← HI.out.1]; exact hkn) (is_hit HI.out hkn (by rw [HC.out]; exact heq))
              clear heq
              go_wp2
              go_round
              case rel => exact ⟨k + 1, i + 1, false, by omega, by omega, by go_num, rfl, by go_num, HX⟩
              case measure => simp [intOf]; omega
            · have heb : (f k == (s[i].toNat : Int) - 32) = false := by rw [beq_eq_false_iff_ne]; exact heq
              have HX : Hid (ans = false) := by rw [HA.out]; exact Pl.Left.miss HL.out hiN.out HU.out (by rw [← HI.out.1]; exact hkn) (is_miss HI.out hkn (by rw [HC.out]; exact heq))
              clear heq
              go_wp2
              go_ret
              exact ⟨ret_bool HX.out.symm, rfl⟩
          · have hkb : ((k : Int) == (n : Int)) = true := by rw [beq_iff_eq]; omega
            have HX : Hid (ans = false) := by rw [HA.out]; exact Pl.Left.full HL.out hiN.out HU.out (by rw [← HI.out.1]; omega)
            go_wp2
            go_ret
            exact ⟨ret_bool HX.out.symm, rfl⟩
        · have hcs : Hid (Pl.cap u (N.getD i 0) = N.getD i 0) := Pl.cap_same (by rw [HBy.out i hlt]; intro h; exact hup ⟨h.1, by omega, by omega⟩)
          cases u
          · clear hup
            have HC : Hid (((Pl.cap false (N.getD i 0)).toNat : Int) = (s[i].toNat : Int)) := by
              show _ = _
              rw [hcs.out, HBy.out i hlt]
            by_cases hkn : k < n
            · rcases HR.out with h0 | ⟨b, off, rfl, _, hc⟩
              · omega
              have hck := hc k hkn
              clear hc
              have hkb : ((k : Int) == (n : Int)) = false := by rw [beq_eq_false_iff_ne]; omega
              by_cases heq : f k = (s[i].toNat : Int)
              · have heb : (f k == (s[i].toNat : Int)) = true := by rw [beq_iff_eq]; exact heq
                have HX : Hid (Pl.Left K N (k + 1) false (i + 1)) := Pl.Left.hit HL.out hiN.out HU.out (by rw [← HI.out.1]; exact hkn) (is_hit HI.out hkn (by rw [HC.out]; exact heq))
                clear heq
                go_wp2
                go_round
                case rel => exact ⟨k + 1, i + 1, false, by omega, by omega, by go_num, rfl, by go_num, HX⟩
                case measure => simp [intOf]; omega
              · have heb : (f k == (s[i].toNat : Int)) = false := by rw [beq_eq_false_iff_ne]; exact heq
                have HX : Hid (ans = false) := by rw [HA.out]; exact Pl.Left.miss HL.out hiN.out HU.out (by rw [← HI.out.1]; exact hkn) (is_miss HI.out hkn (by rw [HC.out]; exact heq))
                clear heq
                go_wp2
                go_ret
                exact ⟨ret_bool HX.out.symm, rfl⟩
            · have hkb : ((k : Int) == (n : Int)) = true := by rw [beq_iff_eq]; omega
              have HX : Hid (ans = false) := by rw [HA.out]; exact Pl.Left.full HL.out hiN.out HU.out (by rw [← HI.out.1]; omega)
              go_wp2
              go_ret
              exact ⟨ret_bool HX.out.symm, rfl⟩
          · by_cases h97 : 97 ≤ (s[i].toNat : Int)
            · have h122 : 122 < (s[i].toNat : Int) := by
                by_cases h : (s[i].toNat : Int) ≤ 122
                · exact absurd ⟨rfl, h97, h⟩ hup
                · omega
              clear hup
              have HC : Hid (((Pl.cap true (N.getD i 0)).toNat : Int) = (s[i].toNat : Int)) := by
                show _ = _
                rw [hcs.out, HBy.out i hlt]
              by_cases hkn : k < n
              · rcases HR.out with h0 | ⟨b, off, rfl, _, hc⟩
                · omega
                have hck := hc k hkn
                clear hc
                have hkb : ((k : Int) == (n : Int)) = false := by rw [beq_eq_false_iff_ne]; omega
                by_cases heq : f k = (s[i].toNat : Int)
                · have heb : (f k == (s[i].toNat : Int)) = true := by rw [beq_iff_eq]; exact heq
                  have HX : Hid (Pl.Left K N (k + 1) false (i + 1)) := Pl.Left.hit HL.out hiN.out HU.out (by rw [← HI.out.1]; exact hkn) (is_hit HI.out hkn (by rw [HC.out]; exact heq))
                  clear heq
                  go_wp2
                  go_round
                  case rel => exact ⟨k + 1, i + 1, false, by omega, by omega, by go_num, rfl, by go_num, HX⟩
                  case measure => simp [intOf]; omega
                · have heb : (f k == (s[i].toNat : Int)) = false := by rw [beq_eq_false_iff_ne]; exact heq
                  have HX : Hid (ans = false) := by rw [HA.out]; exact Pl.Left.miss HL.out hiN.out HU.out (by rw [← HI.out.1]; exact hkn) (is_miss HI.out hkn (by rw [HC.out]; exact heq))
                  clear heq
                  go_wp2
                  go_ret
                  exact ⟨ret_bool HX.out.symm, rfl⟩
              · have hkb : ((k : Int) == (n : Int)) = true := by rw [beq_iff_eq]; omega
                have HX : Hid (ans = false) := by rw [HA.out]; exact Pl.Left.full HL.out hiN.out HU.out (by rw [← HI.out.1]; omega)
                go_wp2
                go_ret
                exact ⟨ret_bool HX.out.symm, rfl⟩
            · have h97' : (s[i].toNat : Int) < 97 := by omega
              clear hup h97
              have HC : Hid (((Pl.cap true (N.getD i 0)).toNat : Int) = (s[i].toNat : Int)) := by
                show _ = _
                rw [hcs.out, HBy.out i hlt]
              by_cases hkn : k < n
              · rcases HR.out with h0 | ⟨b, off, rfl, _, hc⟩
                · omega
                have hck := hc k hkn
                clear hc
                have hkb : ((k : Int) == (n : Int)) = false := by rw [beq_eq_false_iff_ne]; omega
                by_cases heq : f k = (s[i].toNat : Int)
                · have heb : (f k == (s[i].toNat : Int)) = true := by rw [beq_iff_eq]; exact heq
                  have HX : Hid (Pl.Left K N (k + 1) false (i + 1)) := Pl.Left.hit HL.out hiN.out HU.out (by rw [← HI.out.1]; exact hkn) (is_hit HI.out hkn (by rw [HC.out]; exact heq))
                  clear heq
                  go_wp2
                  go_round
                  case rel => exact ⟨k + 1, i + 1, false, by omega, by omega, by go_num, rfl, by go_num, HX⟩
                  case measure => simp [intOf]; omega
                · have heb : (f k == (s[i].toNat : Int)) = false := by rw [beq_eq_false_iff_ne]; exact heq
                  have HX : Hid (ans = false) := by rw [HA.out]; exact Pl.Left.miss HL.out hiN.out HU.out (by rw [← HI.out.1]; exact hkn) (is_miss HI.out hkn (by rw [HC.out]; exact heq))
                  clear heq
                  go_wp2
                  go_ret
                  exact ⟨ret_bool HX.out.symm, rfl⟩
              · have hkb : ((k : Int) == (n : Int)) = true := by rw [beq_iff_eq]; omega
                have HX : Hid (ans = false) := by rw [HA.out]; exact Pl.Left.full HL.out hiN.out HU.out (by rw [← HI.out.1]; omega)
                go_wp2
                go_ret
                exact ⟨ret_bool HX.out.symm, rfl⟩
    · have hin : i = N.length := by rw [HLen.out]; omega
      have HX : Hid (ans = decide (k = n)) := by
        show _ = _
        rw [HA.out, HI.out.1]
        have h := HL.out
        rw [hin] at h
        exact Pl.Left.done h (by rw [← HI.out.1]; exact hk)
      clear hin
      go_wp2
      go_ret
      exact ⟨ret_bool (by rw [HX.out, Bool.eq_iff_iff]; simp; omega), rfl⟩

set_option maxHeartbeats 400000 in
theorem zzJson_any (ao : Option Addr) (n cap : Nat) (f : Nat → Int) (K : List UInt8) (s : ByteArray) (w : World) (hn : n ≤ 1048576) (hR : Reads w ao n f) (hI : Is f n K) (hs : s.size ≤ 2097152) :
    Calls Try.prog 9 #[.slice ao n cap, .string s] w fun e w' => e = .returned (.bool (decide (K = Pl.camel false s.data.toList))) ∧ w' = w := by
  go_enter Try.func9, Try.ntmps9
  go_wp2_with fail
  refine (json_any ao n cap f K s _ hn hR hI hs).mono ?_
  rintro e w' ⟨rfl, rfl⟩
  go_wp2
  go_ret
  exact ⟨rfl, rfl⟩

end Go.Proofs.Qxb6617881a
