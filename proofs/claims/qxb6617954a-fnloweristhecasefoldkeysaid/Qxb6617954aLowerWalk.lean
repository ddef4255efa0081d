/-
  THE WALKS OF 'lower' (11) AND 'ZZlower' (6).
-/
import Derived.Test.Qxb6617954aOwn
namespace Go.Proofs.Qxb6617954a
open Go.RowKit

/-- What lower leaves: the text t of the lowered bytes. -/
def LowPost (w : World) (K : List UInt8) (e : Ending) (w' : World) : Prop :=
  ∃ t : ByteArray, e = .returned (.string t) ∧ t.data.toList = Pl.lows K ∧ Below w.heap.size w w'

set_option maxHeartbeats 800000 in
theorem lower_any (ao : Option Addr) (n c : Nat) (f : Nat → Int) (K : List UInt8) (w : World) (hn : n ≤ 1048576) (hR : Reads w ao n f) (hI : Is f n K) :
    Calls Try.prog 11 #[.slice ao n c] w fun e w' => LowPost w K e w' := by
  obtain ⟨i0, hi0, hz0, hz1, hz2⟩ := info_parts Try.info5
  have HR : Hid _ := hR
  have HI : Hid _ := hI
  have HLn : Hid (n = (Pl.lows K).length) := by rw [Pl.lows_len]; exact hI.1
  clear hR hI
  go_enter Try.func11, Try.ntmps11
  go_wp2_with (at_make; refine wpList_make_full _ rfl _ _ 22 rfl w.heap.size 5 i0 (.int .u8 0) 1 Try.underlying22 hi0 hz0 hz1 _ _ _ _ n rfl rfl rfl rfl ?b2 ?b3 ?b4 ?_)
  case b2 => rw [hz2]; omega
  case b3 => unfold maxLen; omega
  case b4 => exact Nat.le_refl _
  intro w1 hown hgrow
  have HO : Hid (Owns w1 w.heap.size (.slice (some ⟨w.heap.size, 0, none⟩) n n) (fillK (Pl.lows K) n 0)) := by
    show World.ownsRow _ _ 5 1 _ _ _
    rw [fillK_len (Pl.lows K) n 0 HLn.out (Nat.zero_le _)]
    have e : byt (fillK (Pl.lows K) n 0) = (madeCells #[Value.int IntKind.u8 0] n).toList := by
      rw [toList_madeCells_one]
      simp [fillK, byt]
    rw [e]
    exact hown
  have HB1 : Hid (Below w.heap.size w w1) := (Below.refl _ _).grown hgrow (Nat.le_refl _) (fun k hk => by cases hk)
  obtain ⟨g, hg⟩ : ∃ g, g = w.heap.size := ⟨_, rfl⟩
  rw [← hg]
  have HO' : Hid (Owns w1 w.heap.size (.slice (some ⟨g, 0, none⟩) n n) (fillK (Pl.lows K) n 0)) := by rw [hg]; exact HO
  clear hown hgrow HO hg
  go_wp2
  go_loopw [11] (fun si wr => ∃ k : Nat, k ≤ n ∧ si = .int .i64 k ∧ Owns wr w.heap.size (.slice (some ⟨g, 0, none⟩) n n) (fillK (Pl.lows K) n k) ∧ Below w.heap.size w wr) (fun si _ => n - (intOf si).toNat)
  case atStart => exact ⟨0, Nat.zero_le _, rfl, HO'.out, HB1.out⟩
  case round =>
    obtain ⟨k, hk, rfl, hO, hbr⟩ := hrel
    have hfl := fillK_len (Pl.lows K) n k HLn.out hk
    by_cases hlt : k < n
    · rcases HR.out with h0 | ⟨b, off, rfl, hb, hc⟩
      · omega
      have hc1 : wr.cell? ⟨b, off + k, none⟩ = some (.int .u8 (f k)) := (hbr.cell (p := ⟨b, off + k, none⟩) hb).trans (hc k hlt)
      have hc2 := owns_cell hO hfl.symm (j := k) (by omega)
      have hgB := (owns_lt hO).1
      obtain ⟨q, hq⟩ : ∃ q : Int, q = (((fillK (Pl.lows K) n k).getD k 0).toNat : Int) := ⟨_, rfl⟩
      rw [← hq] at hc2
      have hfz := owns_frozen hO hfl.symm k
      have HO : Hid (Owns wr w.heap.size (.slice (some ⟨g, 0, none⟩) n n) (fillK (Pl.lows K) n k)) := hO
      have HBr : Hid (Below w.heap.size w wr) := hbr
      have HFl : Hid ((fillK (Pl.lows K) n k).length = n) := hfl
      clear hO hbr hq hfl hc
      by_cases h65 : 65 ≤ f k
      · by_cases h90 : f k ≤ 90
        · have h0 : 0 ≤ f k := by omega
          have HV : Hid (f k + 32 = (((Pl.lows K).getD k 0).toNat : Int)) := by
            show _ = _
            rw [Pl.lows_getD K k (by rw [← HI.out.1]; exact hlt), Pl.lo_num, ← HI.out.2 k hlt]
            rw [if_pos ⟨h65, h90⟩]
          have HST : Hid (Owns (wr.setCell ⟨g, k, none⟩ (.int .u8 (f k + 32))) w.heap.size (.slice (some ⟨g, 0, none⟩) n n) (fillK (Pl.lows K) n (k + 1))) :=
            Owns.cast (owns_stored HO.out HFl.out.symm k (f k + 32) ((Pl.lows K).getD k 0) HV.out) (fillK_next (Pl.lows K) n k HLn.out hlt)
          go_wp2
          go_roundw
          case rel => exact ⟨k + 1, by omega, by go_num, HST.out, HBr.out.setCell (by exact hgB) _⟩
          case measure => simp [intOf]; omega
        · have h255 : Hid (f k ≤ 255) := by show _ ≤ _; rw [HI.out.2 k hlt]; have := (K.getD k 0).toNat_lt; omega
          have HV : Hid (f k = (((Pl.lows K).getD k 0).toNat : Int)) := by
            show _ = _
            rw [Pl.lows_getD K k (by rw [← HI.out.1]; exact hlt), Pl.lo_num, ← HI.out.2 k hlt]
            rw [if_neg (by omega)]
          have HST : Hid (Owns (wr.setCell ⟨g, k, none⟩ (.int .u8 (f k))) w.heap.size (.slice (some ⟨g, 0, none⟩) n n) (fillK (Pl.lows K) n (k + 1))) :=
            Owns.cast (owns_stored HO.out HFl.out.symm k (f k) ((Pl.lows K).getD k 0) HV.out) (fillK_next (Pl.lows K) n k HLn.out hlt)
          go_wp2
          go_roundw
          case rel => exact ⟨k + 1, by omega, by go_num, HST.out, HBr.out.setCell (by exact hgB) _⟩
          case measure => simp [intOf]; omega
      · skip
        have HV : Hid (f k = (((Pl.lows K).getD k 0).toNat : Int)) := by
          show _ = _
          rw [Pl.lows_getD K k (by rw [← HI.out.1]; exact hlt), Pl.lo_num, ← HI.out.2 k hlt]
          rw [if_neg (by omega)]
        have HST : Hid (Owns (wr.setCell ⟨g, k, none⟩ (.int .u8 (f k))) w.heap.size (.slice (some ⟨g, 0, none⟩) n n) (fillK (Pl.lows K) n (k + 1))) :=
          Owns.cast (owns_stored HO.out HFl.out.symm k (f k) ((Pl.lows K).getD k 0) HV.out) (fillK_next (Pl.lows K) n k HLn.out hlt)
        go_wp2
        go_roundw
        case rel => exact ⟨k + 1, by omega, by go_num, HST.out, HBr.out.setCell (by exact hgB) _⟩
        case measure => simp [intOf]; omega
    · obtain rfl : k = n := by omega
      have HE : Hid (Owns wr w.heap.size (.slice (some ⟨g, 0, none⟩) k k) (Pl.lows K)) := Owns.cast hO (fillK_all (Pl.lows K) k HLn.out)
      have HBr : Hid (Below w.heap.size w wr) := hbr
      obtain ⟨t, ht⟩ : ∃ t : ByteArray, t = ⟨(Pl.lows K).toArray⟩ := ⟨_, rfl⟩
      have hconv := conv_some (w := wr) (g := g) (c := k) HLn.out (fun j hj => owns_cell HE.out HLn.out hj)
      rw [← ht] at hconv
      have HT : Hid (t.data.toList = Pl.lows K) := by rw [ht]; rfl
      clear hO hbr hfl ht
      go_wp2
      go_ret
      exact ⟨t, rfl, HT.out, HBr.out⟩

set_option maxHeartbeats 400000 in
theorem zzLower_any (ao : Option Addr) (n c : Nat) (f : Nat → Int) (K : List UInt8) (w : World) (hn : n ≤ 1048576) (hR : Reads w ao n f) (hI : Is f n K) :
    Calls Try.prog 6 #[.slice ao n c] w fun e w' => LowPost w K e w' := by
  go_enter Try.func6, Try.ntmps6
  go_wp2_with fail
  refine (lower_any ao n c f K _ hn hR hI).mono ?_
  rintro e w' ⟨t, rfl, h1, h2⟩
  have H1 : Hid _ := h1
  clear h1
  go_wp2
  go_ret
  exact ⟨t, rfl, H1.out, h2⟩

end Go.Proofs.Qxb6617954a
