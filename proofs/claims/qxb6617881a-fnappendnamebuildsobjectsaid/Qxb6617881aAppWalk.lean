/-
  THE WALKS OF 'zzBytes_FnAppendNameBuildsObject' (15) AND 'zzCloneBytes' (16).
-/
import Derived.Test.Qxb6617881aOwn2
import Derived.Test.Qxb6617881aAppPlain
namespace Go.Proofs.Qxb6617881a
open Go.RowKit

/-- m strings S lie where the slice begins. -/
def NamesAt (w : World) (no : Option Addr) (m : Nat) (S : Nat → ByteArray) : Prop :=
  m = 0 ∨ ∃ b off, no = some ⟨b, off, none⟩ ∧ b < w.heap.size ∧ ∀ j, j < m → w.cell? ⟨b, off + j, none⟩ = some (.string (S j))

theorem NamesAt.later {w w' : World} {no : Option Addr} {m : Nat} {S : Nat → ByteArray} (h : NamesAt w no m S) {B : Nat} (hb : Below B w w') (hB : w.heap.size ≤ B) : NamesAt w' no m S := by
  rcases h with h | ⟨b, off, rfl, h1, h2⟩
  · exact .inl h
  · refine .inr ⟨b, off, rfl, Nat.lt_of_lt_of_le h1 hb.size, fun j hj => ?_⟩
    rw [hb.cell (p := ⟨b, off + j, none⟩) (Nat.lt_of_lt_of_le h1 hB)]
    exact h2 j hj

/-- What the first look leaves: a bool; where it is true every name is short. -/
def LookPost (w : World) (n m : Nat) (S : Nat → ByteArray) (e : Ending) (w' : World) : Prop :=
  ∃ r, e = .returned (.bool r) ∧ w' = w ∧ (r = true → n ≤ 1048576 ∧ ∀ j, j < m → (S j).size ≤ 1048576)

set_option maxHeartbeats 800000 in
theorem look_any (ao : Option Addr) (n c : Nat) (no : Option Addr) (m cn : Nat) (S : Nat → ByteArray) (w : World) (hn : n ≤ maxLen) (hm : m ≤ maxLen) (hS : ∀ j, j < m → (S j).size ≤ maxLen) (hN : NamesAt w no m S) :
    Calls Try.prog 15 #[.slice ao n c, .slice no m cn] w fun e w' => LookPost w n m S e w' := by
  unfold maxLen at hn hm
  have HS : Hid _ := hS
  have HN : Hid _ := hN
  clear hS hN
  by_cases h1 : 1048576 < n
  · go_enter Try.func15, Try.ntmps15
    go_wp2
    go_ret
    exact ⟨false, rfl, rfl, fun h => by cases h⟩
  by_cases h2 : 1048576 < m
  · go_enter Try.func15, Try.ntmps15
    go_wp2
    go_ret
    exact ⟨false, rfl, rfl, fun h => by cases h⟩
  by_cases h3 : 1048576 < n + m
  · go_enter Try.func15, Try.ntmps15
    go_wp2
    go_ret
    exact ⟨false, rfl, rfl, fun h => by cases h⟩
  go_enter Try.func15, Try.ntmps15
  go_wp2
  go_loop [5, 6] (fun sz si => ∃ (k : Nat) (z : Nat), k ≤ m ∧ z ≤ 1048576 ∧ si = .int .i64 k ∧ sz = .int .i64 z ∧ Hid (∀ j, j < k → (S j).size ≤ 1048576)) (fun _ si => m - (intOf si).toNat)
  case atStart => exact ⟨0, n + m, Nat.zero_le _, by omega, rfl, by go_num, fun j hj => absurd hj (by omega)⟩
  case round =>
    obtain ⟨k, z, hk, hz, rfl, rfl, hall⟩ := hrel
    by_cases hlt : k < m
    · rcases HN.out with h0 | ⟨b, off, rfl, _, hc⟩
      · omega
      have hck := hc k hlt
      have hsk := HS.out k hlt
      unfold maxLen at hsk
      obtain ⟨s, hs⟩ : ∃ s, s = S k := ⟨_, rfl⟩
      rw [← hs] at hck hsk
      have HSK : Hid _ := hs
      clear hc hs
      by_cases hl : 1048576 < s.size
      · go_wp2
        go_ret
        exact ⟨false, rfl, rfl, fun h => by cases h⟩
      · by_cases hl2 : 1048576 < z + s.size
        · go_wp2
          go_ret
          exact ⟨false, rfl, rfl, fun h => by cases h⟩
        · have HX : Hid (∀ j, j < k + 1 → (S j).size ≤ 1048576) := fun j hj => by
            by_cases e : j = k
            · rw [e, ← HSK.out]; omega
            · exact hall.out j (by omega)
          go_wp2
          go_round
          case rel => exact ⟨k + 1, z + s.size, by omega, by omega, by go_num, by go_num, HX⟩
          case measure => simp [intOf]; omega
    · go_wp2
      go_ret
      exact ⟨true, rfl, rfl, fun _ => ⟨by omega, fun j hj => hall.out j (by omega)⟩⟩

/-- What zzCloneBytes leaves. -/
def ClonePost (w : World) (n : Nat) (K : List UInt8) (e : Ending) (w' : World) : Prop :=
  ∃ g, e = .returned (.slice (some ⟨g, 0, none⟩) n n) ∧ Owns w' w.heap.size (.slice (some ⟨g, 0, none⟩) n n) K ∧ Below w.heap.size w w'

/-- The first k bytes of K, then zeros. -/
def fillK (K : List UInt8) (n k : Nat) : List UInt8 := K.take k ++ List.replicate (n - k) 0
theorem fillK_len (K : List UInt8) (n k : Nat) (h : n = K.length) (hk : k ≤ n) : (fillK K n k).length = n := by simp [fillK]; omega
theorem fillK_all (K : List UInt8) (n : Nat) (h : n = K.length) : fillK K n n = K := by simp [fillK, h]
theorem fillK_next (K : List UInt8) (n k : Nat) (h : n = K.length) (hk : k < n) : (fillK K n k).set k (K.getD k 0) = fillK K n (k + 1) := by
  unfold fillK
  have hl : (K.take k).length = k := by simp; omega
  rw [List.set_append_right _ _ (by omega), hl, Nat.sub_self, show n - k = (n - (k + 1)) + 1 by omega, List.replicate_succ, List.set_cons_zero]
  have e : K.take (k + 1) = K.take k ++ [K.getD k 0] := by
    rw [List.take_succ_eq_append_getElem (by omega)]
    simp [List.getD, show k < K.length by omega]
  rw [e, List.append_assoc]
  rfl

set_option maxHeartbeats 800000 in
theorem clone_any (ao : Option Addr) (n c : Nat) (f : Nat → Int) (K : List UInt8) (w : World) (hn : n ≤ 1048576) (hp : 0 < n) (hR : Reads w ao n f) (hI : Is f n K) :
    Calls Try.prog 16 #[.slice ao n c] w fun e w' => ClonePost w n K e w' := by
  obtain ⟨i0, hi0, hz0, hz1, hz2⟩ := info_parts Try.info5
  rcases hR with h0 | ⟨b, off, rfl, hb, hc⟩
  · omega
  have hne := fun w => Lib.run_eql_slice_nil (P := Try.prog) w 22 5 (some ⟨b, off, none⟩) n c 0 0 Try.underlying22
  have HC : Hid _ := hc
  have HI : Hid _ := hI
  clear hc hI
  go_enter Try.func16, Try.ntmps16
  go_wp2_with (at_make; refine wpList_make_full _ rfl _ _ 22 rfl w.heap.size 5 i0 (.int .u8 0) 1 Try.underlying22 hi0 hz0 hz1 _ _ _ _ n rfl rfl rfl rfl ?b2 ?b3 ?b4 ?_)
  case b2 => rw [hz2]; omega
  case b3 => unfold maxLen; omega
  case b4 => exact Nat.le_refl _
  intro w1 hown hgrow
  have HO : Hid (Owns w1 w.heap.size (.slice (some ⟨w.heap.size, 0, none⟩) n n) (fillK K n 0)) := by
    show World.ownsRow _ _ 5 1 _ _ _
    rw [fillK_len K n 0 HI.out.1 (Nat.zero_le _)]
    have e : byt (fillK K n 0) = (madeCells #[Value.int IntKind.u8 0] n).toList := by
      rw [toList_madeCells_one]
      simp [fillK, byt]
    rw [e]
    exact hown
  have HB1 : Hid (Below w.heap.size w w1) := (Below.refl _ _).grown hgrow (Nat.le_refl _) (fun k hk => by cases hk)
  obtain ⟨g, hg⟩ : ∃ g, g = w.heap.size := ⟨_, rfl⟩
  have HGe : Hid (g = w.heap.size) := hg
  rw [← hg]
  have HO' : Hid (Owns w1 w.heap.size (.slice (some ⟨g, 0, none⟩) n n) (fillK K n 0)) := by rw [hg]; exact HO
  clear hown hgrow HO hg hne
  go_wp2
  go_loopw [4] (fun si wr => ∃ k : Nat, k ≤ n ∧ si = .int .i64 k ∧ Owns wr w.heap.size (.slice (some ⟨g, 0, none⟩) n n) (fillK K n k) ∧ Below w.heap.size w wr) (fun si _ => n - (intOf si).toNat)
  case atStart => exact ⟨0, Nat.zero_le _, rfl, HO'.out, HB1.out⟩
  case round =>
    obtain ⟨k, hk, rfl, hO, hbr⟩ := hrel
    have hfl := fillK_len K n k HI.out.1 hk
    by_cases hlt : k < n
    · have hc1 : wr.cell? ⟨b, off + k, none⟩ = some (.int .u8 (f k)) := (hbr.cell (p := ⟨b, off + k, none⟩) hb).trans (HC.out k hlt)
      obtain ⟨g', hg', -, hgB, hgs, hcs⟩ := owns_at hO (by omega)
      simp only [Option.some.injEq, Addr.mk.injEq, and_true] at hg'
      subst hg'
      have hc2 := hcs k (by omega)
      obtain ⟨q, hq⟩ : ∃ q : Int, q = (((fillK K n k).getD k 0).toNat : Int) := ⟨_, rfl⟩
      rw [← hq] at hc2
      have hfz := owns_frozen hO hfl.symm k
      have HST : Hid (Owns (wr.setCell ⟨g, k, none⟩ (.int .u8 (f k))) w.heap.size (.slice (some ⟨g, 0, none⟩) n n) (fillK K n (k + 1))) :=
        Owns.cast (owns_stored hO hfl.symm k (f k) (K.getD k 0) (HI.out.2 k hlt)) (fillK_next K n k HI.out.1 hlt)
      have HBr : Hid (Below w.heap.size w wr) := hbr
      clear hO hbr hcs hq hfl
      go_wp2
      go_roundw
      case rel => exact ⟨k + 1, by omega, by go_num, HST.out, HBr.out.setCell (by exact hgB) _⟩
      case measure => simp [intOf]; omega
    · obtain rfl : k = n := by omega
      have HE : Hid (Owns wr w.heap.size (.slice (some ⟨g, 0, none⟩) k k) K) := Owns.cast hO (fillK_all K k HI.out.1)
      have HBr : Hid (Below w.heap.size w wr) := hbr
      clear hO hbr hfl
      go_wp2
      go_ret
      exact ⟨g, rfl, HE.out, HBr.out⟩

end Go.Proofs.Qxb6617881a
