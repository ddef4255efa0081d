/-
  THE WALK OF 'lineEnds' (function 17): what it answers is 'Pl.ends' of the bytes; nothing that was there has turned.
-/
import Derived.Test.Qxb6617875aRows
import Derived.Test.Qxb6617875aPlain
import Derived.WalkKit
import Derived.WalkSpells
import Derived.WalkLawsBesides
namespace Go.Proofs.Qxb6617875a
open Go.RowKit

theorem Try.info3 : (Try.prog.info? 3).map (fun i => (i.zero, i.size, i.bytes)) = some (some (.int .i64 0), 1, 8) := by kernel_rfl

/-- n bytes f lie where the slice begins; where there is none, nothing is said. -/
def Reads (w : World) (ao : Option Addr) (n : Nat) (f : Nat → Int) : Prop :=
  n = 0 ∨ ∃ b off, ao = some ⟨b, off, none⟩ ∧ b < w.heap.size ∧ ∀ j, j < n → w.cell? ⟨b, off + j, none⟩ = some (.int .u8 (f j))

theorem Reads.later {w w' : World} {ao : Option Addr} {n : Nat} {f : Nat → Int} (h : Reads w ao n f) {B : Nat} (hb : Below B w w') (hB : w.heap.size ≤ B) : Reads w' ao n f := by
  rcases h with h | ⟨b, off, rfl, h1, h2⟩
  · exact .inl h
  · refine .inr ⟨b, off, rfl, Nat.lt_of_lt_of_le h1 hb.size, fun j hj => ?_⟩
    rw [hb.cell (p := ⟨b, off + j, none⟩) (Nat.lt_of_lt_of_le h1 hB)]
    exact h2 j hj

/-- What lineEnds leaves: a row of the call's own that holds the ends; nothing below B has turned. -/
def EndsPost (B : Nat) (w : World) (f : Nat → Int) (n : Nat) (e : Ending) (w' : World) : Prop :=
  ∃ g m c ev, e = .returned (.slice (some ⟨g, 0, none⟩) m c) ∧ B ≤ g ∧ g < w'.heap.size ∧ (∀ j, j < m → w'.cell? ⟨g, j, none⟩ = some (.int .i64 (ev j))) ∧ Below B w w' ∧ Pl.EndsIs f n m ev
theorem EndsPost.mk {B : Nat} {w : World} {f : Nat → Int} {n : Nat} {e : Ending} {w' : World} {g m c : Nat} {ev : Nat → Int} (h0 : e = .returned (.slice (some ⟨g, 0, none⟩) m c)) (h1 : B ≤ g) (h2 : g < w'.heap.size)
    (h3 : ∀ j, j < m → w'.cell? ⟨g, j, none⟩ = some (.int .i64 (ev j))) (h4 : Below B w w') (h5 : Pl.EndsIs f n m ev) : EndsPost B w f n e w' := ⟨g, m, c, ev, h0, h1, h2, h3, h4, h5⟩

theorem own_form {w : World} {B e : Nat} {v : Value} {m : Nat} {xs : List Value} (h : w.ownsRow B e 1 v m xs) : ∃ ao c, v = .slice ao m c := by
  rcases h.2 with ⟨rfl, rfl⟩ | ⟨g, cap, cur, rfl, _⟩
  · exact ⟨none, 0, rfl⟩
  · exact ⟨_, _, rfl⟩
theorem own_read {w : World} {B e : Nat} {v : Value} {m : Nat} {xs : List Int} {k : IntKind} (h : w.ownsRow B e 1 v m (xs.map (Value.int k))) (hp : 0 < m) :
    ∃ g c, v = .slice (some ⟨g, 0, none⟩) m c ∧ B ≤ g ∧ g < w.heap.size ∧ ∀ j, j < m → w.cell? ⟨g, j, none⟩ = some (.int k (xs.getD j 0)) := by
  have hl := h.1
  rcases h.2 with ⟨_, h0⟩ | ⟨g, cap, cur, rfl, hb, hg, _⟩
  · omega
  · have hlt := (Array.getElem?_eq_some_iff.1 hg).1
    refine ⟨g, cap, rfl, hb, hlt, fun j hj => ?_⟩
    have := h.cells (g := g) rfl j (.int k (xs.getD j 0)) (by simp at hl; simp [show j < xs.length by omega])
    simpa [Addr.add_lit] using this

theorem rel_hit {B k n : Nat} {f : Nat → Int} {w wr w1 : World} {v v' : Value} {o : Obj} (hE : Pl.isEnd f n k = true) (hB : B ≤ wr.heap.size)
    (hown : wr.ownsRow B 3 1 v (Pl.gath f n k).length ((Pl.gath f n k).map (Value.int .i64))) (hnx : Below B w wr)
    (hown' : w1.ownsRow B 3 1 v' ((Pl.gath f n k).length + 1) ((Pl.gath f n k).map (Value.int .i64) ++ [.int .i64 ((k : Int) + 1)])) (hgrow : (wr.alloc o).grownBy w1 v.ownBlock) :
    w1.ownsRow B 3 1 v' (Pl.gath f n (k + 1)).length ((Pl.gath f n (k + 1)).map (Value.int .i64)) ∧ Below B w w1 := by
  rw [Pl.gath_hit f n k hE]
  refine ⟨by simpa using hown', (hnx.alloc hB o).grown hgrow (by simp; omega) (fun j hj => (hown.lt j hj).1)⟩

theorem oneInt (k : IntKind) (x : Int) : ∀ u ∈ [Value.int k x], u.oneCell' = true := by
  intro u hu; simp at hu; subst hu; rfl
theorem fin_ends {B k : Nat} {f : Nat → Int} {w w1 : World} {v' : Value} (hnx : Below B w w1) (hown' : w1.ownsRow B 3 1 v' (Pl.ends f k).length ((Pl.ends f k).map (Value.int .i64))) :
    ∃ g c ev, v' = .slice (some ⟨g, 0, none⟩) (Pl.ends f k).length c ∧ B ≤ g ∧ g < w1.heap.size ∧ (∀ j, j < (Pl.ends f k).length → w1.cell? ⟨g, j, none⟩ = some (.int .i64 (ev j))) ∧ Below B w w1 ∧ Pl.EndsIs f k (Pl.ends f k).length ev := by
  obtain ⟨g, c, h1, h2, h3, h4⟩ := own_read hown' (by simp [Pl.ends])
  exact ⟨g, c, fun j => (Pl.ends f k).getD j 0, h1, h2, h3, h4, hnx, rfl, fun j => rfl⟩
theorem split_last (l : List Int) (h : l.length ≠ 0) : ∃ L x, l = L ++ [x] := by
  rcases List.eq_nil_or_concat l with h0 | ⟨L, x, h0⟩
  · simp [h0] at h
  · exact ⟨L, x, by rw [h0]; simp⟩
theorem fin_keep {B k m : Nat} {X : List Value} {f : Nat → Int} {w w1 : World} {v' : Value} (HM : Hid (m = (Pl.gath f k k).length ∧ X = (Pl.gath f k k).map (Value.int .i64))) (he : Pl.gath f k k = Pl.ends f k)
    (hown' : w1.ownsRow B 3 1 v' m X) (hnx : Below B w w1) :
    ∃ g c ev, v' = .slice (some ⟨g, 0, none⟩) m c ∧ B ≤ g ∧ g < w1.heap.size ∧ (∀ j, j < m → w1.cell? ⟨g, j, none⟩ = some (.int .i64 (ev j))) ∧ Below B w w1 ∧ Pl.EndsIs f k m ev := by
  obtain ⟨hm, hX⟩ := HM.out
  subst hm hX
  rw [he] at hown' ⊢
  exact fin_ends hnx hown'
theorem fin_add {B k m : Nat} {X : List Value} {f : Nat → Int} {w wr w1 : World} {v v' : Value} {o : Obj} (HM : Hid (m = (Pl.gath f k k).length ∧ X = (Pl.gath f k k).map (Value.int .i64))) (hB : B ≤ wr.heap.size)
    (hend : Hid (Pl.gath f k k = [] ∨ ∃ L x, Pl.gath f k k = L ++ [x] ∧ x < (k : Int)))
    (hown : wr.ownsRow B 3 1 v m X) (hnx : Below B w wr) (hown' : w1.ownsRow B 3 1 v' (m + 1) (X ++ [.int .i64 (k : Int)])) (hgrow : (wr.alloc o).grownBy w1 v.ownBlock) :
    ∃ g c ev, v' = .slice (some ⟨g, 0, none⟩) (m + 1) c ∧ B ≤ g ∧ g < w1.heap.size ∧ (∀ j, j < m + 1 → w1.cell? ⟨g, j, none⟩ = some (.int .i64 (ev j))) ∧ Below B w w1 ∧ Pl.EndsIs f k (m + 1) ev := by
  obtain ⟨hm, hX⟩ := HM.out
  subst hm hX
  have he := Pl.ends_add f k hend.out
  have hl : (Pl.gath f k k).length + 1 = (Pl.ends f k).length := by rw [← he]; simp
  rw [hl] at hown' ⊢
  refine fin_ends ((hnx.alloc hB o).grown hgrow (by simp; omega) (fun j hj => (hown.lt j hj).1)) ?_
  rw [← he] at hown' ⊢
  simpa using hown'

set_option maxHeartbeats 800000 in
theorem lineEnds_any (ao : Option Addr) (n cap : Nat) (f : Nat → Int) (w : World) (hn : n ≤ 1048576) (ha : Reads w ao n f) :
    Calls Try.prog 17 #[.slice ao n cap] w fun e w' => EndsPost w.heap.size w f n e w' := by
  obtain ⟨i0, hi, hz0, hz1, hz2⟩ := info_parts Try.info3
  obtain ⟨B, hB⟩ : ∃ B, B = w.heap.size := ⟨_, rfl⟩
  rw [← hB]
  have HB : Hid (B = w.heap.size) := hB
  clear hB
  go_enter Try.func17, Try.ntmps17
  go_wp2
  go_loopw [3, 9] (fun v i wr => ∃ k : Nat, k ≤ n ∧ i = .int .i64 k ∧ wr.ownsRow B 3 1 v (Pl.gath f n k).length ((Pl.gath f n k).map (Value.int .i64)) ∧ Below B w wr)
    (fun _ i _ => n - (intOf i).toNat)
  case atStart => exact ⟨0, Nat.zero_le _, rfl, World.ownsRow_nil _ _ _ _, Below.refl _ _⟩
  case round =>
    obtain ⟨k, hk, rfl, hown, hnx⟩ := hrel
    have hgl := Pl.gath_len f n k
    have hBr : B ≤ wr.heap.size := by rw [HB.out]; exact hnx.size
    by_cases hlt : k < n
    · rcases ha with h0 | ⟨b, off, rfl, hb, hc⟩
      · omega
      have hbB : b < B := by rw [HB.out]; exact hb
      have hc1 : wr.cell? ⟨b, off + k, none⟩ = some (.int .u8 (f k)) := (hnx.cell (by exact hbB)).trans (hc k hlt)
      have hc2 : k + 1 < n → wr.cell? ⟨b, off + (k + 1), none⟩ = some (.int .u8 (f (k + 1))) := fun h => (hnx.cell (by exact hbB)).trans (hc (k + 1) h)
      clear hc
      by_cases h13 : f k = 13
      · by_cases hnx1 : k + 1 < n
        · have hc3 := hc2 hnx1
          by_cases h10 : f (k + 1) = 10
          · have hE : Hid (Pl.isEnd f n k = false) := by show _ = _; simp [Pl.isEnd, h13, hnx1, h10]
            go_wp2
            go_roundw
            case rel => exact ⟨k + 1, by omega, by go_num, by rw [Pl.gath_miss f n k hE.out]; exact hown, hnx⟩
            case measure => simp [intOf]; omega
          · have hE : Hid (Pl.isEnd f n k = true) := by show _ = _; simp [Pl.isEnd, h13, h10]
            have h10' : (f (k + 1) == 10) = false := by simpa using h10
            go_wp2_with (at_builtin; refine wpList_append_own _ rfl _ _ 24 rfl B 3 i0 (.int .i64 0) 1 8 Try.underlying24 hi hz0 hz1 hz2 rfl (by decide) _ _ _ rfl (hown.alloc _) ⟨wr.heap.size, 0, none⟩ 1 1 [.int .i64 ((k : Int) + 1)] rfl rfl (cell_one_new _ _ _) (oneInt _ _) ?ac3 ?ac4 ?ac5 ?_)
            case ac3 => unfold maxLen; omega
            case ac4 => omega
            case ac5 => first | omega | (simp; omega)
            intro v' w1 hown' hgrow _
            have R := rel_hit hE.out hBr hown hnx hown' hgrow
            clear hown' hgrow hown
            go_wp2
            go_roundw
            case rel => exact ⟨k + 1, by omega, by go_num, R.1, R.2⟩
            case measure => simp [intOf]; omega
        · have hE : Hid (Pl.isEnd f n k = true) := by show _ = _; simp [Pl.isEnd, h13, hnx1]
          go_wp2_with (at_builtin; refine wpList_append_own _ rfl _ _ 24 rfl B 3 i0 (.int .i64 0) 1 8 Try.underlying24 hi hz0 hz1 hz2 rfl (by decide) _ _ _ rfl (hown.alloc _) ⟨wr.heap.size, 0, none⟩ 1 1 [.int .i64 ((k : Int) + 1)] rfl rfl (cell_one_new _ _ _) (oneInt _ _) ?bc3 ?bc4 ?bc5 ?_)
          case bc3 => unfold maxLen; omega
          case bc4 => omega
          case bc5 => first | omega | (simp; omega)
          intro v' w1 hown' hgrow _
          have R := rel_hit hE.out hBr hown hnx hown' hgrow
          clear hown' hgrow hown
          go_wp2
          go_roundw
          case rel => exact ⟨k + 1, by omega, by go_num, R.1, R.2⟩
          case measure => simp [intOf]; omega
      · have h13' : (f k == 13) = false := by simpa using h13
        by_cases h10 : f k = 10
        · have hE : Hid (Pl.isEnd f n k = true) := by show _ = _; simp [Pl.isEnd, h10]
          go_wp2_with (at_builtin; refine wpList_append_own _ rfl _ _ 24 rfl B 3 i0 (.int .i64 0) 1 8 Try.underlying24 hi hz0 hz1 hz2 rfl (by decide) _ _ _ rfl (hown.alloc _) ⟨wr.heap.size, 0, none⟩ 1 1 [.int .i64 ((k : Int) + 1)] rfl rfl (cell_one_new _ _ _) (oneInt _ _) ?cc3 ?cc4 ?cc5 ?_)
          case cc3 => unfold maxLen; omega
          case cc4 => omega
          case cc5 => first | omega | (simp; omega)
          intro v' w1 hown' hgrow _
          have R := rel_hit hE.out hBr hown hnx hown' hgrow
          clear hown' hgrow hown
          go_wp2
          go_roundw
          case rel => exact ⟨k + 1, by omega, by go_num, R.1, R.2⟩
          case measure => simp [intOf]; omega
        · have hE : Hid (Pl.isEnd f n k = false) := by show _ = _; simp [Pl.isEnd, h13, h10]
          have h10' : (f k == 10) = false := by simpa using h10
          go_wp2
          go_roundw
          case rel => exact ⟨k + 1, by omega, by go_num, by rw [Pl.gath_miss f n k hE.out]; exact hown, hnx⟩
          case measure => simp [intOf]; omega
    · have hkn : k = n := by omega
      subst hkn
      clear hk hlt
      obtain ⟨m, hm⟩ : ∃ m, m = (Pl.gath f k k).length := ⟨_, rfl⟩
      obtain ⟨X, hX⟩ : ∃ X, X = (Pl.gath f k k).map (Value.int .i64) := ⟨_, rfl⟩
      rw [← hm, ← hX] at hown
      rw [← hm] at hgl
      have HM : Hid (m = (Pl.gath f k k).length ∧ X = (Pl.gath f k k).map (Value.int .i64)) := ⟨hm, hX⟩
      by_cases hm0 : m = 0
      · have hend : Hid (Pl.gath f k k = [] ∨ ∃ L x, Pl.gath f k k = L ++ [x] ∧ x < (k : Int)) := Or.inl (List.eq_nil_of_length_eq_zero (by omega))
        obtain ⟨va, vc, hv⟩ := own_form hown
        subst hm0
        subst hv
        clear hgl hm hX
        go_wp2_with (at_builtin; refine wpList_append_own _ rfl _ _ 24 rfl B 3 i0 (.int .i64 0) 1 8 Try.underlying24 hi hz0 hz1 hz2 rfl (by decide) _ _ _ rfl (hown.alloc _) ⟨wr.heap.size, 0, none⟩ 1 1 [.int .i64 ((k : Int))] rfl rfl (cell_one_new _ _ _) (oneInt _ _) ?dc3 ?dc4 ?dc5 ?_)
        case dc3 => unfold maxLen; omega
        case dc4 => omega
        case dc5 => first | omega | (simp; omega)
        intro v' w1 hown' hgrow _
        obtain ⟨g, c, ev, hv, h1, h2, h3, h4, h5⟩ := fin_add HM hBr hend hown hnx hown' hgrow
        rw [hv]
        clear hown' hgrow hown hv
        go_wp2
        go_ret
        exact EndsPost.mk rfl h1 h2 h3 h4 h5
      · obtain ⟨L, x, hLx⟩ := split_last (Pl.gath f k k) (by omega)
        have hmL : m = L.length + 1 := by rw [hm, hLx]; simp
        rw [hX] at hown
        obtain ⟨vg, vc, hv, _, hvb, hvc⟩ := own_read hown (by omega)
        rw [← hX] at hown
        have hlast := hvc (m - 1) (by omega)
        have hx : (Pl.gath f k k).getD (m - 1) 0 = x := by rw [hLx, hmL]; simp
        rw [hx] at hlast
        subst hv
        by_cases hxk : x < (k : Int)
        · have hend : Hid (Pl.gath f k k = [] ∨ ∃ L x, Pl.gath f k k = L ++ [x] ∧ x < (k : Int)) := Or.inr ⟨L, x, hLx, hxk⟩
          clear hm hX hmL hx hvc hLx
          go_wp2_with (at_builtin; refine wpList_append_own _ rfl _ _ 24 rfl B 3 i0 (.int .i64 0) 1 8 Try.underlying24 hi hz0 hz1 hz2 rfl (by decide) _ _ _ rfl (hown.alloc _) ⟨wr.heap.size, 0, none⟩ 1 1 [.int .i64 ((k : Int))] rfl rfl (cell_one_new _ _ _) (oneInt _ _) ?ec3 ?ec4 ?ec5 ?_)
          case ec3 => unfold maxLen; omega
          case ec4 => omega
          case ec5 => first | omega | (simp; omega)
          intro v' w1 hown' hgrow _
          obtain ⟨g, c, ev, hv, h1, h2, h3, h4, h5⟩ := fin_add HM hBr hend hown hnx hown' hgrow
          rw [hv]
          clear hown' hgrow hown hv
          go_wp2
          go_ret
          exact EndsPost.mk rfl h1 h2 h3 h4 h5
        · have HF := fin_keep HM (Pl.ends_keep f k L x hLx (by omega)) hown hnx
          clear hm hX hmL hx hvc hLx
          go_wp2
          go_ret
          obtain ⟨g, c, ev, hv, h1, h2, h3, h4, h5⟩ := HF
          simp only [Value.slice.injEq, Option.some.injEq, Addr.mk.injEq, and_true, true_and] at hv
          obtain ⟨rfl, rfl⟩ := hv
          exact EndsPost.mk rfl h1 h2 h3 h4 h5

end Go.Proofs.Qxb6617875a
