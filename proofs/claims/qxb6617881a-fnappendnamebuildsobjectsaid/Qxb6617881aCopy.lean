/-
  WHAT THE LAWS' OWN COPIES COME TO: 'make([]byte, len(x)); copy(..)'. No walk here.
-/
import Derived.Test.Qxb6617881aCamelWalk
namespace Go.Proofs.Qxb6617881a
open Go.RowKit

/-- WHAT THE WALK IS TOLD OF A SLICE OF BYTES THAT CAME IN. -/
def IsRow (k : IntKind) (w : World) (a : Option Addr) (len cap : Nat) (zs : List Int) : Prop :=
  (a = none ∧ len = 0 ∧ cap = 0 ∧ zs = []) ∨
  ∃ x, a = some x ∧ len ≤ cap ∧ cap ≤ maxLen ∧ zs.length = cap ∧ (∀ i, i < zs.length → w.cell? (x.add i) = some (.int k (zs.getD i 0))) ∧ ∀ n ∈ zs, (Lit.int k n).wf = true

/-- The bytes that are copied, as cells. -/
def cellsOf (f : Nat → Int) (n : Nat) : List Value := (List.range n).map (fun j => Value.int .u8 (f j))
theorem cellsOf_len (f : Nat → Int) (n : Nat) : (cellsOf f n).length = n := by simp [cellsOf]
theorem cellsOf_get (f : Nat → Int) (n j : Nat) (h : j < n) : (cellsOf f n)[j]? = some (.int .u8 (f j)) := by simp [cellsOf, h]
theorem cellsOf_one (f : Nat → Int) (n : Nat) : ∀ v ∈ cellsOf f n, v.oneCell' = true := by
  intro v hv
  obtain ⟨_, _, rfl⟩ := List.mem_map.1 hv
  rfl

/-- A row that 'make([]byte, n)' has laid, as a block. -/
theorem made_block {w : World} {B g n : Nat} {xs : List Value} (h : w.ownsRow B 5 1 (.slice (some ⟨g, 0, none⟩) n n) n xs) : w.heap[g]? = some (.cells xs.toArray 5 (0, 0)) ∧ xs.length = n := by
  obtain ⟨hl, h2⟩ := h
  rcases h2 with ⟨h2, _⟩ | ⟨g', cap, cur, h2, _, hg, _, _, hs, ht⟩
  · simp at h2
  · simp only [Value.slice.injEq, Option.some.injEq, Addr.mk.injEq, and_true, true_and] at h2
    obtain ⟨rfl, rfl⟩ := h2
    have e : cur.toList = xs := by
      rw [← ht]
      exact (List.take_of_length_le (by simp; omega)).symm
    refine ⟨?_, by simpa using hl⟩
    rw [hg, ← e]

theorem copied {w : World} {g n : Nat} {f : Nat → Int} {xs : List Value} (hx : xs.length = n) (h : Hid (w.heap[g]? = some (.cells (splice xs 0 (cellsOf f n)).toArray 5 (0, 0)))) : Reads w (some ⟨g, 0, none⟩) n f := by
  refine .inr ⟨g, 0, rfl, (Array.getElem?_eq_some_iff.1 h.out).1, fun j hj => ?_⟩
  rw [Nat.zero_add, cell_of_row w g j _ 5 (0, 0) h.out]
  have e : splice xs 0 (cellsOf f n) = cellsOf f n := by
    simp [splice, cellsOf_len, hx]
  rw [e]
  simp [cellsOf, hj]

/-- Where the copy reads: the cells that came in, in a world that has at most new blocks. -/
theorem src_cells {w w1 : World} {x : Addr} {len : Nat} {f : Nat → Int} (hc : ∀ i, i < len → w.cell? (x.add i) = some (.int .u8 (f i))) (hg : w.grownBy w1 none) :
    ∀ j v, (cellsOf f len)[j]? = some v → w1.cell? (x.add j) = some v := by
  intro j v hv
  have hj : j < len := by
    have := (List.getElem?_eq_some_iff.1 hv).1
    rwa [cellsOf_len] at this
  rw [cellsOf_get _ _ _ hj] at hv
  rw [← hv]
  exact hg.cell (hc j hj) (by simp)

/-- A slice of bytes as it came in. -/
def Came (w : World) (a : Option Addr) (n c : Nat) (f : Nat → Int) : Prop :=
  (a = none ∧ n = 0 ∧ c = 0) ∨ ∃ x, a = some x ∧ ∀ i, i < n → w.cell? (x.add i) = some (.int .u8 (f i))

/-- What a copy of n bytes f is: the value s, in the world wc; w: as it was before. -/
def Copied (w : World) (n : Nat) (f : Nat → Int) (s : Value) (wc : World) : Prop :=
  ∃ a c, s = .slice a n c ∧ Reads wc a n f ∧ (a = none → n = 0 ∧ c = 0) ∧ Below w.heap.size w wc

theorem Came.later {w w' : World} {a : Option Addr} {n c : Nat} {f : Nat → Int} (h : Came w a n c f) (hb : Below w.heap.size w w') : Came w' a n c f := by
  rcases h with h | ⟨x, rfl, h⟩
  · exact .inl h
  · refine .inr ⟨x, rfl, fun i hi => ?_⟩
    rw [hb.cell (World.block_lt_of_cell? w _ (h i hi))]
    exact h i hi

theorem Copied.nil (w : World) (f : Nat → Int) : Copied w 0 f (.slice none 0 0) w := ⟨none, 0, rfl, .inl rfl, fun _ => ⟨rfl, rfl⟩, Below.refl _ _⟩
theorem Copied.of {w w2 : World} {n : Nat} {f : Nat → Int} {g : Nat} {xs : List Value} (hx : xs.length = n) (h : Hid (w2.heap[g]? = some (.cells (splice xs 0 (cellsOf f n)).toArray 5 (0, 0)))) (hb : Below w.heap.size w w2) :
    Copied w n f (.slice (some ⟨g, 0, none⟩) n n) w2 := ⟨_, _, rfl, copied hx h, fun e => by simp at e, hb⟩

theorem IsRow.come {w : World} {a : Option Addr} {len cap : Nat} {zs : List Int} (h : IsRow .u8 w a len cap zs) : len ≤ maxLen ∧ ∃ f K, Came w a len cap f ∧ Is f len K := by
  rcases h with ⟨rfl, rfl, rfl, rfl⟩ | ⟨x, rfl, hlc, hcm, hz, hcell, hwz⟩
  · exact ⟨Nat.zero_le _, fun _ => 0, [], .inl ⟨rfl, rfl, rfl⟩, rfl, fun j hj => by omega⟩
  · refine ⟨Nat.le_trans hlc hcm, fun i => zs.getD i 0, (zs.take len).map (fun z => UInt8.ofNat z.toNat), .inr ⟨x, rfl, fun i hi => hcell i (by omega)⟩, by simp; omega, fun j hj => ?_⟩
    have hjz : j < zs.length := by omega
    have hb := hwz zs[j] (List.getElem_mem hjz)
    simp [Lit.wf, IntKind.min, IntKind.max, IntKind.signed, IntKind.bits] at hb
    simp [List.getD, hj, hjz]
    omega

end Go.Proofs.Qxb6617881a
