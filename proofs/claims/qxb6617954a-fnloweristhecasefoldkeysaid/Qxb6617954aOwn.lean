/-
  SMALL LAWS ON BYTES: rows that a call owns, slices that are read, the laws' own copies. No walk here.
-/
import Derived.Test.Qxb6617954aCaseWalk
import Derived.Lib.Strings
import Derived.Lib.IndexBytes
import Derived.Lib.SlBytesRow
import Derived.Lib.ConvBytes
import Derived.Laws.CopyOwn
import Derived.Deep.QuietTactic
import Derived.BigQuiet
import Derived.Deep.DeepCutAuto
namespace Go.Proofs.Qxb6617954a
open Go.RowKit

theorem Try.info5 : (Try.prog.info? 5).map (fun i => (i.zero, i.size, i.bytes)) = some (some (.int .u8 0), 1, 1) := by kernel_rfl
theorem Try.size5 : (Try.prog.info? 5).map (·.size) = some 1 := by kernel_rfl

/-- Bytes as cells. -/
def byt (l : List UInt8) : List Value := l.map fun b => Value.int .u8 b.toNat
theorem byt_append (a b : List UInt8) : byt (a ++ b) = byt a ++ byt b := by simp [byt]
theorem byt_length (l : List UInt8) : (byt l).length = l.length := by simp [byt]
theorem byt_get (l : List UInt8) (j : Nat) (h : j < l.length) : (byt l)[j]? = some (.int .u8 ((l.getD j 0).toNat : Int)) := by simp [byt, List.getD, h]
theorem byt_one (l : List UInt8) : ∀ u ∈ byt l, u.oneCell' = true := by
  intro u hu
  obtain ⟨_, _, rfl⟩ := List.mem_map.1 hu
  rfl
/-- 'v' is a slice that owns just the bytes l. -/
def Owns (w : World) (B : Nat) (v : Value) (l : List UInt8) : Prop := w.ownsRow B 5 1 v l.length (byt l)

theorem Owns.cast {w : World} {B : Nat} {v : Value} {l l' : List UInt8} (h : Owns w B v l) (e : l = l') : Owns w B v l' := e ▸ h
theorem list_data (l : List UInt8) : (⟨l.toArray⟩ : ByteArray).data.toList = l := rfl
theorem list_size (l : List UInt8) : (⟨l.toArray⟩ : ByteArray).size = l.length := rfl
theorem len_data (s : ByteArray) : s.data.toList.length = s.size := by simp
theorem byte_getD (s : ByteArray) (k : Nat) (h : k < s.size) : s.data.toList.getD k 0 = s[k] := by
  have h' : k < s.data.toList.length := by simpa using h
  rw [List.getD_eq_getElem?_getD, List.getElem?_eq_getElem h']
  simp
  rfl
theorem byt_set (l : List UInt8) (i : Nat) (c : UInt8) : byt (l.set i c) = (byt l).set i (.int .u8 c.toNat) := by
  simp [byt, List.map_set]

/-- A byte stored into an owned row. -/
theorem owns_stored {w : World} {B g n c : Nat} {l : List UInt8} (h : Owns w B (.slice (some ⟨g, 0, none⟩) n c) l) (hn : n = l.length) (i : Nat) (x : Int) (c8 : UInt8) (hx : x = (c8.toNat : Int)) :
    Owns (w.setCell ⟨g, i, none⟩ (.int .u8 x)) B (.slice (some ⟨g, 0, none⟩) n c) (l.set i c8) := by
  subst hn hx
  have := (World.ownsRow.stored (w := w) h i (.int .u8 c8.toNat)).1
  show World.ownsRow _ B 5 1 _ _ _
  rw [byt_set, List.length_set]
  exact this
theorem owns_frozen {w : World} {B g n c : Nat} {l : List UInt8} (h : Owns w B (.slice (some ⟨g, 0, none⟩) n c) l) (hn : n = l.length) (i : Nat) : w.frozen? ⟨g, i, none⟩ = false := by
  subst hn
  exact World.ownsRow.frozenAt h i

theorem owns_cell {w : World} {B g n c : Nat} {l : List UInt8} (h : Owns w B (.slice (some ⟨g, 0, none⟩) n c) l) (hn : n = l.length) {j : Nat} (hj : j < l.length) : w.cell? ⟨g, j, none⟩ = some (.int .u8 ((l.getD j 0).toNat : Int)) := by
  subst hn
  have := World.ownsRow.cells (w := w) h (g := g) rfl j _ (byt_get l j hj)
  simpa [Addr.add_lit] using this
theorem owns_lt {w : World} {B g n c : Nat} {l : List UInt8} (h : Owns w B (.slice (some ⟨g, 0, none⟩) n c) l) : B ≤ g ∧ g < w.heap.size := World.ownsRow.lt (w := w) h g rfl

/-- 'string(b)'. -/
theorem conv_some {w : World} {g n c : Nat} {l : List UInt8} (hn : n = l.length) (hc : ∀ j, j < l.length → w.cell? ⟨g, j, none⟩ = some (.int .u8 ((l.getD j 0).toNat : Int))) :
    (convert 22 9 (.slice (some ⟨g, 0, none⟩) n c)).run Try.prog w = .ok (.string ⟨l.toArray⟩) w := by
  subst hn
  refine run_convert_bytes_back w 22 9 5 ⟨g, 0, none⟩ c l Try.underlying22 Try.underlying5 Try.underlying9 (fun j hj => ?_)
  rw [Addr.add_lit, Nat.zero_add, hc j hj]
  simp [List.getD, hj]

/-- n bytes f lie where the slice begins; where there is none, nothing is said. -/
def Reads (w : World) (ao : Option Addr) (n : Nat) (f : Nat → Int) : Prop :=
  n = 0 ∨ ∃ b off, ao = some ⟨b, off, none⟩ ∧ b < w.heap.size ∧ ∀ j, j < n → w.cell? ⟨b, off + j, none⟩ = some (.int .u8 (f j))

theorem Reads.later {w w' : World} {ao : Option Addr} {n : Nat} {f : Nat → Int} (h : Reads w ao n f) {B : Nat} (hb : Below B w w') (hB : w.heap.size ≤ B) : Reads w' ao n f := by
  rcases h with h | ⟨b, off, rfl, h1, h2⟩
  · exact .inl h
  · refine .inr ⟨b, off, rfl, Nat.lt_of_lt_of_le h1 hb.size, fun j hj => ?_⟩
    rw [hb.cell (p := ⟨b, off + j, none⟩) (Nat.lt_of_lt_of_le h1 hB)]
    exact h2 j hj

/-- The numbers f are the bytes K. -/
def Is (f : Nat → Int) (n : Nat) (K : List UInt8) : Prop := n = K.length ∧ ∀ j, j < n → f j = ((K.getD j 0).toNat : Int)

/-- The first k bytes of K, then zeros. -/
def fillK (K : List UInt8) (n k : Nat) : List UInt8 := K.take k ++ List.replicate (n - k) 0
theorem fillK_len (K : List UInt8) (n k : Nat) (h : n = K.length) (hk : k ≤ n) : (fillK K n k).length = n := by simp [fillK]; omega
theorem fillK_all (K : List UInt8) (n : Nat) (h : n = K.length) : fillK K n n = K := by simp [fillK, h]
theorem fillK_next (K : List UInt8) (n k : Nat) (h : n = K.length) (hk : k < n) : (fillK K n k).set k (K.getD k 0) = fillK K n (k + 1) := by
  unfold fillK
  have hl : (K.take k).length = k := by simp; omega
  rw [List.set_append_right _ _ (by omega), hl, Nat.sub_self, show n - k = (n - (k + 1)) + 1 by omega, List.replicate_succ, List.set_cons_zero]
  have e : K.take (k + 1) = K.take k ++ [K.getD k 0] := by
    rw [List.take_succ_eq_append_getElem (by omega)]
    simp [List.getD, show k < K.length by omega]
  rw [e, List.append_assoc]
  rfl

/-- WHAT THE WALK IS TOLD OF A SLICE OF BYTES THAT CAME IN. -/
def IsRow (k : IntKind) (w : World) (a : Option Addr) (len cap : Nat) (zs : List Int) : Prop :=
  (a = none ∧ len = 0 ∧ cap = 0 ∧ zs = []) ∨
  ∃ x, a = some x ∧ len ≤ cap ∧ cap ≤ maxLen ∧ zs.length = cap ∧ (∀ i, i < zs.length → w.cell? (x.add i) = some (.int k (zs.getD i 0))) ∧ ∀ n ∈ zs, (Lit.int k n).wf = true

/-- The bytes that are copied, as cells. -/
def cellsOf (f : Nat → Int) (n : Nat) : List Value := (List.range n).map (fun j => Value.int .u8 (f j))
theorem cellsOf_len (f : Nat → Int) (n : Nat) : (cellsOf f n).length = n := by simp [cellsOf]
theorem cellsOf_get (f : Nat → Int) (n j : Nat) (h : j < n) : (cellsOf f n)[j]? = some (.int .u8 (f j)) := by simp [cellsOf, h]
theorem cellsOf_one (f : Nat → Int) (n : Nat) : ∀ v ∈ cellsOf f n, v.oneCell' = true := by
  intro v hv
  obtain ⟨_, _, rfl⟩ := List.mem_map.1 hv
  rfl

/-- A row that 'make([]byte, n)' has laid, as a block. -/
theorem made_block {w : World} {B g n : Nat} {xs : List Value} (h : w.ownsRow B 5 1 (.slice (some ⟨g, 0, none⟩) n n) n xs) : w.heap[g]? = some (.cells xs.toArray 5 (0, 0)) ∧ xs.length = n := by
  obtain ⟨hl, h2⟩ := h
  rcases h2 with ⟨h2, _⟩ | ⟨g', cap, cur, h2, _, hg, _, _, hs, ht⟩
  · simp at h2
  · simp only [Value.slice.injEq, Option.some.injEq, Addr.mk.injEq, and_true, true_and] at h2
    obtain ⟨rfl, rfl⟩ := h2
    have e : cur.toList = xs := by
      rw [← ht]
      exact (List.take_of_length_le (by simp; omega)).symm
    refine ⟨?_, by simpa using hl⟩
    rw [hg, ← e]

theorem copied {w : World} {g n : Nat} {f : Nat → Int} {xs : List Value} (hx : xs.length = n) (h : Hid (w.heap[g]? = some (.cells (splice xs 0 (cellsOf f n)).toArray 5 (0, 0)))) : Reads w (some ⟨g, 0, none⟩) n f := by
  refine .inr ⟨g, 0, rfl, (Array.getElem?_eq_some_iff.1 h.out).1, fun j hj => ?_⟩
  rw [Nat.zero_add, cell_of_row w g j _ 5 (0, 0) h.out]
  have e : splice xs 0 (cellsOf f n) = cellsOf f n := by
    simp [splice, cellsOf_len, hx]
  rw [e]
  simp [cellsOf, hj]

/-- Where the copy reads: the cells that came in, in a world that has at most new blocks. -/
theorem src_cells {w w1 : World} {x : Addr} {len : Nat} {f : Nat → Int} (hc : ∀ i, i < len → w.cell? (x.add i) = some (.int .u8 (f i))) (hg : w.grownBy w1 none) :
    ∀ j v, (cellsOf f len)[j]? = some v → w1.cell? (x.add j) = some v := by
  intro j v hv
  have hj : j < len := by
    have := (List.getElem?_eq_some_iff.1 hv).1
    rwa [cellsOf_len] at this
  rw [cellsOf_get _ _ _ hj] at hv
  rw [← hv]
  exact hg.cell (hc j hj) (by simp)

/-- A slice of bytes as it came in. -/
def Came (w : World) (a : Option Addr) (n c : Nat) (f : Nat → Int) : Prop :=
  (a = none ∧ n = 0 ∧ c = 0) ∨ ∃ x, a = some x ∧ ∀ i, i < n → w.cell? (x.add i) = some (.int .u8 (f i))

/-- What a copy of n bytes f is: the value s, in the world wc; w: as it was before. -/
def Copied (w : World) (n : Nat) (f : Nat → Int) (s : Value) (wc : World) : Prop :=
  Below w.heap.size w wc ∧ ((n = 0 ∧ s = .slice none 0 0) ∨ ∃ g, s = .slice (some ⟨g, 0, none⟩) n n ∧ g < wc.heap.size ∧ ∀ j, j < n → wc.cell? ⟨g, j, none⟩ = some (.int .u8 (f j)))

theorem Came.later {w w' : World} {a : Option Addr} {n c : Nat} {f : Nat → Int} (h : Came w a n c f) (hb : Below w.heap.size w w') : Came w' a n c f := by
  rcases h with h | ⟨x, rfl, h⟩
  · exact .inl h
  · refine .inr ⟨x, rfl, fun i hi => ?_⟩
    rw [hb.cell (World.block_lt_of_cell? w _ (h i hi))]
    exact h i hi

theorem Copied.nil (w : World) (f : Nat → Int) : Copied w 0 f (.slice none 0 0) w := ⟨Below.refl _ _, .inl ⟨rfl, rfl⟩⟩
theorem Copied.of {w w2 : World} {n : Nat} {f : Nat → Int} {g : Nat} {xs : List Value} (hx : xs.length = n) (h : Hid (w2.heap[g]? = some (.cells (splice xs 0 (cellsOf f n)).toArray 5 (0, 0)))) (hb : Below w.heap.size w w2) :
    Copied w n f (.slice (some ⟨g, 0, none⟩) n n) w2 := by
  have hlt := (Array.getElem?_eq_some_iff.1 h.out).1
  refine ⟨hb, .inr ⟨g, rfl, hlt, fun j hj => ?_⟩⟩
  rw [cell_of_row w2 g j _ 5 (0, 0) h.out]
  have e : splice xs 0 (cellsOf f n) = cellsOf f n := by
    simp [splice, cellsOf_len, hx]
  rw [e]
  simp [cellsOf, hj]

theorem IsRow.come {w : World} {a : Option Addr} {len cap : Nat} {zs : List Int} (h : IsRow .u8 w a len cap zs) : len ≤ maxLen ∧ ∃ f K, Came w a len cap f ∧ Is f len K := by
  rcases h with ⟨rfl, rfl, rfl, rfl⟩ | ⟨x, rfl, hlc, hcm, hz, hcell, hwz⟩
  · exact ⟨Nat.zero_le _, fun _ => 0, [], .inl ⟨rfl, rfl, rfl⟩, rfl, fun j hj => by omega⟩
  · refine ⟨Nat.le_trans hlc hcm, fun i => zs.getD i 0, (zs.take len).map (fun z => UInt8.ofNat z.toNat), .inr ⟨x, rfl, fun i hi => hcell i (by omega)⟩, by simp; omega, fun j hj => ?_⟩
    have hjz : j < zs.length := by omega
    have hb := hwz zs[j] (List.getElem_mem hjz)
    simp [Lit.wf, IntKind.min, IntKind.max, IntKind.signed, IntKind.bits] at hb
    simp [List.getD, hj, hjz]
    omega

end Go.Proofs.Qxb6617954a
