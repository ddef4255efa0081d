/-
  MORE SMALL LAWS ON ROWS OF BYTES THAT A CALL OWNS. No walk here.
-/
import Derived.Test.Qxb6617881aCopy
namespace Go.Proofs.Qxb6617881a
open Go.RowKit

theorem owns_later {w w' : World} {B B2 : Nat} {v : Value} {l : List UInt8} (h : Owns w B v l) (hb : Below B2 w w') (hB : w.heap.size ≤ B2) : Owns w' B v l := by
  have h' : w.ownsRow B 5 1 v l.length (byt l) := h
  have hlt := fun k hk => (World.ownsRow.lt h' k hk).2
  refine ⟨h'.1, ?_⟩
  rcases h'.2 with h2 | ⟨g, cap, cur, rfl, hb2, hg, r⟩
  · exact .inl h2
  · refine .inr ⟨g, cap, cur, rfl, hb2, ?_, r⟩
    rw [hb.block g (Nat.lt_of_lt_of_le (hlt g rfl) hB)]
    exact hg

theorem byt_set (l : List UInt8) (i : Nat) (c : UInt8) : byt (l.set i c) = (byt l).set i (.int .u8 c.toNat) := by
  simp [byt, List.map_set]

/-- A byte stored into an owned row. -/
theorem owns_stored {w : World} {B g n c : Nat} {l : List UInt8} (h : Owns w B (.slice (some ⟨g, 0, none⟩) n c) l) (hn : n = l.length) (i : Nat) (x : Int) (c8 : UInt8) (hx : x = (c8.toNat : Int)) :
    Owns (w.setCell ⟨g, i, none⟩ (.int .u8 x)) B (.slice (some ⟨g, 0, none⟩) n c) (l.set i c8) := by
  subst hn hx
  have := (World.ownsRow.stored (w := w) h i (.int .u8 c8.toNat)).1
  show World.ownsRow _ B 5 1 _ _ _
  rw [byt_set, List.length_set]
  exact this
theorem owns_frozen {w : World} {B g n c : Nat} {l : List UInt8} (h : Owns w B (.slice (some ⟨g, 0, none⟩) n c) l) (hn : n = l.length) (i : Nat) : w.frozen? ⟨g, i, none⟩ = false := by
  subst hn
  exact World.ownsRow.frozenAt h i

/-- An owned slice whose length is not nought begins at its own row's head. -/
theorem owns_at {w : World} {B m c : Nat} {ao : Option Addr} {l : List UInt8} (h : Owns w B (.slice ao m c) l) (hm : 0 < l.length) :
    ∃ g, ao = some ⟨g, 0, none⟩ ∧ m = l.length ∧ B ≤ g ∧ g < w.heap.size ∧ ∀ j, j < l.length → w.cell? ⟨g, j, none⟩ = some (.int .u8 ((l.getD j 0).toNat : Int)) := by
  obtain ⟨g, c', e, h1, h2, h3⟩ := h.some hm
  simp only [Value.slice.injEq] at e
  obtain ⟨rfl, rfl, rfl⟩ := e
  exact ⟨g, rfl, rfl, h1, h2, h3⟩

theorem owns_reads {w : World} {B m c : Nat} {ao : Option Addr} {l : List UInt8} (h : Owns w B (.slice ao m c) l) : ∃ f, Reads w ao m f ∧ Is f m l := by
  obtain ⟨ao', c', f, e, h1, h2⟩ := h.reads
  simp only [Value.slice.injEq] at e
  obtain ⟨rfl, rfl, rfl⟩ := e
  exact ⟨f, h1, h2⟩

/-- 'make([]byte, 0, n)'. -/
theorem mk_own (w : World) {ops : Array Oper} {rest : List Oper} {o : Oper} {a : Act} {Q : Exit → Act → World → Prop} (hg : o.guard = none) (l c : Operand) (hop : o.op = Op.makeSlice 22 l c)
    (kl kc : IntKind) (C : Int) (n : Nat) (hl : a.eval l = .int kl 0) (hc : a.eval c = .int kc C) (hC : C = (n : Int)) (hn : n ≤ 140737488355328) (B : Nat) (hB : B ≤ w.heap.size) (w0 : World) (hb : Below B w0 w)
    (h : ∀ v w', Hid (Owns w' B v []) → Hid (Below B w0 w') → wpList Try.prog ops Q rest (a.put o.dst v) w') : wpList Try.prog ops Q (o :: rest) a w := by
  obtain ⟨i0, hi0, hz0, hz1, hz2⟩ := info_parts Try.info5
  refine wpList_make_own w hg l c 22 hop B 5 i0 (.int .u8 0) 1 Try.underlying22 hi0 hz0 hz1 kl kc C n hl hc hC (by rw [hz2]; omega) (by unfold maxLen; omega) hB ?_
  intro w' h1 h2
  exact h _ w' h1 (hb.grown h2 hB (fun k hk => by cases hk))

end Go.Proofs.Qxb6617881a
