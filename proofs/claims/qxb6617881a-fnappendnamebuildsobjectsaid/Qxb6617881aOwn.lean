/-
  SMALL LAWS ON ROWS OF BYTES THAT A CALL OWNS. No walk here.
-/
import Derived.Test.Qxb6617881aRows
import Derived.WalkKit
import Derived.WalkSpells
import Derived.WalkLawsBesides
import Derived.Lib.Strings
import Derived.Lib.IndexBytes
import Derived.Lib.SlBytesRow
import Derived.Lib.AppendStr
import Derived.Laws.CopyOwn
import Derived.Deep.QuietTactic
import Derived.BigQuiet
import Derived.Deep.DeepCutAuto
namespace Go.Proofs.Qxb6617881a
open Go.RowKit

theorem Try.info5 : (Try.prog.info? 5).map (fun i => (i.zero, i.size, i.bytes)) = some (some (.int .u8 0), 1, 1) := by kernel_rfl
theorem Try.size5 : (Try.prog.info? 5).map (·.size) = some 1 := by kernel_rfl

theorem ret_bool {a b : Bool} (h : a = b) : Ending.returned (.bool a) = .returned (.bool b) := by rw [h]
theorem val_bool {a b : Bool} (h : a = b) : Value.bool a = .bool b := by rw [h]
theorem val_int {k : IntKind} {a b : Int} (h : a = b) : Value.int k a = .int k b := by rw [h]
theorem oneInt (k : IntKind) (x : Int) : ∀ u ∈ [Value.int k x], u.oneCell' = true := by
  intro u hu; simp at hu; subst hu; rfl

/-- Bytes as cells. -/
def byt (l : List UInt8) : List Value := l.map fun b => Value.int .u8 b.toNat
theorem byt_append (a b : List UInt8) : byt (a ++ b) = byt a ++ byt b := by simp [byt]
theorem byt_length (l : List UInt8) : (byt l).length = l.length := by simp [byt]
theorem byt_get (l : List UInt8) (j : Nat) (h : j < l.length) : (byt l)[j]? = some (.int .u8 ((l.getD j 0).toNat : Int)) := by simp [byt, List.getD, h]
theorem byt_one (l : List UInt8) : ∀ u ∈ byt l, u.oneCell' = true := by
  intro u hu
  obtain ⟨_, _, rfl⟩ := List.mem_map.1 hu
  rfl
theorem strCells_byt (s : ByteArray) : Lib.strCells s = byt s.data.toList := rfl

/-- 'v' is a slice that owns just the bytes l. -/
def Owns (w : World) (B : Nat) (v : Value) (l : List UInt8) : Prop := w.ownsRow B 5 1 v l.length (byt l)

theorem Owns.form {w : World} {B : Nat} {v : Value} {l : List UInt8} (h : Owns w B v l) : ∃ ao c, v = .slice ao l.length c := by
  rcases h.2 with ⟨rfl, h0⟩ | ⟨g, cap, cur, rfl, _⟩
  · exact ⟨none, 0, by rw [h0]⟩
  · exact ⟨_, _, rfl⟩
theorem Owns.some {w : World} {B : Nat} {v : Value} {l : List UInt8} (h : Owns w B v l) (hp : 0 < l.length) :
    ∃ g c, v = .slice (some ⟨g, 0, none⟩) l.length c ∧ B ≤ g ∧ g < w.heap.size ∧ ∀ j, j < l.length → w.cell? ⟨g, j, none⟩ = some (.int .u8 ((l.getD j 0).toNat : Int)) := by
  have h' : w.ownsRow B 5 1 v l.length (byt l) := h
  rcases h'.2 with ⟨_, h0⟩ | ⟨g, cap, cur, rfl, hb, hg, _⟩
  · omega
  · have hlt := (Array.getElem?_eq_some_iff.1 hg).1
    refine ⟨g, cap, rfl, hb, hlt, fun j hj => ?_⟩
    have := h'.cells (g := g) rfl j _ (byt_get l j hj)
    simpa [Addr.add_lit] using this

theorem Owns.conv {w : World} {B : Nat} {v : Value} {l : List UInt8} (h : Owns w B v l) (hp : 0 < l.length) :
    (convert 22 9 v).run Try.prog w = .ok (.string ⟨l.toArray⟩) w := by
  obtain ⟨g, c, rfl, _, _, hc⟩ := h.some hp
  refine run_convert_bytes_back w 22 9 5 ⟨g, 0, none⟩ c l Try.underlying22 Try.underlying5 Try.underlying9 (fun j hj => ?_)
  rw [Addr.add_lit, Nat.zero_add, hc j hj]
  simp [List.getD, hj]

theorem list_data (l : List UInt8) : (⟨l.toArray⟩ : ByteArray).data.toList = l := rfl
theorem list_size (l : List UInt8) : (⟨l.toArray⟩ : ByteArray).size = l.length := rfl
theorem len_data (s : ByteArray) : s.data.toList.length = s.size := by simp
theorem byte_getD (s : ByteArray) (k : Nat) (h : k < s.size) : s.data.toList.getD k 0 = s[k] := by
  have h' : k < s.data.toList.length := by simpa using h
  rw [List.getD_eq_getElem?_getD, List.getElem?_eq_getElem h']
  simp
  rfl
theorem take_data (s : ByteArray) (i : Nat) : (s.extract 0 i).data.toList = s.data.toList.take i := by
  rw [Lib.extract_data]; simp
theorem drop_data (s : ByteArray) (i : Nat) : (s.extract i s.size).data.toList = s.data.toList.drop i := Lib.extract_to_end s i

/-! ### The laws on append, told by bytes; what they leave comes hidden from the walk -/
theorem Owns.alloc {w : World} {B : Nat} {v : Value} {l : List UInt8} (h : Owns w B v l) (o : Obj) : Owns (w.alloc o) B v l := World.ownsRow.alloc h o
theorem Owns.cast {w : World} {B : Nat} {v : Value} {l l' : List UInt8} (h : Owns w B v l) (e : l = l') : Owns w B v l' := e ▸ h
theorem Owns.nil (w : World) (B : Nat) : Owns w B (.slice none 0 0) [] := World.ownsRow_nil w B 5 1

section
variable (w : World)

/-- 'append(b, s...)', s a string. -/
theorem app_str {ops : Array Oper} {rest : List Oper} {o : Oper} {a : Act} {Q : Exit → Act → World → Prop} (hgd : o.guard = none) (sl x : Operand)
    (ho : o.op = .call { callee := .builtin .append, args := #[sl, x], argTypes := #[22, 9] }) (B : Nat) (v : Value) (l : List UInt8) (hs : a.eval sl = v) (hown : Owns w B v l) (s : ByteArray) (hx : a.eval x = .string s)
    (hlen : l.length + s.size ≤ 140737488355328) (hbase : B ≤ w.heap.size) (w0 : World) (hb : Below B w0 w)
    (h : ∀ v' w', Hid (Owns w' B v' (l ++ s.data.toList)) → Hid (Below B w0 w') → wpList Try.prog ops Q rest (a.put o.dst v') w') : wpList Try.prog ops Q (o :: rest) a w := by
  obtain ⟨i0, hi0, hz0, hz1, hz2⟩ := info_parts Try.info5
  refine Lib.wpList_append_own_string w hgd sl x 22 9 ho B 5 i0 Try.underlying22 Try.underlying9 hi0 hz0 hz1 hz2 v _ _ hs hown s hx (by unfold maxLen; omega) hlen hbase ?_
  intro v' w' h1 h2 _
  refine h v' w' ?_ (hb.grown h2 hbase (fun k hk => (World.ownsRow.lt hown k hk).1))
  show w'.ownsRow B 5 1 v' _ _
  rw [byt_append, List.length_append, len_data]
  exact h1

/-- 'append(b, x, y)': what is appended lies in a block of its own. -/
theorem app_src {ops : Array Oper} {rest : List Oper} {o : Oper} {a : Act} {Q : Exit → Act → World → Prop} (hgd : o.guard = none) (sl x : Operand)
    (ho : o.op = .call { callee := .builtin .append, args := #[sl, x], argTypes := #[22, 22] }) (B : Nat) (v : Value) (l : List UInt8) (hs : a.eval sl = v) (hown : Owns w B v l) (ad : Addr) (m c : Nat) (k : List UInt8)
    (hx : a.eval x = .slice (some ad) m c) (hm : k.length = m) (hk : ∀ j u, (byt k)[j]? = some u → w.cell? (ad.add j) = some u)
    (hlen : l.length + m ≤ 140737488355328) (hbase : B ≤ w.heap.size) (w0 : World) (hb : Below B w0 w)
    (h : ∀ v' w', Hid (Owns w' B v' (l ++ k)) → Hid (Below B w0 w') → wpList Try.prog ops Q rest (a.put o.dst v') w') : wpList Try.prog ops Q (o :: rest) a w := by
  obtain ⟨i0, hi0, hz0, hz1, hz2⟩ := info_parts Try.info5
  refine wpList_append_own w hgd sl x 22 ho B 5 i0 (.int .u8 0) 1 1 Try.underlying22 hi0 hz0 hz1 hz2 rfl (by decide) v _ _ hs hown ad m c (byt k) hx (by rw [byt_length, hm, Nat.mul_one]) hk (byt_one k) (by unfold maxLen; omega) (by omega) hbase ?_
  intro v' w' h1 h2 _
  refine h v' w' ?_ (hb.grown h2 hbase (fun k hk => (World.ownsRow.lt hown k hk).1))
  show w'.ownsRow B 5 1 v' _ _
  rw [byt_append, List.length_append, hm]
  exact h1

/-- 'append(b, c)': one byte. -/
theorem app_one {ops : Array Oper} {rest : List Oper} {o : Oper} {a : Act} {Q : Exit → Act → World → Prop} (hgd : o.guard = none) (sl x : Operand)
    (ho : o.op = .call { callee := .builtin .append, args := #[sl, x], argTypes := #[22, 22] }) (B : Nat) (v : Value) (l : List UInt8) (hs : a.eval sl = v) (hown : Owns w B v l) (ad : Addr) (u : Value) (c8 : UInt8)
    (hx : a.eval x = .slice (some ad) 1 1) (hu : u = .int .u8 c8.toNat) (hk : ∀ j u', [u][j]? = some u' → w.cell? (ad.add j) = some u')
    (hlen : l.length + 1 ≤ 140737488355328) (hbase : B ≤ w.heap.size) (w0 : World) (hb : Below B w0 w)
    (h : ∀ v' w', Hid (Owns w' B v' (l ++ [c8])) → Hid (Below B w0 w') → wpList Try.prog ops Q rest (a.put o.dst v') w') : wpList Try.prog ops Q (o :: rest) a w :=
  app_src w hgd sl x ho B v l hs hown ad 1 1 [c8] hx rfl (by subst hu; exact hk) hlen hbase w0 hb h
end

end Go.Proofs.Qxb6617881a
