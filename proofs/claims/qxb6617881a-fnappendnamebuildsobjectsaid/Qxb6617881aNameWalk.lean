/-
  THE WALKS OF 'appendName' (20) AND 'ZZappendName' (17): onto a slice that is full, and onto one that is owned.
-/
import Derived.Test.Qxb6617881aAppWalk
namespace Go.Proofs.Qxb6617881a
open Go.RowKit

theorem two_new (w : World) (t : TypeId) : ∀ j u, (byt [34, 58])[j]? = some u → (w.alloc (.cells #[.int .u8 34, .int .u8 58] t)).cell? ((⟨w.heap.size, 0, none⟩ : Addr).add j) = some u := by
  intro j u hj
  match j, hj with
  | 0, hj =>
    simp [byt] at hj
    subst hj
    simp [Addr.add]
  | 1, hj =>
    simp [byt] at hj
    subst hj
    simp [Addr.add]
  | j + 2, hj => simp [byt] at hj

theorem ownsRow_base {w : World} {B B' e : Nat} {v : Value} {n : Nat} {xs : List Value} (h : w.ownsRow B' e 1 v n xs) (hB : B ≤ B') : w.ownsRow B e 1 v n xs := by
  refine ⟨h.1, ?_⟩
  rcases h.2 with h2 | ⟨g, cap, cur, rfl, hb, r⟩
  · exact .inl h2
  · exact .inr ⟨g, cap, cur, rfl, Nat.le_trans hB hb, r⟩

/-- 'append(b, c)' onto a slice without room. -/
theorem app_full (w : World) {ops : Array Oper} {rest : List Oper} {o : Oper} {a : Act} {Q : Exit → Act → World → Prop} (hgd : o.guard = none) (sl x : Operand)
    (ho : o.op = .call { callee := .builtin .append, args := #[sl, x], argTypes := #[22, 22] }) (g n : Nat) (l : List UInt8) (hs : a.eval sl = .slice (some ⟨g, 0, none⟩) n n) (hn : n = l.length)
    (hr : ∀ j, j < l.length → w.cell? ⟨g, j, none⟩ = some (.int .u8 ((l.getD j 0).toNat : Int))) (ad : Addr) (u : Value) (c8 : UInt8)
    (hx : a.eval x = .slice (some ad) 1 1) (hu : u = .int .u8 c8.toNat) (hk : ∀ j u', [u][j]? = some u' → w.cell? (ad.add j) = some u')
    (hlen : l.length + 1 ≤ 140737488355328) (B : Nat) (hbase : B ≤ w.heap.size) (w0 : World) (hb : Below B w0 w)
    (h : ∀ v' w', Hid (Owns w' B v' (l ++ [c8])) → Hid (Below B w0 w') → wpList Try.prog ops Q rest (a.put o.dst v') w') : wpList Try.prog ops Q (o :: rest) a w := by
  obtain ⟨i0, hi0, hz0, hz1, hz2⟩ := info_parts Try.info5
  subst hn hu
  refine wpList_append_grows w hgd sl x 22 ho 5 i0 (.int .u8 0) 1 1 Try.underlying22 hi0 hz0 hz1 hz2 rfl (by decide) (some ⟨g, 0, none⟩) l.length l.length (byt l) hs (fun e => by cases e) (by rw [byt_length, Nat.mul_one]) ?_ ad 1 1 [.int .u8 c8.toNat] hx rfl hk (oneInt _ _) (by omega) (by unfold maxLen; omega) (by omega) ?_
  · intro b hb' j u' hj
    obtain rfl := Option.some.inj hb'
    have hjl : j < l.length := by
      have := (List.getElem?_eq_some_iff.1 hj).1
      rwa [byt_length] at this
    rw [byt_get l j hjl] at hj
    rw [Addr.add_lit, Nat.zero_add, hr j hjl, hj]
  · intro v' w' h1 h2
    refine h v' w' ?_ (hb.grown h2 hbase (fun k hk' => by cases hk'))
    show w'.ownsRow B 5 1 v' _ _
    rw [byt_append, List.length_append]
    exact ownsRow_base h1 hbase

theorem apn_brace {l s : List UInt8} (h : Pl.lastB l = 123) : Pl.apn l s = l ++ [34] ++ s ++ [34, 58] := by simp [Pl.apn, h]
theorem apn_comma {l s : List UInt8} (h : Pl.lastB l ≠ 123) : Pl.apn l s = l ++ [44] ++ [34] ++ s ++ [34, 58] := by simp [Pl.apn, h]

set_option maxHeartbeats 800000 in
theorem name_owned (v : Value) (l : List UInt8) (s : ByteArray) (B : Nat) (w : World) (hO : Owns w B v l) (hp : 0 < l.length) (hB : B ≤ w.heap.size) (hl : l.length + s.size ≤ 4194304) :
    Calls Try.prog 20 #[v, .string s] w fun e w' => OwnPost B w (Pl.apn l s.data.toList) e w' := by
  obtain ⟨g, c, rfl, hgB, hgs, hc⟩ := hO.some hp
  obtain ⟨m, hm⟩ : ∃ m, m = l.length := ⟨_, rfl⟩
  have hcl := hc (l.length - 1) (by omega)
  obtain ⟨x, hx⟩ : ∃ x : Int, x = ((l.getD (l.length - 1) 0).toNat : Int) := ⟨_, rfl⟩
  rw [← hx, ← hm] at hcl
  have HO : Hid (Owns w B (.slice (some ⟨g, 0, none⟩) m c) l) := by rw [hm]; exact hO
  rw [← hm]
  have hm1 : 1 ≤ m := by omega
  have hm2 : m ≤ 4194304 := by omega
  have HBw : Hid (Below B w w) := Below.refl _ _
  have HX : Hid (x = ((Pl.lastB l).toNat : Int)) := hx
  obtain ⟨ap, hap⟩ : ∃ ap, ap = Pl.apn l s.data.toList := ⟨_, rfl⟩
  rw [← hap]
  have HAP0 : Hid (ap = Pl.apn l s.data.toList) := hap
  clear hc hx hm hO hap
  by_cases h123 : x = 123
  · have hxb : (x == 123) = true := by rw [beq_iff_eq]; exact h123
    have HAP : Hid (ap = l ++ [34] ++ s.data.toList ++ [34, 58]) := by
      rw [HAP0.out]
      exact apn_brace (UInt8.toNat_inj.1 (by have := HX.out; simp; omega))
    clear h123
    go_enter Try.func20, Try.ntmps20
    go_wp2_with (at_builtin; refine app_one _ rfl (.tmp 15) (.tmp 16) rfl B _ l rfl (HO.out.alloc _) ⟨w.heap.size, 0, none⟩ _ 34 rfl rfl (cell_one_new _ _ _) ?pa1 ?pa2 w ?pa3 ?_)
    case pa1 => simp; omega
    case pa2 => have := HBw.out.size; first | omega | (simp; omega)
    case pa3 => exact HBw.out.alloc (by have := HBw.out.size; omega) _
    intro v5 W5 HO5p HB5
    have HO5 : Hid (Owns W5 B v5 (l ++ [34])) := Owns.cast HO5p.out (by simp)
    clear HO5p
    have hsz5 := HB5.out.size
    go_wp2_with (at_builtin; refine app_str _ rfl (.tmp 18) (.tmp 19) rfl B _ (l ++ [34]) rfl HO5.out s rfl ?pb1 ?pb2 w HB5.out ?_)
    case pb1 => simp; omega
    case pb2 => omega
    intro v6 W6 HO6 HB6
    have hsz6 := HB6.out.size
    have HO6' : Hid (Owns W6 B v6 (l ++ [34] ++ s.data.toList)) := Owns.cast HO6.out (by simp)
    clear HO5 HB5 HO6
    go_wp2_with (at_builtin; refine app_src _ rfl (.tmp 21) (.tmp 22) rfl B _ (l ++ [34] ++ s.data.toList) rfl (HO6'.out.alloc _) ⟨W6.heap.size, 0, none⟩ 2 2 [34, 58] rfl rfl (two_new _ _) ?pc1 ?pc2 w ?pc3 ?_)
    case pc1 => simp; omega
    case pc2 => first | omega | (simp; omega)
    case pc3 => exact HB6.out.alloc (by omega) _
    intro v7 W7 HO7 HB7
    go_wp2
    go_ret
    exact OwnPost.mk rfl (Owns.cast HO7.out (by rw [HAP.out]; simp)) HB7.out
  · have hxb : (x == 123) = false := by rw [beq_eq_false_iff_ne]; exact h123
    have HAP : Hid (ap = (l ++ [44]) ++ [34] ++ s.data.toList ++ [34, 58]) := by
      rw [HAP0.out]
      exact apn_comma (fun e => h123 (by rw [HX.out, e]; rfl))
    clear h123
    go_enter Try.func20, Try.ntmps20
    go_wp2_with (at_builtin; refine app_one _ rfl (.tmp 12) (.tmp 13) rfl B _ l rfl (HO.out.alloc _) ⟨w.heap.size, 0, none⟩ _ 44 rfl rfl (cell_one_new _ _ _) ?q1 ?q2 w ?q3 ?_)
    case q1 => omega
    case q2 => first | omega | (simp; omega)
    case q3 => exact HBw.out.alloc hB _
    intro v4 W4 HO4 HB4
    have hsz4 := HB4.out.size
    go_wp2_with (at_builtin; refine app_one _ rfl (.tmp 15) (.tmp 16) rfl B _ (l ++ [44]) rfl (HO4.out.alloc _) ⟨W4.heap.size, 0, none⟩ _ 34 rfl rfl (cell_one_new _ _ _) ?ra1 ?ra2 w ?ra3 ?_)
    case ra1 => simp; omega
    case ra2 => have := HB4.out.size; first | omega | (simp; omega)
    case ra3 => exact HB4.out.alloc (by have := HB4.out.size; omega) _
    intro v5 W5 HO5p HB5
    have HO5 : Hid (Owns W5 B v5 ((l ++ [44]) ++ [34])) := Owns.cast HO5p.out (by simp)
    clear HO5p
    have hsz5 := HB5.out.size
    go_wp2_with (at_builtin; refine app_str _ rfl (.tmp 18) (.tmp 19) rfl B _ ((l ++ [44]) ++ [34]) rfl HO5.out s rfl ?rb1 ?rb2 w HB5.out ?_)
    case rb1 => simp; omega
    case rb2 => omega
    intro v6 W6 HO6 HB6
    have hsz6 := HB6.out.size
    have HO6' : Hid (Owns W6 B v6 ((l ++ [44]) ++ [34] ++ s.data.toList)) := Owns.cast HO6.out (by simp)
    clear HO5 HB5 HO6
    go_wp2_with (at_builtin; refine app_src _ rfl (.tmp 21) (.tmp 22) rfl B _ ((l ++ [44]) ++ [34] ++ s.data.toList) rfl (HO6'.out.alloc _) ⟨W6.heap.size, 0, none⟩ 2 2 [34, 58] rfl rfl (two_new _ _) ?rc1 ?rc2 w ?rc3 ?_)
    case rc1 => simp; omega
    case rc2 => first | omega | (simp; omega)
    case rc3 => exact HB6.out.alloc (by omega) _
    intro v7 W7 HO7 HB7
    go_wp2
    go_ret
    exact OwnPost.mk rfl (Owns.cast HO7.out (by rw [HAP.out]; simp)) HB7.out

set_option maxHeartbeats 800000 in
theorem name_full (g n : Nat) (l : List UInt8) (s : ByteArray) (w : World) (hn : n = l.length) (hr : ∀ j, j < l.length → w.cell? ⟨g, j, none⟩ = some (.int .u8 ((l.getD j 0).toNat : Int))) (hg : g < w.heap.size) (hp : 0 < l.length) (hl : l.length + s.size ≤ 4194304) :
    Calls Try.prog 20 #[.slice (some ⟨g, 0, none⟩) n n, .string s] w fun e w' => OwnPost w.heap.size w (Pl.apn l s.data.toList) e w' := by
  have hcl := hr (l.length - 1) (by omega)
  obtain ⟨x, hx⟩ : ∃ x : Int, x = ((l.getD (l.length - 1) 0).toNat : Int) := ⟨_, rfl⟩
  rw [← hx, ← hn] at hcl
  have HN : Hid (n = l.length) := hn
  have hm1 : 1 ≤ n := by omega
  have hm2 : n ≤ 4194304 := by omega
  have HR1 : Hid (∀ (o : Obj) j, j < l.length → (w.alloc o).cell? ⟨g, j, none⟩ = some (.int .u8 ((l.getD j 0).toNat : Int))) := fun o j hj => by
    have e := (Below.alloc (Below.refl w.heap.size w) (Nat.le_refl _) o).cell (p := ⟨g, j, none⟩) hg
    rw [e]
    exact hr j hj
  have HX : Hid (x = ((Pl.lastB l).toNat : Int)) := hx
  obtain ⟨ap, hap⟩ : ∃ ap, ap = Pl.apn l s.data.toList := ⟨_, rfl⟩
  rw [← hap]
  have HAP0 : Hid (ap = Pl.apn l s.data.toList) := hap
  obtain ⟨B, hB⟩ : ∃ B, B = w.heap.size := ⟨_, rfl⟩
  rw [← hB]
  have HBe : Hid (B = w.heap.size) := hB
  have hBle : B ≤ w.heap.size := Nat.le_of_eq hB
  have HBw : Hid (Below B w w) := Below.refl _ _
  clear hr hx hn hap hB
  by_cases h123 : x = 123
  · have hxb : (x == 123) = true := by rw [beq_iff_eq]; exact h123
    have HAP : Hid (ap = l ++ [34] ++ s.data.toList ++ [34, 58]) := by
      rw [HAP0.out]
      exact apn_brace (UInt8.toNat_inj.1 (by have := HX.out; simp; omega))
    clear h123
    go_enter Try.func20, Try.ntmps20
    go_wp2_with (at_builtin; refine app_full _ rfl (.tmp 15) (.tmp 16) rfl g n l rfl HN.out (HR1.out _) ⟨w.heap.size, 0, none⟩ _ 34 rfl rfl (cell_one_new _ _ _) ?p1 B ?p2 w ?p3 ?_)
    case p1 => omega
    case p2 => first | omega | (simp; omega)
    case p3 => exact HBw.out.alloc hBle _
    intro v5 W5 HO5 HB5
    have hsz5 := HB5.out.size
    go_wp2_with (at_builtin; refine app_str _ rfl (.tmp 18) (.tmp 19) rfl B _ (l ++ [34]) rfl HO5.out s rfl ?sb1 ?sb2 w HB5.out ?_)
    case sb1 => simp; omega
    case sb2 => omega
    intro v6 W6 HO6 HB6
    have hsz6 := HB6.out.size
    have HO6' : Hid (Owns W6 B v6 (l ++ [34] ++ s.data.toList)) := Owns.cast HO6.out (by simp)
    clear HO5 HB5 HO6
    go_wp2_with (at_builtin; refine app_src _ rfl (.tmp 21) (.tmp 22) rfl B _ (l ++ [34] ++ s.data.toList) rfl (HO6'.out.alloc _) ⟨W6.heap.size, 0, none⟩ 2 2 [34, 58] rfl rfl (two_new _ _) ?sc1 ?sc2 w ?sc3 ?_)
    case sc1 => simp; omega
    case sc2 => first | omega | (simp; omega)
    case sc3 => exact HB6.out.alloc (by omega) _
    intro v7 W7 HO7 HB7
    go_wp2
    go_ret
    exact OwnPost.mk rfl (Owns.cast HO7.out (by rw [HAP.out]; simp)) HB7.out
  · have hxb : (x == 123) = false := by rw [beq_eq_false_iff_ne]; exact h123
    have HAP : Hid (ap = (l ++ [44]) ++ [34] ++ s.data.toList ++ [34, 58]) := by
      rw [HAP0.out]
      exact apn_comma (fun e => h123 (by rw [HX.out, e]; rfl))
    clear h123
    go_enter Try.func20, Try.ntmps20
    go_wp2_with (at_builtin; refine app_full _ rfl (.tmp 12) (.tmp 13) rfl g n l rfl HN.out (HR1.out _) ⟨w.heap.size, 0, none⟩ _ 44 rfl rfl (cell_one_new _ _ _) ?q1 B ?q2 w ?q3 ?_)
    case q1 => omega
    case q2 => first | omega | (simp; omega)
    case q3 => exact HBw.out.alloc hBle _
    intro v4 W4 HO4 HB4
    have hsz4 := HB4.out.size
    go_wp2_with (at_builtin; refine app_one _ rfl (.tmp 15) (.tmp 16) rfl B _ (l ++ [44]) rfl (HO4.out.alloc _) ⟨W4.heap.size, 0, none⟩ _ 34 rfl rfl (cell_one_new _ _ _) ?ta1 ?ta2 w ?ta3 ?_)
    case ta1 => simp; omega
    case ta2 => have := HB4.out.size; first | omega | (simp; omega)
    case ta3 => exact HB4.out.alloc (by have := HB4.out.size; omega) _
    intro v5 W5 HO5p HB5
    have HO5 : Hid (Owns W5 B v5 ((l ++ [44]) ++ [34])) := Owns.cast HO5p.out (by simp)
    clear HO5p
    have hsz5 := HB5.out.size
    go_wp2_with (at_builtin; refine app_str _ rfl (.tmp 18) (.tmp 19) rfl B _ ((l ++ [44]) ++ [34]) rfl HO5.out s rfl ?tb1 ?tb2 w HB5.out ?_)
    case tb1 => simp; omega
    case tb2 => omega
    intro v6 W6 HO6 HB6
    have hsz6 := HB6.out.size
    have HO6' : Hid (Owns W6 B v6 ((l ++ [44]) ++ [34] ++ s.data.toList)) := Owns.cast HO6.out (by simp)
    clear HO5 HB5 HO6
    go_wp2_with (at_builtin; refine app_src _ rfl (.tmp 21) (.tmp 22) rfl B _ ((l ++ [44]) ++ [34] ++ s.data.toList) rfl (HO6'.out.alloc _) ⟨W6.heap.size, 0, none⟩ 2 2 [34, 58] rfl rfl (two_new _ _) ?tc1 ?tc2 w ?tc3 ?_)
    case tc1 => simp; omega
    case tc2 => first | omega | (simp; omega)
    case tc3 => exact HB6.out.alloc (by omega) _
    intro v7 W7 HO7 HB7
    go_wp2
    go_ret
    exact OwnPost.mk rfl (Owns.cast HO7.out (by rw [HAP.out]; simp)) HB7.out

set_option maxHeartbeats 400000 in
theorem zzName_owned (v : Value) (l : List UInt8) (s : ByteArray) (B : Nat) (w : World) (hO : Owns w B v l) (hp : 0 < l.length) (hB : B ≤ w.heap.size) (hl : l.length + s.size ≤ 4194304) :
    Calls Try.prog 17 #[v, .string s] w fun e w' => OwnPost B w (Pl.apn l s.data.toList) e w' := by
  go_enter Try.func17, Try.ntmps17
  go_wp2_with fail
  refine (name_owned v l s B _ hO hp hB hl).mono ?_
  rintro e w' ⟨v', rfl, h1, h2⟩
  go_wp2
  go_ret
  exact OwnPost.mk rfl h1 h2

set_option maxHeartbeats 400000 in
theorem zzName_full (g n : Nat) (l : List UInt8) (s : ByteArray) (w : World) (hn : n = l.length) (hr : ∀ j, j < l.length → w.cell? ⟨g, j, none⟩ = some (.int .u8 ((l.getD j 0).toNat : Int))) (hg : g < w.heap.size) (hp : 0 < l.length) (hl : l.length + s.size ≤ 4194304) :
    Calls Try.prog 17 #[.slice (some ⟨g, 0, none⟩) n n, .string s] w fun e w' => OwnPost w.heap.size w (Pl.apn l s.data.toList) e w' := by
  have HR : Hid _ := hr
  have HN : Hid _ := hn
  clear hr hn
  go_enter Try.func17, Try.ntmps17
  go_wp2_with fail
  refine (name_full g n l s _ HN.out HR.out hg hp hl).mono ?_
  rintro e w' ⟨v', rfl, h1, h2⟩
  go_wp2
  go_ret
  exact OwnPost.mk rfl h1 h2

end Go.Proofs.Qxb6617881a
