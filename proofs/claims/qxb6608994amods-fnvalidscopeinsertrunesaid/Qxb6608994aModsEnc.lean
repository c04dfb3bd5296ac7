/- Slices of bytes of the call's own; hAppendRune, hEncodeRune. -/
import Derived.Test.Qxb6608994aModsBase
namespace Go.Proofs.Qxb6608994aMods
open Go.RowKit

/-- v is a slice of the call's own, from block base on, of the n bytes zs. -/
def Own (W : World) (base : Nat) (v : Value) (n : Nat) (zs : List Int) : Prop := W.ownsRow base 5 1 v n (zs.map (Value.int .u8))

theorem info5 : (Trym.prog.info? 5).map (fun i => (i.zero, i.size, i.bytes)) = some (some (.int .u8 0), 1, 1) := by kernel_rfl

section
variable {W W' : World} {base : Nat} {v : Value} {n : Nat} {zs : List Int}

theorem Own.len (h : Own W base v n zs) : zs.length = n := by simpa using h.1

theorem Own.shape (h : Own W base v n zs) : ∃ a c, v = .slice a n c := by
  rcases h.2 with ⟨rfl, h0⟩ | ⟨g, cap, cur, rfl, _⟩
  · rw [h0]; exact ⟨none, 0, rfl⟩
  · exact ⟨_, cap, rfl⟩

theorem Own.lt (h : Own W base v n zs) : ∀ k, v.ownBlock = some k → base ≤ k ∧ k < W.heap.size := World.ownsRow.lt h

/-- Its block is a row of bytes: no struct's, no flag's. -/
theorem Own.ne (h : Own W base v n zs) {b : Nat} {cs : Array Value} {t : TypeId} (hb : W.heap[b]? = some (.cells cs t (0, 0))) (ht : t ≠ 5) : v.ownBlock ≠ some b := by
  rcases h.2 with ⟨rfl, _⟩ | ⟨g, cap, cur, rfl, _, hg, _⟩
  · simp [Value.ownBlock]
  · intro e
    simp only [Value.ownBlock, Option.some.injEq] at e
    subst e
    rw [hb] at hg
    cases hg
    exact ht rfl

theorem Own.kept {row : Option Nat} (h : Own W base v n zs) (hg : W.grownBy W' row) (hne : v.ownBlock = none ∨ v.ownBlock ≠ row) : Own W' base v n zs := World.ownsRow.kept h hg hne

theorem Own.alloc (h : Own W base v n zs) (o : Obj) : Own (W.alloc o) base v n zs := World.ownsRow.alloc h o

theorem Own.below (h : Own W base v n zs) (hb : Below W.heap.size W W') : Own W' base v n zs :=
  h.kept (row := none) ⟨hb.os, hb.tape, hb.output, hb.size, fun i hi _ => hb.block i hi⟩ (by cases v.ownBlock <;> simp)
end

/-- 'dst = append(dst, x, ..)': the new bytes lie in a block of their own. -/
theorem wpList_append_b {w : World} {ops : Array Oper} {rest : List Oper} {o : Oper} {a : Act} {Q : Exit → Act → World → Prop} (hgd : o.guard = none) (s x : Operand)
    (ho : o.op = .call { callee := .builtin .append, args := #[s, x], argTypes := #[27, 27] }) (base : Nat) (v : Value) (n : Nat) (zs : List Int) (hs : a.eval s = v) (hown : Own w base v n zs)
    (ad : Addr) (m c : Nat) (ys : List Int) (hx : a.eval x = .slice (some ad) m c) (hm : ys.length = m) (hc : ∀ j u, (ys.map (Value.int .u8))[j]? = some u → w.cell? (ad.add j) = some u) (hl : n + m ≤ 1073741824) (hB : base ≤ w.heap.size)
    (h : ∀ a' c' w', Own w' base (.slice a' (n + m) c') (n + m) (zs ++ ys) → w.grownBy w' v.ownBlock → wpList Trym.prog ops Q rest (a.put o.dst (.slice a' (n + m) c')) w') :
    wpList Trym.prog ops Q (o :: rest) a w := by
  obtain ⟨i0, hi, hz0, hz1, hz2⟩ := info_parts info5
  refine wpList_append_own _ hgd s x 27 ho base 5 i0 (.int .u8 0) 1 1 Trym.underlying27 hi hz0 hz1 hz2 rfl (by decide) v n _ hs hown ad m c (ys.map (Value.int .u8)) hx (by simp [hm]) hc (fun x hx => by obtain ⟨_, _, rfl⟩ := List.mem_map.1 hx; rfl) (by unfold maxLen; omega) (by omega) hB ?_
  intro v' w' h1 h2 _
  have h1' : Own w' base v' (n + m) (zs ++ ys) := by unfold Own; rw [List.map_append]; exact h1
  obtain ⟨a', c', rfl⟩ := h1'.shape
  exact h a' c' w' h1' h2

theorem new1 (w : World) (z : Int) : ∀ j u, ([z].map (Value.int .u8))[j]? = some u → (w.alloc (.cells #[.int .u8 z] 5)).cell? ((⟨w.heap.size, 0, none⟩ : Addr).add j) = some u := cell_one_new w (.int .u8 z) 5

/-- What is known of the bytes that encode r. -/
def Enc (r : Int) (zs : List Int) : Prop := (0 ≤ r ∧ r < 128 ∧ zs = [r]) ∨ ((r < 0 ∨ 128 ≤ r) ∧ ∃ z t, zs = z :: t ∧ 128 ≤ z ∧ z < 256 ∧ t.length ≤ 3)

theorem or224 (x : Int) (h : 0 ≤ x) (h2 : x ≤ 15) : 128 ≤ bits .or .i32 224 x % 256 := by
  obtain ⟨n, rfl⟩ := Int.eq_ofNat_of_zero_le h
  have h3 : ∀ n : Fin 16, 128 ≤ bits .or .i32 224 (n.val : Int) % 256 := by decide +kernel
  exact h3 ⟨n, by omega⟩

theorem or240 (x : Int) (h : 0 ≤ x) (h2 : x ≤ 15) : 128 ≤ bits .or .i32 240 x % 256 := by
  obtain ⟨n, rfl⟩ := Int.eq_ofNat_of_zero_le h
  have h3 : ∀ n : Fin 16, 128 ≤ bits .or .i32 240 (n.val : Int) % 256 := by decide +kernel
  exact h3 ⟨n, by omega⟩

set_option maxHeartbeats 2000000 in
theorem appendRune_any (r : Int) (w : World) :
    Calls Trym.prog 11 #[.slice none 0 0, .int .i32 r] w fun e w' => ∃ a c zs, e = .returned (.slice a zs.length c) ∧ Own w' w.heap.size (.slice a zs.length c) zs.length zs ∧ Below w.heap.size w w' ∧ Enc r zs := by
  by_cases h1 : r < 0
  · have HR : Hid (r < 0 ∨ 128 ≤ r) := .inl h1
    have tok1 : True := trivial
    have tok2 : True := trivial
    go_enter Trym.func11, Trym.ntmps11
    go_wp2_with (first
      | (at_builtin; have _t := tok1; refine wpList_append_b rfl _ _ rfl w.heap.size (.slice none 0 0) 0 [] rfl ⟨rfl, .inl ⟨rfl, rfl⟩⟩ ⟨w.heap.size, 0, none⟩ 1 1 [_] rfl rfl (new1 w _) (by omega) (by simp) ?_; intro a1 c1 w1 hown1 hg1; have hb1 : Below w.heap.size w w1 := ((Below.refl _ w).alloc (Nat.le_refl _) _).grown hg1 (by simp) (by simp [Value.ownBlock]); clear hg1; clear tok1)
      | (at_builtin; have _t := tok2; refine wpList_append_b rfl _ _ rfl w.heap.size (.slice a1 1 c1) 1 _ rfl (hown1.alloc _) ⟨w1.heap.size, 0, none⟩ 1 1 [_] rfl rfl (new1 w1 _) (by omega) (by have := hb1.size; simp; omega) ?_; intro a2 c2 w2 hown2 hg2; have hb2 : Below w.heap.size w w2 := (hb1.alloc hb1.size _).grown hg2 (by have := hb1.size; simp; omega) (fun k hk => (hown1.lt k hk).1); clear hg2; clear tok2)
      | (at_builtin; refine wpList_append_b rfl _ _ rfl w.heap.size (.slice a2 2 c2) 2 _ rfl (hown2.alloc _) ⟨w2.heap.size, 0, none⟩ 1 1 [_] rfl rfl (new1 w2 _) (by omega) (by have := hb2.size; simp; omega) ?_; intro a3 c3 w3 hown3 hg3; have hb3 : Below w.heap.size w w3 := (hb2.alloc hb2.size _).grown hg3 (by have := hb2.size; simp; omega) (fun k hk => (hown2.lt k hk).1); clear hg3))
    go_ret
    exact ⟨a3, c3, [_, _, _], rfl, hown3, hb3, .inr ⟨HR.out, _, [_, _], rfl, or224 _ (by omega) (by omega), by omega, by simp⟩⟩
  by_cases h2 : 1114111 < r
  · have HR : Hid (r < 0 ∨ 128 ≤ r) := .inr (by omega)
    have tok1 : True := trivial
    have tok2 : True := trivial
    go_enter Trym.func11, Trym.ntmps11
    go_wp2_with (first
      | (at_builtin; have _t := tok1; refine wpList_append_b rfl _ _ rfl w.heap.size (.slice none 0 0) 0 [] rfl ⟨rfl, .inl ⟨rfl, rfl⟩⟩ ⟨w.heap.size, 0, none⟩ 1 1 [_] rfl rfl (new1 w _) (by omega) (by simp) ?_; intro a1 c1 w1 hown1 hg1; have hb1 : Below w.heap.size w w1 := ((Below.refl _ w).alloc (Nat.le_refl _) _).grown hg1 (by simp) (by simp [Value.ownBlock]); clear hg1; clear tok1)
      | (at_builtin; have _t := tok2; refine wpList_append_b rfl _ _ rfl w.heap.size (.slice a1 1 c1) 1 _ rfl (hown1.alloc _) ⟨w1.heap.size, 0, none⟩ 1 1 [_] rfl rfl (new1 w1 _) (by omega) (by have := hb1.size; simp; omega) ?_; intro a2 c2 w2 hown2 hg2; have hb2 : Below w.heap.size w w2 := (hb1.alloc hb1.size _).grown hg2 (by have := hb1.size; simp; omega) (fun k hk => (hown1.lt k hk).1); clear hg2; clear tok2)
      | (at_builtin; refine wpList_append_b rfl _ _ rfl w.heap.size (.slice a2 2 c2) 2 _ rfl (hown2.alloc _) ⟨w2.heap.size, 0, none⟩ 1 1 [_] rfl rfl (new1 w2 _) (by omega) (by have := hb2.size; simp; omega) ?_; intro a3 c3 w3 hown3 hg3; have hb3 : Below w.heap.size w w3 := (hb2.alloc hb2.size _).grown hg3 (by have := hb2.size; simp; omega) (fun k hk => (hown2.lt k hk).1); clear hg3))
    go_ret
    exact ⟨a3, c3, [_, _, _], rfl, hown3, hb3, .inr ⟨HR.out, _, [_, _], rfl, or224 _ (by omega) (by omega), by omega, by simp⟩⟩
  by_cases hA : r < 128
  · have h0 : 0 ≤ r := by omega
    have h3 : ¬ 55296 ≤ r := by omega
    go_enter Trym.func11, Trym.ntmps11
    go_wp2_with (first
      | (at_builtin; refine wpList_append_b rfl _ _ rfl w.heap.size (.slice none 0 0) 0 [] rfl ⟨rfl, .inl ⟨rfl, rfl⟩⟩ ⟨w.heap.size, 0, none⟩ 1 1 [_] rfl rfl (new1 w _) (by omega) (by simp) ?_; intro a1 c1 w1 hown1 hg1; have hb1 : Below w.heap.size w w1 := ((Below.refl _ w).alloc (Nat.le_refl _) _).grown hg1 (by simp) (by simp [Value.ownBlock]); clear hg1))
    go_ret
    exact ⟨a1, c1, [r], rfl, hown1, hb1, .inl ⟨h0, hA, rfl⟩⟩
  by_cases hB : r < 2048
  · have h0 : 128 ≤ r := by omega
    have h3 : ¬ 55296 ≤ r := by omega
    have tok1 : True := trivial
    go_enter Trym.func11, Trym.ntmps11
    go_wp2_with (first
      | (at_builtin; have _t := tok1; refine wpList_append_b rfl _ _ rfl w.heap.size (.slice none 0 0) 0 [] rfl ⟨rfl, .inl ⟨rfl, rfl⟩⟩ ⟨w.heap.size, 0, none⟩ 1 1 [_] rfl rfl (new1 w _) (by omega) (by simp) ?_; intro a1 c1 w1 hown1 hg1; have hb1 : Below w.heap.size w w1 := ((Below.refl _ w).alloc (Nat.le_refl _) _).grown hg1 (by simp) (by simp [Value.ownBlock]); clear hg1; clear tok1)
      | (at_builtin; refine wpList_append_b rfl _ _ rfl w.heap.size (.slice a1 1 c1) 1 _ rfl (hown1.alloc _) ⟨w1.heap.size, 0, none⟩ 1 1 [_] rfl rfl (new1 w1 _) (by omega) (by have := hb1.size; simp; omega) ?_; intro a2 c2 w2 hown2 hg2; have hb2 : Below w.heap.size w w2 := (hb1.alloc hb1.size _).grown hg2 (by have := hb1.size; simp; omega) (fun k hk => (hown1.lt k hk).1); clear hg2))
    go_ret
    exact ⟨a2, c2, [_, _], rfl, hown2, hb2, .inr ⟨.inr h0, _, [_], rfl, by omega, by omega, by simp⟩⟩
  have h0 : 128 ≤ r := by omega
  by_cases hC : r < 55296
  · have h3 : ¬ 55296 ≤ r := by omega
    have h4 : r < 65536 := by omega
    have tok1 : True := trivial
    have tok2 : True := trivial
    go_enter Trym.func11, Trym.ntmps11
    go_wp2_with (first
      | (at_builtin; have _t := tok1; refine wpList_append_b rfl _ _ rfl w.heap.size (.slice none 0 0) 0 [] rfl ⟨rfl, .inl ⟨rfl, rfl⟩⟩ ⟨w.heap.size, 0, none⟩ 1 1 [_] rfl rfl (new1 w _) (by omega) (by simp) ?_; intro a1 c1 w1 hown1 hg1; have hb1 : Below w.heap.size w w1 := ((Below.refl _ w).alloc (Nat.le_refl _) _).grown hg1 (by simp) (by simp [Value.ownBlock]); clear hg1; clear tok1)
      | (at_builtin; have _t := tok2; refine wpList_append_b rfl _ _ rfl w.heap.size (.slice a1 1 c1) 1 _ rfl (hown1.alloc _) ⟨w1.heap.size, 0, none⟩ 1 1 [_] rfl rfl (new1 w1 _) (by omega) (by have := hb1.size; simp; omega) ?_; intro a2 c2 w2 hown2 hg2; have hb2 : Below w.heap.size w w2 := (hb1.alloc hb1.size _).grown hg2 (by have := hb1.size; simp; omega) (fun k hk => (hown1.lt k hk).1); clear hg2; clear tok2)
      | (at_builtin; refine wpList_append_b rfl _ _ rfl w.heap.size (.slice a2 2 c2) 2 _ rfl (hown2.alloc _) ⟨w2.heap.size, 0, none⟩ 1 1 [_] rfl rfl (new1 w2 _) (by omega) (by have := hb2.size; simp; omega) ?_; intro a3 c3 w3 hown3 hg3; have hb3 : Below w.heap.size w w3 := (hb2.alloc hb2.size _).grown hg3 (by have := hb2.size; simp; omega) (fun k hk => (hown2.lt k hk).1); clear hg3))
    go_ret
    exact ⟨a3, c3, [_, _, _], rfl, hown3, hb3, .inr ⟨.inr h0, _, [_, _], rfl, or224 _ (by omega) (by omega), by omega, by simp⟩⟩
  have h3 : 55296 ≤ r := by omega
  by_cases hD : r ≤ 57343
  · have HR : Hid (r < 0 ∨ 128 ≤ r) := .inr h0
    have tok1 : True := trivial
    have tok2 : True := trivial
    go_enter Trym.func11, Trym.ntmps11
    go_wp2_with (first
      | (at_builtin; have _t := tok1; refine wpList_append_b rfl _ _ rfl w.heap.size (.slice none 0 0) 0 [] rfl ⟨rfl, .inl ⟨rfl, rfl⟩⟩ ⟨w.heap.size, 0, none⟩ 1 1 [_] rfl rfl (new1 w _) (by omega) (by simp) ?_; intro a1 c1 w1 hown1 hg1; have hb1 : Below w.heap.size w w1 := ((Below.refl _ w).alloc (Nat.le_refl _) _).grown hg1 (by simp) (by simp [Value.ownBlock]); clear hg1; clear tok1)
      | (at_builtin; have _t := tok2; refine wpList_append_b rfl _ _ rfl w.heap.size (.slice a1 1 c1) 1 _ rfl (hown1.alloc _) ⟨w1.heap.size, 0, none⟩ 1 1 [_] rfl rfl (new1 w1 _) (by omega) (by have := hb1.size; simp; omega) ?_; intro a2 c2 w2 hown2 hg2; have hb2 : Below w.heap.size w w2 := (hb1.alloc hb1.size _).grown hg2 (by have := hb1.size; simp; omega) (fun k hk => (hown1.lt k hk).1); clear hg2; clear tok2)
      | (at_builtin; refine wpList_append_b rfl _ _ rfl w.heap.size (.slice a2 2 c2) 2 _ rfl (hown2.alloc _) ⟨w2.heap.size, 0, none⟩ 1 1 [_] rfl rfl (new1 w2 _) (by omega) (by have := hb2.size; simp; omega) ?_; intro a3 c3 w3 hown3 hg3; have hb3 : Below w.heap.size w w3 := (hb2.alloc hb2.size _).grown hg3 (by have := hb2.size; simp; omega) (fun k hk => (hown2.lt k hk).1); clear hg3))
    go_ret
    exact ⟨a3, c3, [_, _, _], rfl, hown3, hb3, .inr ⟨HR.out, _, [_, _], rfl, or224 _ (by omega) (by omega), by omega, by simp⟩⟩
  by_cases hE : r < 65536
  · have h4 : ¬ r < 2048 := by omega
    have tok1 : True := trivial
    have tok2 : True := trivial
    go_enter Trym.func11, Trym.ntmps11
    go_wp2_with (first
      | (at_builtin; have _t := tok1; refine wpList_append_b rfl _ _ rfl w.heap.size (.slice none 0 0) 0 [] rfl ⟨rfl, .inl ⟨rfl, rfl⟩⟩ ⟨w.heap.size, 0, none⟩ 1 1 [_] rfl rfl (new1 w _) (by omega) (by simp) ?_; intro a1 c1 w1 hown1 hg1; have hb1 : Below w.heap.size w w1 := ((Below.refl _ w).alloc (Nat.le_refl _) _).grown hg1 (by simp) (by simp [Value.ownBlock]); clear hg1; clear tok1)
      | (at_builtin; have _t := tok2; refine wpList_append_b rfl _ _ rfl w.heap.size (.slice a1 1 c1) 1 _ rfl (hown1.alloc _) ⟨w1.heap.size, 0, none⟩ 1 1 [_] rfl rfl (new1 w1 _) (by omega) (by have := hb1.size; simp; omega) ?_; intro a2 c2 w2 hown2 hg2; have hb2 : Below w.heap.size w w2 := (hb1.alloc hb1.size _).grown hg2 (by have := hb1.size; simp; omega) (fun k hk => (hown1.lt k hk).1); clear hg2; clear tok2)
      | (at_builtin; refine wpList_append_b rfl _ _ rfl w.heap.size (.slice a2 2 c2) 2 _ rfl (hown2.alloc _) ⟨w2.heap.size, 0, none⟩ 1 1 [_] rfl rfl (new1 w2 _) (by omega) (by have := hb2.size; simp; omega) ?_; intro a3 c3 w3 hown3 hg3; have hb3 : Below w.heap.size w w3 := (hb2.alloc hb2.size _).grown hg3 (by have := hb2.size; simp; omega) (fun k hk => (hown2.lt k hk).1); clear hg3))
    go_ret
    exact ⟨a3, c3, [_, _, _], rfl, hown3, hb3, .inr ⟨.inr h0, _, [_, _], rfl, or224 _ (by omega) (by omega), by omega, by simp⟩⟩
  · have h4 : ¬ r < 2048 := by omega
    have tok1 : True := trivial
    have tok2 : True := trivial
    have tok3 : True := trivial
    go_enter Trym.func11, Trym.ntmps11
    go_wp2_with (first
      | (at_builtin; have _t := tok1; refine wpList_append_b rfl _ _ rfl w.heap.size (.slice none 0 0) 0 [] rfl ⟨rfl, .inl ⟨rfl, rfl⟩⟩ ⟨w.heap.size, 0, none⟩ 1 1 [_] rfl rfl (new1 w _) (by omega) (by simp) ?_; intro a1 c1 w1 hown1 hg1; have hb1 : Below w.heap.size w w1 := ((Below.refl _ w).alloc (Nat.le_refl _) _).grown hg1 (by simp) (by simp [Value.ownBlock]); clear hg1; clear tok1)
      | (at_builtin; have _t := tok2; refine wpList_append_b rfl _ _ rfl w.heap.size (.slice a1 1 c1) 1 _ rfl (hown1.alloc _) ⟨w1.heap.size, 0, none⟩ 1 1 [_] rfl rfl (new1 w1 _) (by omega) (by have := hb1.size; simp; omega) ?_; intro a2 c2 w2 hown2 hg2; have hb2 : Below w.heap.size w w2 := (hb1.alloc hb1.size _).grown hg2 (by have := hb1.size; simp; omega) (fun k hk => (hown1.lt k hk).1); clear hg2; clear tok2)
      | (at_builtin; have _t := tok3; refine wpList_append_b rfl _ _ rfl w.heap.size (.slice a2 2 c2) 2 _ rfl (hown2.alloc _) ⟨w2.heap.size, 0, none⟩ 1 1 [_] rfl rfl (new1 w2 _) (by omega) (by have := hb2.size; simp; omega) ?_; intro a3 c3 w3 hown3 hg3; have hb3 : Below w.heap.size w w3 := (hb2.alloc hb2.size _).grown hg3 (by have := hb2.size; simp; omega) (fun k hk => (hown2.lt k hk).1); clear hg3; clear tok3)
      | (at_builtin; refine wpList_append_b rfl _ _ rfl w.heap.size (.slice a3 3 c3) 3 _ rfl (hown3.alloc _) ⟨w3.heap.size, 0, none⟩ 1 1 [_] rfl rfl (new1 w3 _) (by omega) (by have := hb3.size; simp; omega) ?_; intro a4 c4 w4 hown4 hg4; have hb4 : Below w.heap.size w w4 := (hb3.alloc hb3.size _).grown hg4 (by have := hb3.size; simp; omega) (fun k hk => (hown3.lt k hk).1); clear hg4))
    go_ret
    exact ⟨a4, c4, [_, _, _, _], rfl, hown4, hb4, .inr ⟨.inr h0, _, [_, _, _], rfl, or240 _ (by omega) (by omega), by omega, by simp⟩⟩

end Go.Proofs.Qxb6608994aMods
