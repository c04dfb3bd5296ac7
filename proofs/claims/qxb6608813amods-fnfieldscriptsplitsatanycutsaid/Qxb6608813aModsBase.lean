/- Slices of bytes of the call's own, appended to; the plain functions. -/
import Derived.Test.Qxb6608813aModsRows
import Derived.WalkKit
import Derived.WalkSpells
import Derived.WalkLawsBesides
import Derived.BigQuiet
import Derived.Deep.QuietTactic
import Derived.Deep.LoopGhost
import Derived.Deep.DeepCutAuto
import Derived.Lib.AppendStr
import Derived.Laws.CopyOwn
namespace Go.Proofs.Qxb6608813aMods
open Go.RowKit

/-- A string's bytes as numbers. -/
def kb (s : ByteArray) : List Int := s.data.toList.map fun b => (b.toNat : Int)
theorem kb_length (s : ByteArray) : (kb s).length = s.size := by simp [kb]
theorem kb_cells (s : ByteArray) : (kb s).map (Value.int .u8) = Lib.strCells s := by simp [kb, Lib.strCells]

/-- A member's name: "key": -/
def mem (s : ByteArray) : List Int := [34] ++ kb s ++ [34, 58]
theorem mem_length (s : ByteArray) : (mem s).length = s.size + 3 := by simp [mem, kb_length]

def comma (m : Bool) : List Int := if m then [44] else []
theorem comma_length (m : Bool) : (comma m).length ≤ 1 := by cases m <;> simp [comma]

/-- What writing the keys appends, m: is there a member before. -/
def wrt (m : Bool) : List ByteArray → List Int
  | [] => []
  | k :: ks => comma m ++ mem k ++ wrt true ks

/-- The flag behind it. -/
def flag (m : Bool) (l : List ByteArray) : Bool := m || !l.isEmpty

theorem wrt_append : ∀ (l1 l2 : List ByteArray) (m : Bool), wrt m (l1 ++ l2) = wrt m l1 ++ wrt (flag m l1) l2
  | [], l2, m => by simp [wrt, flag]
  | k :: ks, l2, m => by
    have := wrt_append ks l2 true
    simp only [List.cons_append, wrt, this, List.append_assoc]
    have e : flag true ks = flag m (k :: ks) := by simp [flag]
    rw [e]

theorem wrt_snoc (l : List ByteArray) (k : ByteArray) (m : Bool) : wrt m (l ++ [k]) = wrt m l ++ (comma (flag m l) ++ mem k) := by
  rw [wrt_append]; simp [wrt]

theorem flag_snoc (l : List ByteArray) (k : ByteArray) (m : Bool) : flag m (l ++ [k]) = true := by simp [flag]

theorem wrt_true {l : List ByteArray} (h : l ≠ []) : wrt true l = 44 :: wrt false l := by
  cases l with
  | nil => exact absurd rfl h
  | cons k ks => simp [wrt, comma]

/-- The bound that the laws reckon. -/
def tot : List ByteArray → Nat
  | [] => 0
  | k :: ks => 16 + k.size + tot ks
theorem tot_append : ∀ (l1 l2 : List ByteArray), tot (l1 ++ l2) = tot l1 + tot l2
  | [], l2 => by simp [tot]
  | k :: ks, l2 => by simp [tot, tot_append ks l2]; omega
theorem tot_snoc (l : List ByteArray) (k : ByteArray) : tot (l ++ [k]) = tot l + (16 + k.size) := by rw [tot_append]; simp [tot]
theorem wrt_length_le : ∀ (l : List ByteArray) (m : Bool), (wrt m l).length ≤ tot l
  | [], m => by simp [wrt]
  | k :: ks, m => by
    have := wrt_length_le ks true
    have := comma_length m
    simp only [wrt, List.length_append, mem_length, tot]; omega
theorem tot_take_le (l : List ByteArray) (k : Nat) : tot (l.take k) ≤ tot l := by
  have := tot_append (l.take k) (l.drop k)
  rw [List.take_append_drop] at this
  omega
theorem tot_mem {l : List ByteArray} {k : ByteArray} (h : k ∈ l) : 16 + k.size ≤ tot l := by
  induction l with
  | nil => simp at h
  | cons a t ih =>
    rcases List.mem_cons.1 h with rfl | h
    · simp [tot]
    · have := ih h; simp [tot]; omega

/-- v is a slice of the call's own, from block base on, of the n bytes zs. -/
def Own (W : World) (base : Nat) (v : Value) (n : Nat) (zs : List Int) : Prop := W.ownsRow base 5 1 v n (zs.map (Value.int .u8))

theorem info5 : (Trym.prog.info? 5).map (fun i => (i.zero, i.size, i.bytes)) = some (some (.int .u8 0), 1, 1) := by kernel_rfl

section
variable {W W' : World} {base : Nat} {v : Value} {n : Nat} {zs : List Int}

theorem Own.len (h : Own W base v n zs) : zs.length = n := by simpa using h.1

theorem Own.shape (h : Own W base v n zs) : ∃ a c, v = .slice a n c := by
  rcases h.2 with ⟨rfl, h0⟩ | ⟨g, cap, cur, rfl, _⟩
  · rw [h0]; exact ⟨none, 0, rfl⟩
  · exact ⟨_, cap, rfl⟩

theorem Own.lt (h : Own W base v n zs) : ∀ k, v.ownBlock = some k → base ≤ k ∧ k < W.heap.size := World.ownsRow.lt h

/-- Its block is a row of bytes: no struct's, no flag's. -/
theorem Own.ne (h : Own W base v n zs) {b : Nat} {cs : Array Value} {t : TypeId} (hb : W.heap[b]? = some (.cells cs t (0, 0))) (ht : t ≠ 5) : v.ownBlock ≠ some b := by
  rcases h.2 with ⟨rfl, _⟩ | ⟨g, cap, cur, rfl, _, hg, _⟩
  · simp [Value.ownBlock]
  · intro e
    simp only [Value.ownBlock, Option.some.injEq] at e
    subst e
    rw [hb] at hg
    cases hg
    exact ht rfl

theorem Own.kept {row : Option Nat} (h : Own W base v n zs) (hg : W.grownBy W' row) (hne : v.ownBlock = none ∨ v.ownBlock ≠ row) : Own W' base v n zs := World.ownsRow.kept h hg hne

theorem Own.alloc (h : Own W base v n zs) (o : Obj) : Own (W.alloc o) base v n zs := World.ownsRow.alloc h o

theorem Own.below (h : Own W base v n zs) (hb : Below W.heap.size W W') : Own W' base v n zs :=
  h.kept (row := none) ⟨hb.os, hb.tape, hb.output, hb.size, fun i hi _ => hb.block i hi⟩ (by cases v.ownBlock <;> simp)
end

/-- 'dst = append(dst, x, ..)': the new bytes lie in a block of their own. -/
theorem wpList_append_b {w : World} {ops : Array Oper} {rest : List Oper} {o : Oper} {a : Act} {Q : Exit → Act → World → Prop} (hgd : o.guard = none) (s x : Operand)
    (ho : o.op = .call { callee := .builtin .append, args := #[s, x], argTypes := #[22, 22] }) (base : Nat) (v : Value) (n : Nat) (zs : List Int) (hs : a.eval s = v) (hown : Own w base v n zs)
    (ad : Addr) (m c : Nat) (ys : List Int) (hx : a.eval x = .slice (some ad) m c) (hm : ys.length = m) (hc : ∀ j u, (ys.map (Value.int .u8))[j]? = some u → w.cell? (ad.add j) = some u) (hl : n + m ≤ 1073741824) (hB : base ≤ w.heap.size)
    (h : ∀ a' c' w', Own w' base (.slice a' (n + m) c') (n + m) (zs ++ ys) → w.grownBy w' v.ownBlock → wpList Trym.prog ops Q rest (a.put o.dst (.slice a' (n + m) c')) w') :
    wpList Trym.prog ops Q (o :: rest) a w := by
  obtain ⟨i0, hi, hz0, hz1, hz2⟩ := info_parts info5
  refine wpList_append_own _ hgd s x 22 ho base 5 i0 (.int .u8 0) 1 1 Trym.underlying22 hi hz0 hz1 hz2 rfl (by decide) v n _ hs hown ad m c (ys.map (Value.int .u8)) hx (by simp [hm]) hc (fun x hx => by obtain ⟨_, _, rfl⟩ := List.mem_map.1 hx; rfl) (by unfold maxLen; omega) (by omega) hB ?_
  intro v' w' h1 h2 _
  have h1' : Own w' base v' (n + m) (zs ++ ys) := by unfold Own; rw [List.map_append]; exact h1
  obtain ⟨a', c', rfl⟩ := h1'.shape
  exact h a' c' w' h1' h2

/-- 'dst = append(dst, s...)'. -/
theorem wpList_append_str {w : World} {ops : Array Oper} {rest : List Oper} {o : Oper} {a : Act} {Q : Exit → Act → World → Prop} (hgd : o.guard = none) (s x : Operand)
    (ho : o.op = .call { callee := .builtin .append, args := #[s, x], argTypes := #[22, 9] }) (base : Nat) (v : Value) (n : Nat) (zs : List Int) (hs : a.eval s = v) (hown : Own w base v n zs)
    (k : ByteArray) (hx : a.eval x = .string k) (hl : n + k.size ≤ 1073741824) (hB : base ≤ w.heap.size)
    (h : ∀ a' c' w', Own w' base (.slice a' (n + k.size) c') (n + k.size) (zs ++ kb k) → w.grownBy w' v.ownBlock → wpList Trym.prog ops Q rest (a.put o.dst (.slice a' (n + k.size) c')) w') :
    wpList Trym.prog ops Q (o :: rest) a w := by
  obtain ⟨i0, hi, hz0, hz1, hz2⟩ := info_parts info5
  refine Lib.wpList_append_own_string _ hgd s x 22 9 ho base 5 i0 Trym.underlying22 Trym.underlying9 hi hz0 hz1 hz2 v n _ hs hown k hx (by unfold maxLen; omega) (by omega) hB ?_
  intro v' w' h1 h2 _
  have h1' : Own w' base v' (n + k.size) (zs ++ kb k) := by unfold Own; rw [List.map_append, kb_cells]; exact h1
  obtain ⟨a', c', rfl⟩ := h1'.shape
  exact h a' c' w' h1' h2

end Go.Proofs.Qxb6608813aMods
