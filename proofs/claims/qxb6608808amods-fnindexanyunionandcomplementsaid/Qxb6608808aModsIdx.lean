/- indexAny, ZZindexAny, zzIndexAny_b1: by their contracts. -/
import Derived.Test.Qxb6608808aModsRows
import Derived.WalkKit
import Derived.WalkSpells
import Derived.WalkLawsBesides
import Derived.BigQuiet
import Derived.Deep.QuietTactic
import Derived.Deep.LoopGhost
import Derived.Deep.DeepCutAuto
namespace Go.Proofs.Qxb6608808aMods
open Go.RowKit

/-- cs is an array of 256 bools, told by f. -/
def IsSet (cs : Array Value) (f : UInt8 → Bool) : Prop := cs.size = 256 ∧ ∀ b : UInt8, cs[b.toNat]? = some (.bool (f b))

/-- r is the first place whose byte is in the set, or -1. -/
def Idx (f : UInt8 → Bool) (l : List UInt8) (r : Int) : Prop :=
  (r = -1 ∧ ∀ b ∈ l, f b = false) ∨ ∃ (k : Nat) (h : k < l.length), r = (k : Int) ∧ f l[k] = true ∧ ∀ b ∈ l.take k, f b = false

/-- The call has returned such a place. -/
def RetIdx (e : Ending) (f : UInt8 → Bool) (l : List UInt8) : Prop := ∃ r : Int, e = .returned (.int .i64 r) ∧ Idx f l r

theorem take_snoc (s : ByteArray) (k : Nat) (h : k < s.size) : s.data.toList.take (k + 1) = s.data.toList.take k ++ [s[k]] := by
  rw [List.take_succ_eq_append_getElem (by simpa using h)]; rfl

set_option maxHeartbeats 400000 in
theorem indexAny_any (s : ByteArray) (hs : s.size ≤ 1048576) (g : Nat) (t : TypeId) (cs : Array Value) (f : UInt8 → Bool) (w : World) (hg : w.heap[g]? = some (.cells cs t (0, 0))) (hf : IsSet cs f) :
    Calls Trym.prog 10 #[.string s, .pointer (some ⟨g, 0, none⟩)] w fun e w' => RetIdx e f s.data.toList ∧ Below w.heap.size w w' := by
  have hgl : g < w.heap.size := (Array.getElem?_eq_some_iff.1 hg).1
  have hcell : ∀ b : UInt8, w.cell? ⟨g, b.toNat, none⟩ = some (.bool (f b)) := fun b => by rw [cell_of_row w g _ cs t (0, 0) hg]; exact hf.2 b
  clear hg hf
  go_enter Trym.func10, Trym.ntmps10
  go_wp2
  go_loopg [5, 8] s.size (fun gg _ i wr => ∃ k : Nat, k ≤ s.size ∧ gg = s.size - k ∧ i = .int .i64 k ∧ (∀ b ∈ s.data.toList.take k, f b = false) ∧ Below w.heap.size w wr)
  case atStart => exact ⟨0, Nat.zero_le _, rfl, rfl, by simp, Below.refl _ _⟩
  case round =>
    obtain ⟨k, hk, rfl, rfl, hno, hbw⟩ := hrel
    have HN : Hid (∀ b ∈ s.data.toList.take k, f b = false) := hno
    clear hno
    by_cases hlt : k < s.size
    · have hc : wr.cell? ⟨g, s[k].toNat, none⟩ = some (.bool (f s[k])) := (hbw.cell hgl).trans (hcell s[k])
      have HS : Hid (s.data.toList.take (k + 1) = s.data.toList.take k ++ [s[k]]) := take_snoc s k hlt
      have hlt' : (k : Int) < (s.size : Int) := by omega
      have hb8 : (s[k].toNat : Int) < 256 := by have := s[k].toNat_lt; omega
      have HE : Hid (∃ h : k < s.data.toList.length, s.data.toList[k] = s[k]) := ⟨by simpa using hlt, rfl⟩
      clear hcell
      go_wp2
      go_quiet (fail)
      cases hfb : f s[k]
      · go_wp2
        go_roundg (s.size - (k + 1))
        case measure => omega
        case rel =>
          refine ⟨k + 1, by omega, rfl, by go_num, ?_, below_drewN hbw _⟩
          rw [HS.out]
          intro b hb
          rcases List.mem_append.1 hb with h | h
          · exact HN.out b h
          · rw [List.mem_singleton] at h
            rw [h]; exact hfb
      · go_wp2
        go_ret
        obtain ⟨h1, h2⟩ := HE.out
        exact ⟨⟨_, rfl, .inr ⟨k, h1, rfl, by rw [h2]; exact hfb, HN.out⟩⟩, below_drewN hbw _⟩
    · go_wp2
      go_ret
      refine ⟨⟨-1, rfl, .inl ⟨rfl, fun b hb => HN.out b ?_⟩⟩, hbw⟩
      rw [List.take_of_length_le (by simp; omega)]; exact hb

set_option maxHeartbeats 400000 in
theorem zzindexAny_any (s : ByteArray) (hs : s.size ≤ 1048576) (g : Nat) (t : TypeId) (cs : Array Value) (f : UInt8 → Bool) (w : World) (hg : w.heap[g]? = some (.cells cs t (0, 0))) (hf : IsSet cs f) :
    Calls Trym.prog 9 #[.string s, .pointer (some ⟨g, 0, none⟩)] w fun e w' => RetIdx e f s.data.toList ∧ Below w.heap.size w w' := by
  go_enter Trym.func9, Trym.ntmps9
  go_wp2_with fail
  refine (indexAny_any s hs g t cs f w hg hf).mono ?_
  rintro e w' ⟨⟨r, rfl, hr⟩, hb⟩
  have HR : Hid (Idx f s.data.toList r) := hr
  clear hr
  go_wp2
  go_ret
  exact ⟨⟨r, rfl, HR.out⟩, hb⟩

set_option maxHeartbeats 400000 in
theorem idx_any (s : ByteArray) (hs : s.size ≤ 1048576) (cs : Array Value) (f : UInt8 → Bool) (w : World) (hf : IsSet cs f) :
    Calls Trym.prog 6 #[.string s, .agg cs] w fun e w' => RetIdx e f s.data.toList ∧ Below w.heap.size w w' := by
  have hsz := hf.1
  go_enter Trym.func6, Trym.ntmps6
  go_wp2_with fail
  refine (zzindexAny_any s hs w.heap.size 22 cs f _ (heap_alloc_new w _) hf).mono ?_
  rintro e w' ⟨⟨r, rfl, hr⟩, hb⟩
  have HR : Hid (Idx f s.data.toList r) := hr
  clear hr
  have hb2 : Below w.heap.size w w' := ((Below.refl _ _).alloc (Nat.le_refl _) _).trans (hb.mono (by simp))
  clear hb
  go_wp2
  go_ret
  exact ⟨⟨r, rfl, HR.out⟩, hb2⟩


/-- The call has returned a bool; if it is v, p holds. -/
def RetIf (e : Ending) (v : Bool) (p : Prop) : Prop := ∃ b : Bool, e = .returned (.bool b) ∧ (b = v → p)
theorem RetIf.no {p : Prop} : RetIf (.returned (.bool false)) true p := ⟨false, rfl, fun h => by cases h⟩

set_option maxHeartbeats 400000 in
theorem bytes5 (a b : ByteArray) (ha : a.size ≤ maxLen) (hb : b.size ≤ maxLen) (cs : Array Value) (w : World) (_ : cs.size = 256) :
    Calls Trym.prog 5 #[.string a, .string b, .agg cs] w fun e w' => RetIf e true (a.size + b.size ≤ 1048576) ∧ Below w.heap.size w w' := by
  unfold maxLen at ha hb
  have HB : Hid (∀ o, Below w.heap.size w (w.alloc o)) := fun o => (Below.refl _ _).alloc (Nat.le_refl _) o
  go_enter Trym.func5, Trym.ntmps5
  go_wp2
  rotate_right 1
  · go_ret
    exact ⟨⟨true, rfl, fun _ => by omega⟩, HB.out _⟩
  all_goals
    go_ret
    exact ⟨RetIf.no, HB.out _⟩

set_option maxHeartbeats 400000 in
theorem bytes7 (a : ByteArray) (ha : a.size ≤ maxLen) (cs ds : Array Value) (w : World) (_ : cs.size = 256) (_ : ds.size = 256) :
    Calls Trym.prog 7 #[.string a, .agg cs, .agg ds] w fun e w' => RetIf e true (a.size ≤ 1048576) ∧ Below w.heap.size w w' := by
  unfold maxLen at ha
  have HB : Hid (∀ o o', Below w.heap.size w ((w.alloc o).alloc o')) := fun o o' => ((Below.refl _ _).alloc (Nat.le_refl _) o).alloc (by simp) o'
  go_enter Trym.func7, Trym.ntmps7
  go_wp2
  rotate_right 1
  · go_ret
    exact ⟨⟨true, rfl, fun _ => by omega⟩, HB.out _ _⟩
  all_goals
    go_ret
    exact ⟨RetIf.no, HB.out _ _⟩

/-! ### plain laws -/
theorem Idx.unique {f : UInt8 → Bool} {l : List UInt8} {r r' : Int} (h : Idx f l r) (h' : Idx f l r') : r = r' := by
  rcases h with ⟨rfl, h⟩ | ⟨k, hk, rfl, hf, hn⟩
  · rcases h' with ⟨rfl, _⟩ | ⟨k', hk', rfl, hf', _⟩
    · rfl
    · rw [h _ (List.getElem_mem hk')] at hf'; cases hf'
  · rcases h' with ⟨rfl, h'⟩ | ⟨k', hk', rfl, hf', hn'⟩
    · rw [h' _ (List.getElem_mem hk)] at hf; cases hf
    · have mem : ∀ (i j : Nat) (hi : i < l.length), i < j → l[i] ∈ l.take j := fun i j hi hij => List.mem_take_iff_getElem.2 ⟨i, by omega, rfl⟩
      rcases Nat.lt_trichotomy k k' with h | h | h
      · rw [hn' _ (mem k k' hk h)] at hf; cases hf
      · rw [h]
      · rw [hn _ (mem k' k hk' h)] at hf'; cases hf'

theorem Idx.left {f : UInt8 → Bool} {la lb : List UInt8} {k : Nat} (hk : k < la.length) (hf : f la[k] = true) (hn : ∀ b ∈ la.take k, f b = false) : Idx f (la ++ lb) (k : Int) := by
  refine .inr ⟨k, by simp; omega, rfl, ?_, ?_⟩
  · rw [List.getElem_append_left hk]; exact hf
  · rw [List.take_append_of_le_length (by omega)]; exact hn

theorem Idx.right {f : UInt8 → Bool} {la lb : List UInt8} (ha : ∀ b ∈ la, f b = false) {m : Nat} (hm : m < lb.length) (hf : f lb[m] = true) (hn : ∀ b ∈ lb.take m, f b = false) : Idx f (la ++ lb) ((la.length : Int) + (m : Int)) := by
  refine .inr ⟨la.length + m, by simp; omega, by omega, ?_, ?_⟩
  · rw [List.getElem_append_right (by omega)]
    simpa using hf
  · rw [List.take_append]
    intro b hb
    rcases List.mem_append.1 hb with h | h
    · exact ha b (List.mem_of_mem_take h)
    · rw [show la.length + m - la.length = m from by omega] at h
      exact hn b h

theorem Idx.none {f : UInt8 → Bool} {la lb : List UInt8} (ha : ∀ b ∈ la, f b = false) (hb : ∀ b ∈ lb, f b = false) : Idx f (la ++ lb) (-1) := by
  refine .inl ⟨rfl, fun b h => ?_⟩
  rcases List.mem_append.1 h with h | h
  · exact ha b h
  · exact hb b h

end Go.Proofs.Qxb6608808aMods
