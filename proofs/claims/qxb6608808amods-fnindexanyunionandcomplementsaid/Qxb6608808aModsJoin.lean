/- FnIndexAnyOfJoin: the walk. -/
import Derived.Test.Qxb6608808aModsIdx
namespace Go.Proofs.Qxb6608808aMods
open Go.RowKit

theorem info22 : (Trym.prog.info? 22).map (·.size) = some 256 := by kernel_rfl

/-- The whole array, read out of its box. -/
theorem wpList_load_set {ops : Array Oper} {rest : List Oper} {o : Oper} {a : Act} {w : World} {Q : Exit → Act → World → Prop} (hgd : o.guard = none) (x : Operand) (ho : o.op = .load 22 x)
    (g : Nat) (hx : a.eval x = .pointer (some ⟨g, 0, none⟩)) (cs : Array Value) (hg : w.heap[g]? = some (.cells cs 22 (0, 0))) (hsz : cs.size = 256)
    (h : wpList Trym.prog ops Q rest (a.put o.dst (.agg cs)) w) : wpList Trym.prog ops Q (o :: rest) a w :=
  wpList_load_row hgd 22 x ho g hx 22 cs (0, 0) _ hg Trym.underlying22 rfl (by rw [hsz]; exact info22) h

set_option maxHeartbeats 1000000 in
set_option maxRecDepth 100000 in
theorem law3 (a b : ByteArray) (ha : a.size ≤ maxLen) (hb : b.size ≤ maxLen) (cs : Array Value) (f : UInt8 → Bool) (w : World) (hf : IsSet cs f) :
    Calls Trym.prog 3 #[.string a, .string b, .agg cs] w fun e w' => e = .returned (.bool true) ∧ Below w.heap.size w w' := by
  have hsz := hf.1
  have hbx : Below w.heap.size w (w.alloc (.cells cs 22)) := (Below.refl _ _).alloc (Nat.le_refl _) _
  have hg1 := heap_alloc_new w (.cells cs 22)
  have HF : Hid (IsSet cs f) := hf
  clear hf
  go_enter Trym.func3, Trym.ntmps3
  go_wp2_with (refine wpList_load_set rfl _ rfl _ rfl _ hg1 hsz ?_)
  refine (bytes5 a b ha hb cs _ hsz).mono ?_
  rintro e w1 ⟨⟨b1, rfl, hlen⟩, hb1⟩
  have hg2 := (hb1.block w.heap.size (by simp)).trans hg1
  have hB1 := hbx.trans (hb1.mono (by simp))
  have hlt1 : w.heap.size < w1.heap.size := (Array.getElem?_eq_some_iff.1 hg2).1
  clear hbx hb1 hg1
  cases b1
  · go_wp2
    go_ret
    exact ⟨rfl, hB1⟩
  have hl := hlen rfl
  clear hlen ha hb
  have ha : a.size ≤ 1048576 := by omega
  have hb : b.size ≤ 1048576 := by omega
  go_wp2_with (refine wpList_load_set rfl _ rfl _ rfl _ hg2 hsz ?_)
  refine (idx_any a ha cs f _ HF.out).mono ?_
  rintro e w2 ⟨⟨ra, rfl, hra⟩, hb2⟩
  have hg3 := (hb2.block w.heap.size hlt1).trans hg2
  have hB2 := hB1.trans (hb2.mono hB1.size)
  have hlt2 : w.heap.size < w2.heap.size := (Array.getElem?_eq_some_iff.1 hg3).1
  have HRA : Hid (Idx f a.data.toList ra) := hra
  clear hb2 hg2 hB1 hra hlt1
  go_wp2_with (refine wpList_load_set rfl _ rfl _ rfl _ hg3 hsz ?_)
  refine (idx_any b hb cs f _ HF.out).mono ?_
  rintro e w3 ⟨⟨rb, rfl, hrb⟩, hb3⟩
  have hg4 := (hb3.block w.heap.size hlt2).trans hg3
  have hB3 := hB2.trans (hb3.mono hB2.size)
  have hlt3 : w.heap.size < w3.heap.size := (Array.getElem?_eq_some_iff.1 hg4).1
  have HRB : Hid (Idx f b.data.toList rb) := hrb
  clear hb3 hg3 hB2 hrb hlt2
  go_wp2_with (refine wpList_load_set rfl _ rfl _ rfl _ hg4 hsz ?_)
  refine (idx_any (a ++ b) (by simp; omega) cs f _ HF.out).mono ?_
  rintro e w4 ⟨⟨rc, rfl, hrc⟩, hb4⟩
  have hg5 := (hb4.block w.heap.size hlt3).trans hg4
  have hB4 := hB3.trans (hb4.mono hB3.size)
  have hcell : ∀ x : UInt8, w4.cell? ⟨w.heap.size, x.toNat, none⟩ = some (.bool (f x)) := fun x => by rw [cell_of_row w4 _ _ cs 22 (0, 0) hg5]; exact HF.out.2 x
  have hab : (a ++ b).data.toList = a.data.toList ++ b.data.toList := by simp
  rw [hab] at hrc
  have HRC : Hid (Idx f (a.data.toList ++ b.data.toList) rc) := hrc
  clear hb4 hg4 hB3 hrc hlt3 hab hg5 HF
  rcases HRA.out with ⟨rfl, hna⟩ | ⟨k, hk, rfl, hfk, hnk⟩
  · clear HRA
    have HNA : Hid (∀ x ∈ a.data.toList, f x = false) := hna
    clear hna
    -- what is wanted
    have HW : Hid ((rb = -1 ∧ rc = -1) ∨ ∃ m : Nat, m < b.size ∧ rb = (m : Int) ∧ rc = (a.size : Int) + (m : Int)) := by
      rcases HRB.out with ⟨h1, h2⟩ | ⟨m, h1, h2, h3, h4⟩
      · exact .inl ⟨h1, HRC.out.unique (Idx.none HNA.out h2)⟩
      · exact .inr ⟨m, by simpa using h1, h2, by have := HRC.out.unique (Idx.right HNA.out h1 h3 h4); simpa using this⟩
    clear HRB HRC
    go_wp2_with fail
    go_loopg [10] a.size (fun gg i wr => ∃ k : Nat, k ≤ a.size ∧ gg = a.size - k ∧ i = .int .i64 k ∧ wr = w4)
    case atStart => exact ⟨0, Nat.zero_le _, rfl, rfl, rfl⟩
    case round =>
      obtain ⟨k, hk, rfl, rfl, rfl⟩ := hrel
      by_cases hlt : k < a.size
      · have hc := hcell a[k]
        have hfk : f a[k] = false := HNA.out a[k] (by have := List.getElem_mem (l := a.data.toList) (n := k) (by simpa using hlt); exact this)
        rw [hfk] at hc
        have hb8 : (a[k].toNat : Int) < 256 := by have := a[k].toNat_lt; omega
        have hlt' : (k : Int) < (a.size : Int) := by omega
        clear hcell hfk
        go_wp2_with fail
        go_roundg (a.size - (k + 1))
        case measure => omega
        case rel => exact ⟨k + 1, by omega, rfl, by go_num, rfl⟩
      · rcases HW.out with ⟨rfl, rfl⟩ | ⟨m, hm, rfl, rfl⟩
        · go_wp2_with fail
          go_ret
          exact ⟨rfl, hB4⟩
        · go_wp2_with fail
          go_ret
          exact ⟨by simp, hB4⟩
  · have hk' : k < a.size := by simpa using hk
    have hrc : rc = (k : Int) := HRC.out.unique (Idx.left hk hfk hnk)
    subst hrc
    have HNK : Hid (∀ x ∈ a.data.toList.take k, f x = false) := hnk
    have hfk' : f a[k] = true := hfk
    have hc := hcell a[k]
    rw [hfk'] at hc
    have hb8 : (a[k].toNat : Int) < 256 := by have := a[k].toNat_lt; omega
    have hlt' : (k : Int) < (a.size : Int) := by omega
    clear HRA HRB HRC hnk hfk hk hfk'
    have hk1 : ((k : Int) == -1) = false := by rw [beq_eq_false_iff_ne]; omega
    have hk2 : decide ((k : Int) < 0) = false := decide_eq_false (by omega)
    have hk3 : decide ((a.size : Int) ≤ (k : Int)) = false := decide_eq_false (by omega)
    have hk4 : decide (a.size ≤ k) = false := decide_eq_false (by omega)
    have HCell : Hid (∀ x : UInt8, w4.cell? ⟨w.heap.size, x.toNat, none⟩ = some (.bool (f x))) := hcell
    clear hcell
    go_wp2_with fail
    clear hc
    go_loopg [11] k (fun gg i wr => ∃ j : Nat, j ≤ k ∧ gg = k - j ∧ i = .int .i64 j ∧ wr = w4)
    case atStart => exact ⟨0, Nat.zero_le _, rfl, rfl, rfl⟩
    case round =>
      obtain ⟨j, hj, rfl, rfl, rfl⟩ := hrel
      by_cases hlt : j < k
      · have hc := HCell.out a[j]
        have hfj : f a[j] = false := HNK.out a[j] (by have := List.mem_take_iff_getElem.2 ⟨j, (by simp; omega : j < min k a.data.toList.length), rfl⟩; exact this)
        rw [hfj] at hc
        have hb8 : (a[j].toNat : Int) < 256 := by have := a[j].toNat_lt; omega
        have hlt' : (j : Int) < (a.size : Int) := by omega
        clear hfj
        go_wp2_with fail
        go_roundg (k - (j + 1))
        case measure => omega
        case rel => exact ⟨j + 1, by omega, rfl, by go_num, rfl⟩
      · go_wp2_with fail
        go_ret
        exact ⟨by simp, hB4⟩
end Go.Proofs.Qxb6608808aMods
