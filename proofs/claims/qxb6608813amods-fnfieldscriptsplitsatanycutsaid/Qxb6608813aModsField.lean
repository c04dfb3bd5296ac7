/- appendJSONKey, (*partsWriter).field, ZZpartsField, ZZpartsJS, ZZpartsInts, ZZnewPartsWriter. -/
import Derived.Test.Qxb6608813aModsBase
namespace Go.Proofs.Qxb6608813aMods
open Go.RowKit

/-- Below base nothing has turned; nor has a row of cells that are no bytes. -/
def Fr (base : Nat) (w w' : World) : Prop := Below base w w' ∧ ∀ (k : Nat) (cs : Array Value) (t : TypeId), w.heap[k]? = some (.cells cs t (0, 0)) → t ≠ 5 → w'.heap[k]? = some (.cells cs t (0, 0))

theorem Fr.refl (base : Nat) (w : World) : Fr base w w := ⟨Below.refl _ _, fun _ _ _ h _ => h⟩
theorem Fr.trans {base : Nat} {a b c : World} (h : Fr base a b) (k : Fr base b c) : Fr base a c := ⟨h.1.trans k.1, fun i cs t hi ht => k.2 i cs t (h.2 i cs t hi ht) ht⟩
theorem Fr.alloc {base : Nat} {a b : World} (h : Fr base a b) (hB : base ≤ b.heap.size) (o : Obj) : Fr base a (b.alloc o) :=
  h.trans ⟨(Below.refl _ _).alloc hB o, fun i cs t hi _ => by rw [Below.heap_alloc _ _ _ (Array.getElem?_eq_some_iff.1 hi).1]; exact hi⟩
theorem Fr.grown {base : Nat} {a b c : World} {v : Value} {n : Nat} {zs : List Int} (h : Fr base a b) (hown : Own b base v n zs) (hg : b.grownBy c v.ownBlock) (hB : base ≤ b.heap.size) : Fr base a c :=
  h.trans ⟨(Below.refl _ _).grown hg hB (fun k hk => (hown.lt k hk).1), fun i cs t hi ht => by
    rw [hg.block i (Array.getElem?_eq_some_iff.1 hi).1 (fun e => hown.ne hi ht e.symm)]; exact hi⟩

theorem new1 (w : World) (z : Int) : ∀ j u, ([z].map (Value.int .u8))[j]? = some u → (w.alloc (.cells #[.int .u8 z] 5)).cell? ((⟨w.heap.size, 0, none⟩ : Addr).add j) = some u := cell_one_new w (.int .u8 z) 5

set_option maxHeartbeats 400000 in
theorem appendKey_any (v : Value) (n : Nat) (zs : List Int) (key : ByteArray) (base : Nat) (w : World) (hown : Own w base v n zs) (hB : base ≤ w.heap.size) (hl : n + key.size ≤ 268435456) :
    Calls Trym.prog 27 #[v, .string key] w fun e w' => ∃ a c, e = .returned (.slice a (n + 1 + key.size + 2) c) ∧ Own w' base (.slice a (n + 1 + key.size + 2) c) (n + 1 + key.size + 2) (zs ++ mem key) ∧ Fr base w w' := by
  have tok1 : True := trivial
  have tok2 : True := trivial
  go_enter Trym.func27, Trym.ntmps27
  go_wp2_with (first
    | (at_builtin; have _t := tok1; refine wpList_append_b rfl _ _ rfl base v n zs rfl (hown.alloc _) ⟨w.heap.size, 0, none⟩ 1 1 [34] rfl rfl (new1 w 34) (by omega) (by simp; omega) ?_; intro a1 c1 w1 hown1 hg1; clear tok1)
    | (at_builtin; have _t := tok2; refine wpList_append_str rfl _ _ rfl base (.slice a1 (n + 1) c1) (n + 1) (zs ++ [34]) rfl hown1 key rfl (by omega) (Nat.le_trans (by simp; omega) hg1.size) ?_; intro a2 c2 w2 hown2 hg2; clear tok2)
    | (at_builtin; refine wpList_append_str rfl _ _ rfl base (.slice a2 (n + 1 + key.size) c2) (n + 1 + key.size) (zs ++ [34] ++ kb key) rfl hown2 ⟨#[34, 58]⟩ rfl (by show n + 1 + key.size + 2 ≤ _; omega) (Nat.le_trans (Nat.le_trans (by simp; omega) hg1.size) hg2.size) ?_; intro a3 c3 w3 hown3 hg3))
  go_ret
  have e : zs ++ [34] ++ kb key ++ kb ⟨#[34, 58]⟩ = zs ++ mem key := by simp [mem, kb]
  rw [e] at hown3
  have s1 : base ≤ w1.heap.size := Nat.le_trans (by simp; omega) hg1.size
  have s2 : base ≤ w2.heap.size := Nat.le_trans s1 hg2.size
  exact ⟨a3, c3, rfl, hown3, ((((Fr.refl base w).alloc hB _).grown (hown.alloc _) hg1 (by simp; omega)).grown hown1 hg2 s1).grown hown2 hg3 s2⟩

/-- A writer (block bw) and the flag (block bm) in memory: it holds the n bytes zs and the four numbers. -/
structure Wr (W : World) (base bw bm : Nat) (v out : Value) (n : Nat) (zs : List Int) (m : Bool) (i1 i2 i3 i4 : Int) : Prop where
  hw : W.heap[bw]? = some (.cells #[v, .int .i64 i1, .int .i64 i2, .int .i64 i3, .int .i64 i4, out] 61 (0, 0))
  hm : W.heap[bm]? = some (.cells #[.bool m] 4 (0, 0))
  own : Own W base v n zs
  hb : base ≤ bw ∧ base ≤ bm ∧ base ≤ W.heap.size

section
variable {W W' : World} {base bw bm : Nat} {v out : Value} {n : Nat} {zs : List Int} {m : Bool} {i1 i2 i3 i4 : Int}

theorem Wr.ne (h : Wr W base bw bm v out n zs m i1 i2 i3 i4) : bw ≠ bm := fun e => by
  have h1 := h.hw
  rw [e, h.hm] at h1
  cases h1

theorem Wr.cells (h : Wr W base bw bm v out n zs m i1 i2 i3 i4) : W.cell? ⟨bw, 0, none⟩ = some v ∧ W.cell? ⟨bm, 0, none⟩ = some (.bool m) ∧ W.frozen? ⟨bw, 0, none⟩ = false ∧ W.frozen? ⟨bm, 0, none⟩ = false := by
  refine ⟨?_, ?_, frozen_of_row W _ _ _ 61 h.hw, frozen_of_row W _ _ _ 4 h.hm⟩
  · rw [cell_of_row W _ _ _ 61 (0, 0) h.hw]; rfl
  · rw [cell_of_row W _ _ _ 4 (0, 0) h.hm]; rfl

theorem Wr.below (h : Wr W base bw bm v out n zs m i1 i2 i3 i4) (hb : Below W.heap.size W W') : Wr W' base bw bm v out n zs m i1 i2 i3 i4 := by
  obtain ⟨hw, hm, ho, b1, b2, b3⟩ := h
  exact ⟨(hb.block _ (Array.getElem?_eq_some_iff.1 hw).1).trans hw, (hb.block _ (Array.getElem?_eq_some_iff.1 hm).1).trans hm, ho.below hb, b1, b2, Nat.le_trans b3 hb.size⟩

/-- The slice has been appended to, and stored in the field. -/
theorem Wr.store (h : Wr W base bw bm v out n zs m i1 i2 i3 i4) {v' : Value} {n' : Nat} {zs' : List Int} (hf : Fr base W W') (ho : Own W' base v' n' zs') :
    Wr (W'.setCell ⟨bw, 0, none⟩ v') base bw bm v' out n' zs' m i1 i2 i3 i4 := by
  have hne := h.ne
  obtain ⟨hw, hm, _, b1, b2, b3⟩ := h
  have hw' := hf.2 _ _ _ hw (by decide)
  have hm' := hf.2 _ _ _ hm (by decide)
  have hno := ho.ne hw' (by decide)
  refine ⟨?_, ?_, ?_, b1, b2, ?_⟩
  · rw [heap_setCell_same W' bw 0 _ 61 v' hw']; rfl
  · rw [heap_setCell_other _ _ _ _ (by simp only; exact fun e => hne e.symm)]; exact hm'
  · refine ho.kept (row := some bw) ⟨rfl, rfl, rfl, by simp [World.setCell], fun k _ hk => Below.heap_setCell _ _ _ _ (fun e => hk (by rw [e]))⟩ (.inr hno)
  · have := hf.1.size
    simp [World.setCell]; omega

/-- The flag has been set. -/
theorem Wr.set (h : Wr W base bw bm v out n zs m i1 i2 i3 i4) (b : Bool) : Wr (W.setCell ⟨bm, 0, none⟩ (.bool b)) base bw bm v out n zs b i1 i2 i3 i4 := by
  have hne := h.ne
  obtain ⟨hw, hm, ho, b1, b2, b3⟩ := h
  have hno := ho.ne hm (by decide)
  refine ⟨?_, ?_, ?_, b1, b2, by simpa [World.setCell] using b3⟩
  · rw [heap_setCell_other _ _ _ _ (by simp only; exact hne)]; exact hw
  · rw [heap_setCell_same W bm 0 _ 4 _ hm]; rfl
  · exact ho.kept (row := some bm) ⟨rfl, rfl, rfl, by simp [World.setCell], fun k _ hk => Below.heap_setCell _ _ _ _ (fun e => hk (by rw [e]))⟩ (.inr hno)

theorem Wr.lay (h : Wr W base bw bm v out n zs m i1 i2 i3 i4) {o : Obj} (hg : (W.alloc o).grownBy W' v.ownBlock) : Fr base W W' :=
  ((Fr.refl base W).alloc h.hb.2.2 _).grown (h.own.alloc _) hg (by have := h.hb.2.2; simp; omega)

theorem Wr.laid (h : Wr W base bw bm v out n zs m i1 i2 i3 i4) (hf : Fr base W W') : W'.frozen? ⟨bw, 0, none⟩ = false ∧ W'.cell? ⟨bw, 0, none⟩ = some v := by
  have h1 := hf.2 _ _ _ h.hw (by decide)
  refine ⟨frozen_of_row W' _ _ _ 61 h1, ?_⟩
  rw [cell_of_row W' _ _ _ 61 (0, 0) h1]; rfl
end

set_option maxHeartbeats 1000000 in
theorem field_any (base bw bm : Nat) (v out : Value) (n : Nat) (zs : List Int) (m : Bool) (i1 i2 i3 i4 : Int) (key : ByteArray) (w : World) (hW : Wr w base bw bm v out n zs m i1 i2 i3 i4) (hl : n + key.size ≤ 134217728) :
    Calls Trym.prog 25 #[.pointer (some ⟨bw, 0, none⟩), .pointer (some ⟨bm, 0, none⟩), .string key] w fun e w' => e = .returned (.tuple #[]) ∧ (∃ v' n', Wr w' base bw bm v' out n' (zs ++ (comma m ++ mem key)) true i1 i2 i3 i4) ∧ Below base w w' := by
  obtain ⟨a0, c0, rfl⟩ := hW.own.shape
  obtain ⟨c1, c2, f1, f2⟩ := hW.cells
  have hne := hW.ne
  have hne' : ¬ bw = bm := hne
  have hne'' : ¬ bm = bw := fun e => hne e.symm
  have hB := hW.hb.2.2
  have hown := hW.own
  cases m
  · go_enter Trym.func25, Trym.ntmps25
    go_upto_region 2 with fail
    obtain ⟨wA, A1, D1, n1, hWA, hbA, hn1, hwA⟩ : ∃ wA A1 D1 n1, Wr wA base bw bm (.slice A1 n1 D1) out n1 (zs ++ comma false) false i1 i2 i3 i4 ∧ Below base w wA ∧ n1 ≤ n + 1 ∧ w = wA := ⟨w, a0, c0, n, by simpa [comma] using hW, Below.refl _ _, by omega, rfl⟩
    rw [hwA]
    obtain ⟨c1', c2', f1', f2'⟩ := hWA.cells
    go_upto_region 3 with fail
    have hWB := hWA.set true
    have hbB := hbA.setCell (p := ⟨bm, 0, none⟩) hWA.hb.2.1 (.bool true)
    generalize hwB : wA.setCell ⟨bm, 0, none⟩ (.bool true) = wB at *
    clear hwB
    obtain ⟨e1, e2, k1, k2⟩ := hWB.cells
    go_wp2_with fail
    refine (appendKey_any (.slice A1 n1 D1) n1 _ key base wB hWB.own hWB.hb.2.2 (by omega)).mono ?_
    rintro e wC ⟨a3, d3, rfl, hown3, hf3⟩
    obtain ⟨g1, g2⟩ := hWB.laid hf3
    go_wp2_with fail
    go_end0
    have hWC := hWB.store hf3 hown3
    rw [List.append_assoc] at hWC
    exact ⟨rfl, ⟨_, _, hWC⟩, (hbB.trans hf3.1).setCell (p := ⟨bw, 0, none⟩) hWA.hb.1 _⟩
  · go_enter Trym.func25, Trym.ntmps25
    go_upto_region 2 with (at_builtin; refine wpList_append_b rfl _ _ rfl base (.slice a0 n c0) n zs rfl (hown.alloc _) ⟨w.heap.size, 0, none⟩ 1 1 [44] rfl rfl (new1 w 44) (by omega) (by simp; omega) ?_; intro a1 d1 w1 hown1 hg1; have hf1 := hW.lay hg1; obtain ⟨g1, g2⟩ := hW.laid hf1)
    obtain ⟨wA, A1, D1, n1, hWA, hbA, hn1, hwA⟩ : ∃ wA A1 D1 n1, Wr wA base bw bm (.slice A1 n1 D1) out n1 (zs ++ comma true) true i1 i2 i3 i4 ∧ Below base w wA ∧ n1 ≤ n + 1 ∧ w1.setCell ⟨bw, 0, none⟩ (.slice a1 (n + 1) d1) = wA := ⟨_, a1, d1, n + 1, hW.store hf1 hown1, hf1.1.setCell (p := ⟨bw, 0, none⟩) hW.hb.1 _, by omega, rfl⟩
    rw [hwA]
    clear hg1 hown1 hf1 g1 g2 hwA
    obtain ⟨c1', c2', f1', f2'⟩ := hWA.cells
    go_upto_region 3 with fail
    have hWB := hWA.set true
    have hbB := hbA.setCell (p := ⟨bm, 0, none⟩) hWA.hb.2.1 (.bool true)
    generalize hwB : wA.setCell ⟨bm, 0, none⟩ (.bool true) = wB at *
    clear hwB
    obtain ⟨e1, e2, k1, k2⟩ := hWB.cells
    go_wp2_with fail
    refine (appendKey_any (.slice A1 n1 D1) n1 _ key base wB hWB.own hWB.hb.2.2 (by omega)).mono ?_
    rintro e wC ⟨a3, d3, rfl, hown3, hf3⟩
    obtain ⟨g1, g2⟩ := hWB.laid hf3
    go_wp2_with fail
    go_end0
    have hWC := hWB.store hf3 hown3
    rw [List.append_assoc] at hWC
    exact ⟨rfl, ⟨_, _, hWC⟩, (hbB.trans hf3.1).setCell (p := ⟨bw, 0, none⟩) hWA.hb.1 _⟩

end Go.Proofs.Qxb6608813aMods
