/- zzServeMaps. -/
import Derived.Test.Qxb6608675aModsFill
namespace Go.Proofs.Qxb6608675aMods
open Go.RowKit Go.Maps

/-- The state in a round: the maps and the slice, the struct that holds them (block bm), the result's block (b2), the record's copy (block br). -/
structure CC (w W : World) (B m1 m2 m3 m4 m5 n : Nat) (S : PS) (v : Value) (cs : List ByteArray) (bm b2 br : Nat) (r : Rec) : Prop where
  mi : MI w W B m1 m2 m3 m4 m5 n 9 S v cs
  blk : W.heap[bm]? = some (.cells #[.map (some m1), .map (some m2), .map (some m3), .map (some m4), .map (some m5), v] 58 (0, 0))
  res : W.heap[b2]? = some (.cells #[.map none, .map none, .map none, .map none, .map none, .slice none 0 0] 58 (0, 0))
  rc : RecAt W br 0 r
  hbm : m5 < bm ∧ bm < B ∧ b2 < m1 ∧ w.heap.size ≤ b2 ∧ B ≤ br ∧ br < W.heap.size

section
variable {w W W' : World} {B m1 m2 m3 m4 m5 n : Nat} {S : PS} {v : Value} {cs : List ByteArray} {bm b2 br : Nat} {r : Rec}

/-- A map has been written. -/
theorem CC.put {n' : Nat} {S' : PS} {m : Nat} (h : CC w W B m1 m2 m3 m4 m5 n S v cs bm b2 br r) (hm : m1 ≤ m ∧ m ≤ m5) (hg : W.grownBy W' (some m)) (hi : MI w W' B m1 m2 m3 m4 m5 n' 9 S' v cs) :
    CC w W' B m1 m2 m3 m4 m5 n' S' v cs bm b2 br r := by
  obtain ⟨mi, blk, res, rc, e1, e2, e3, e4, e5, e6⟩ := h
  have hlt : ∀ i o, W.heap[i]? = some o → i < W.heap.size := fun i o hh => (Array.getElem?_eq_some_iff.1 hh).1
  have hne : ∀ k, k ≠ m → some k ≠ some m := fun k hk e => by cases e; exact hk rfl
  exact ⟨hi, (hg.block bm (hlt _ _ blk) (hne _ (by omega))).trans blk, (hg.block b2 (hlt _ _ res) (hne _ (by omega))).trans res, rc.kept hg (by have := mi.ord; omega), e1, e2, e3, e4, e5, Nat.lt_of_lt_of_le e6 hg.size⟩

theorem CC.ne (h : CC w W B m1 m2 m3 m4 m5 n S v cs bm b2 br r) : m1 < m2 ∧ m2 < m3 ∧ m3 < m4 ∧ m4 < m5 ∧ m5 < bm ∧ bm < B ∧ B ≤ br := by
  have := h.mi.ord; have := h.hbm; omega

/-- The cells of the record's copy. -/
theorem CC.recs (h : CC w W B m1 m2 m3 m4 m5 n S v cs bm b2 br r) : W.cell? ⟨br, 0, none⟩ = some (.string r.name) ∧ W.cell? ⟨br, 1, none⟩ = some (.bool r.live) ∧ W.cell? ⟨br, 2, none⟩ = some (.string r.nd) ∧ W.cell? ⟨br, 3, none⟩ = some (.string r.pd) ∧
    W.cell? ⟨br, 4, none⟩ = some (.bool r.inC) ∧ W.cell? ⟨br, 5, none⟩ = some (.bool r.hasT) ∧ W.cell? ⟨br, 6, none⟩ = some (.int .u64 r.term) ∧ W.cell? ⟨br, 7, none⟩ = some (.bool r.hasSt) ∧ W.cell? ⟨br, 8, none⟩ = some (.string r.st) := by
  have := h.rc
  unfold RecAt at this
  simpa only [Nat.zero_add] using this

/-- The slice has been appended to. -/
theorem CC.app (h : CC w W B m1 m2 m3 m4 m5 n S v cs bm b2 br r) {o : Obj} {v' : Value} {cs' : List ByteArray} (hg : (W.alloc o).grownBy W' v.ownBlock) (ho : W'.ownsRow B 9 1 v' cs'.length (cs'.map Value.string)) :
    MI w W' B m1 m2 m3 m4 m5 n 9 S v' cs' ∧ W'.heap[bm]? = some (.cells #[.map (some m1), .map (some m2), .map (some m3), .map (some m4), .map (some m5), v] 58 (0, 0)) ∧
      W'.heap[b2]? = some (.cells #[.map none, .map none, .map none, .map none, .map none, .slice none 0 0] 58 (0, 0)) := by
  have hord := h.mi.ord
  have hlt := h.mi.own.lt
  obtain ⟨mi, blk, res, rc, e1, e2, e3, e4, e5, e6⟩ := h
  have hlt1 : ∀ i o, W.heap[i]? = some o → i < W.heap.size := fun i o hh => (Array.getElem?_eq_some_iff.1 hh).1
  have hlt2 : ∀ i o', W.heap[i]? = some o' → i < (W.alloc o).heap.size := fun i o' hh => by have := hlt1 i o' hh; simp; omega
  have hne : ∀ k, k < B → some k ≠ v.ownBlock := fun k hk e => by have := (hlt k e.symm).1; omega
  refine ⟨(mi.alloc o).kept hg (fun k e => by have := (hlt k e).1; omega) ho, ?_, ?_⟩
  · rw [hg.block bm (hlt2 _ _ blk) (hne _ (by omega)), Below.heap_alloc _ _ _ (hlt1 _ _ blk)]; exact blk
  · rw [hg.block b2 (hlt2 _ _ res) (hne _ (by omega)), Below.heap_alloc _ _ _ (hlt1 _ _ res)]; exact res

/-- The cells of the struct. -/
theorem CC.cells (h : CC w W B m1 m2 m3 m4 m5 n S v cs bm b2 br r) : W.cell? ⟨bm, 0, none⟩ = some (.map (some m1)) ∧ W.cell? ⟨bm, 1, none⟩ = some (.map (some m2)) ∧ W.cell? ⟨bm, 2, none⟩ = some (.map (some m3)) ∧
    W.cell? ⟨bm, 3, none⟩ = some (.map (some m4)) ∧ W.cell? ⟨bm, 4, none⟩ = some (.map (some m5)) ∧ W.cell? ⟨bm, 5, none⟩ = some v := by
  refine ⟨?_, ?_, ?_, ?_, ?_, ?_⟩ <;> (rw [cell_of_row W _ _ _ 58 (0, 0) h.blk]; rfl)
end

theorem rec_new (w : World) (r : Rec) : RecAt (w.alloc (.cells #[.string r.name, .bool r.live, .string r.nd, .string r.pd, .bool r.inC, .bool r.hasT, .int .u64 r.term, .bool r.hasSt, .string r.st] 72)) w.heap.size 0 r := by
  have h := (MapKept.heap_alloc w (.cells #[.string r.name, .bool r.live, .string r.nd, .string r.pd, .bool r.inC, .bool r.hasT, .int .u64 r.term, .bool r.hasSt, .string r.st] 72)).1
  refine ⟨?_, ?_, ?_, ?_, ?_, ?_, ?_, ?_, ?_⟩ <;> (rw [cell_of_row _ _ _ _ 72 (0, 0) h]; rfl)

theorem made5 (w : World) (o0 o6 : Obj) (v : Value) (hv : v = .slice none 0 0) :
    let W := ((((((w.alloc o0).alloc (.map #[] 0)).alloc (.map #[] 0)).alloc (.map #[] 0)).alloc (.map #[] 0)).alloc (.map #[] 0)).alloc o6
    MI w W (w.heap.size + 1 + 1 + 1 + 1 + 1 + 1 + 1) (w.heap.size + 1) (w.heap.size + 1 + 1) (w.heap.size + 1 + 1 + 1) (w.heap.size + 1 + 1 + 1 + 1) (w.heap.size + 1 + 1 + 1 + 1 + 1) 0 9 ps0 v [] ∧
    W.heap[w.heap.size]? = some o0 ∧ W.heap[w.heap.size + 1 + 1 + 1 + 1 + 1 + 1]? = some o6 := by
  intro W
  have s1 : (w.alloc o0).heap.size = w.heap.size + 1 := by simp
  have e : ∀ (w : World) (o : Obj) (k : Nat), k < w.heap.size → (w.alloc o).heap[k]? = w.heap[k]? := fun w o k h => Below.heap_alloc w o k h
  have en : ∀ (w : World) (o : Obj), (w.alloc o).heap[w.heap.size]? = some o := fun w o => (MapKept.heap_alloc w o).1
  have sz : ∀ (w : World) (o : Obj), (w.alloc o).heap.size = w.heap.size + 1 := fun w o => by simp
  subst hv
  refine ⟨⟨?_, ?_, ?_, ?_, ?_, World.ownsRow_nil _ _ _ _, ?_, ?_⟩, ?_, ?_⟩
  · have h := SMap.made (w.alloc o0) 9
    rw [sz] at h
    refine h.same ?_
    show (World.alloc _ _).heap[_]? = _
    rw [e _ _ _ (by simp only [sz]; omega), e _ _ _ (by simp only [sz]; omega), e _ _ _ (by simp only [sz]; omega), e _ _ _ (by simp only [sz]; omega), e _ _ _ (by simp only [sz]; omega)]
  · have h := SMap.made ((w.alloc o0).alloc (.map #[] 0)) 9
    rw [sz, sz] at h
    refine h.same ?_
    show (World.alloc _ _).heap[_]? = _
    rw [e _ _ _ (by simp only [sz]; omega), e _ _ _ (by simp only [sz]; omega), e _ _ _ (by simp only [sz]; omega), e _ _ _ (by simp only [sz]; omega)]
  · have h := SMap.made (((w.alloc o0).alloc (.map #[] 0)).alloc (.map #[] 0)) 9
    rw [sz, sz, sz] at h
    refine h.same ?_
    show (World.alloc _ _).heap[_]? = _
    rw [e _ _ _ (by simp only [sz]; omega), e _ _ _ (by simp only [sz]; omega), e _ _ _ (by simp only [sz]; omega)]
  · have h := TMap.made ((((w.alloc o0).alloc (.map #[] 0)).alloc (.map #[] 0)).alloc (.map #[] 0))
    rw [sz, sz, sz, sz] at h
    refine h.same ?_
    show (World.alloc _ _).heap[_]? = _
    rw [e _ _ _ (by simp only [sz]; omega), e _ _ _ (by simp only [sz]; omega)]
  · have h := SMap.made (((((w.alloc o0).alloc (.map #[] 0)).alloc (.map #[] 0)).alloc (.map #[] 0)).alloc (.map #[] 0)) 9
    rw [sz, sz, sz, sz, sz] at h
    refine h.same ?_
    show (World.alloc _ _).heap[_]? = _
    rw [e _ _ _ (by simp only [sz]; omega)]
  · exact (((((((Below.refl _ _).alloc (Nat.le_refl _) _).alloc (by simp only [sz]; omega) _).alloc (by simp only [sz]; omega) _).alloc (by simp only [sz]; omega) _).alloc (by simp only [sz]; omega) _).alloc (by simp only [sz]; omega) _).alloc (by simp only [sz]; omega) _
  · refine ⟨by omega, by omega, by omega, by omega, by omega, by omega, ?_⟩
    show _ ≤ (World.alloc _ _).heap.size
    simp only [sz]; omega
  · show (World.alloc _ _).heap[_]? = _
    rw [e _ _ _ (by simp only [sz]; omega), e _ _ _ (by simp only [sz]; omega), e _ _ _ (by simp only [sz]; omega), e _ _ _ (by simp only [sz]; omega), e _ _ _ (by simp only [sz]; omega), e _ _ _ (by simp only [sz]; omega)]
    exact en w o0
  · have h := en ((((((w.alloc o0).alloc (.map #[] 0)).alloc (.map #[] 0)).alloc (.map #[] 0)).alloc (.map #[] 0)).alloc (.map #[] 0)) o6
    simp only [sz] at h
    exact h

end Go.Proofs.Qxb6608675aMods
