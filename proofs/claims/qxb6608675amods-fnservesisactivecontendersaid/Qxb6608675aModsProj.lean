/- zzServeProject: its parts. -/
import Derived.Test.Qxb6608675aModsFill
namespace Go.Proofs.Qxb6608675aMods
open Go.RowKit Go.Maps

/-- The state in a round: the maps and the slice, the record's copy (block br). -/
structure CP (w W : World) (B m1 m2 m3 m4 m5 n : Nat) (S : PS) (v : Value) (cs : List ByteArray) (br : Nat) (r : Rec) : Prop where
  mi : MI w W B m1 m2 m3 m4 m5 n 69 S v cs
  rc : RecAt W br 0 r
  hbr : B ≤ br

section
variable {w W W' : World} {B m1 m2 m3 m4 m5 n : Nat} {S : PS} {v : Value} {cs : List ByteArray} {br : Nat} {r : Rec}

/-- A map has been written. -/
theorem CP.put {n' : Nat} {S' : PS} {m : Nat} (h : CP w W B m1 m2 m3 m4 m5 n S v cs br r) (hm : m1 ≤ m ∧ m ≤ m5) (hg : W.grownBy W' (some m)) (hi : MI w W' B m1 m2 m3 m4 m5 n' 69 S' v cs) :
    CP w W' B m1 m2 m3 m4 m5 n' S' v cs br r := by
  obtain ⟨mi, rc, e5⟩ := h
  exact ⟨hi, rc.kept hg (by have := mi.ord; omega), e5⟩

theorem CP.ne (h : CP w W B m1 m2 m3 m4 m5 n S v cs br r) : m1 < m2 ∧ m2 < m3 ∧ m3 < m4 ∧ m4 < m5 ∧ m5 < B ∧ B ≤ br := by
  have := h.mi.ord; have := h.hbr; omega

/-- The cells of the record's copy. -/
theorem CP.recs (h : CP w W B m1 m2 m3 m4 m5 n S v cs br r) : W.cell? ⟨br, 0, none⟩ = some (.string r.name) ∧ W.cell? ⟨br, 1, none⟩ = some (.bool r.live) ∧ W.cell? ⟨br, 2, none⟩ = some (.string r.nd) ∧ W.cell? ⟨br, 3, none⟩ = some (.string r.pd) ∧
    W.cell? ⟨br, 4, none⟩ = some (.bool r.inC) ∧ W.cell? ⟨br, 5, none⟩ = some (.bool r.hasT) ∧ W.cell? ⟨br, 6, none⟩ = some (.int .u64 r.term) ∧ W.cell? ⟨br, 7, none⟩ = some (.bool r.hasSt) ∧ W.cell? ⟨br, 8, none⟩ = some (.string r.st) := by
  have := h.rc
  unfold RecAt at this
  simpa only [Nat.zero_add] using this

/-- The slice has been appended to. -/
theorem CP.app (h : CP w W B m1 m2 m3 m4 m5 n S v cs br r) {o : Obj} {v' : Value} {cs' : List ByteArray} (hg : (W.alloc o).grownBy W' v.ownBlock) (ho : W'.ownsRow B 9 1 v' cs'.length (cs'.map Value.string)) :
    MI w W' B m1 m2 m3 m4 m5 n 69 S v' cs' := by
  have hord := h.mi.ord
  have hlt := h.mi.own.lt
  exact (h.mi.alloc o).kept hg (fun k e => by have := (hlt k e).1; omega) ho
end

theorem rec_new' (w : World) (r : Rec) : RecAt (w.alloc (.cells #[.string r.name, .bool r.live, .string r.nd, .string r.pd, .bool r.inC, .bool r.hasT, .int .u64 r.term, .bool r.hasSt, .string r.st] 72)) w.heap.size 0 r := by
  have h := (MapKept.heap_alloc w (.cells #[.string r.name, .bool r.live, .string r.nd, .string r.pd, .bool r.inC, .bool r.hasT, .int .u64 r.term, .bool r.hasSt, .string r.st] 72)).1
  refine ⟨?_, ?_, ?_, ?_, ?_, ?_, ?_, ?_, ?_⟩ <;> (rw [cell_of_row _ _ _ _ 72 (0, 0) h]; rfl)

theorem made5p (w : World) (v : Value) (hv : v = .slice none 0 0) :
    let W := ((((w.alloc (.map #[] 0)).alloc (.map #[] 0)).alloc (.map #[] 0)).alloc (.map #[] 0)).alloc (.map #[] 0)
    MI w W (w.heap.size + 1 + 1 + 1 + 1 + 1) w.heap.size (w.heap.size + 1) (w.heap.size + 1 + 1) (w.heap.size + 1 + 1 + 1) (w.heap.size + 1 + 1 + 1 + 1) 0 69 ps0 v [] := by
  intro W
  have e : ∀ (w : World) (o : Obj) (k : Nat), k < w.heap.size → (w.alloc o).heap[k]? = w.heap[k]? := fun w o k h => Below.heap_alloc w o k h
  have sz : ∀ (w : World) (o : Obj), (w.alloc o).heap.size = w.heap.size + 1 := fun w o => by simp
  subst hv
  refine ⟨?_, ?_, ?_, ?_, ?_, World.ownsRow_nil _ _ _ _, ?_, ?_⟩
  · have h := SMap.made w 9
    refine h.same ?_
    show (World.alloc _ _).heap[_]? = _
    rw [e _ _ _ (by simp only [sz]; omega), e _ _ _ (by simp only [sz]; omega), e _ _ _ (by simp only [sz]; omega), e _ _ _ (by simp only [sz]; omega)]
  · have h := SMap.made (w.alloc (.map #[] 0)) 9
    rw [sz] at h
    refine h.same ?_
    show (World.alloc _ _).heap[_]? = _
    rw [e _ _ _ (by simp only [sz]; omega), e _ _ _ (by simp only [sz]; omega), e _ _ _ (by simp only [sz]; omega)]
  · have h := SMap.made ((w.alloc (.map #[] 0)).alloc (.map #[] 0)) 9
    rw [sz, sz] at h
    refine h.same ?_
    show (World.alloc _ _).heap[_]? = _
    rw [e _ _ _ (by simp only [sz]; omega), e _ _ _ (by simp only [sz]; omega)]
  · have h := TMap.made (((w.alloc (.map #[] 0)).alloc (.map #[] 0)).alloc (.map #[] 0))
    rw [sz, sz, sz] at h
    refine h.same ?_
    show (World.alloc _ _).heap[_]? = _
    rw [e _ _ _ (by simp only [sz]; omega)]
  · have h := SMap.made ((((w.alloc (.map #[] 0)).alloc (.map #[] 0)).alloc (.map #[] 0)).alloc (.map #[] 0)) 69
    rw [sz, sz, sz, sz] at h
    exact h
  · exact (((((Below.refl _ _).alloc (Nat.le_refl _) _).alloc (by simp only [sz]; omega) _).alloc (by simp only [sz]; omega) _).alloc (by simp only [sz]; omega) _).alloc (by simp only [sz]; omega) _
  · refine ⟨by omega, by omega, by omega, by omega, by omega, by omega, ?_⟩
    show _ ≤ (World.alloc _ _).heap.size
    simp only [sz]; omega

/-- The two boxes: the shard, the view. -/
def shardCells (v : Value) (m3 m4 m5 : Nat) : Array Value := #[.int .u32 0, .int .u32 0, v, .string ⟨#[]⟩, .map (some m4), .map (some m5), .string ⟨#[]⟩, .slice none 0 0, .string ⟨#[]⟩, .map none, .map (some m3), .int .i64 0]

set_option maxHeartbeats 400000 in
theorem shardWithDirs_any (a : Option Addr) (ln cc m3 m4 m5 : Nat) (w : World) :
    Calls Trym.prog 34 #[.slice a ln cc, .map (some m4), .map (some m5), .map (some m3)] w fun e w' => e = .returned (.pointer (some ⟨w.heap.size, 0, none⟩)) ∧ w' = w.alloc (.cells (shardCells (.slice a ln cc) m3 m4 m5) 94) := by
  go_enter Trym.func34, Trym.ntmps34
  go_wp2
  go_ret
  exact ⟨rfl, rfl⟩


theorem view_made {w wc : World} {B m1 m2 m3 m4 m5 n ln cc : Nat} {ad : Option Addr} {S : PS} {cs : List ByteArray} (h : MI w wc B m1 m2 m3 m4 m5 n 69 S (.slice ad ln cc) cs) :
    let W := (wc.alloc (.cells (shardCells (.slice ad ln cc) m3 m4 m5) 94)).alloc (.cells #[.map (some m1), .map (some m2), .map none, .int .i64 0] 77)
    Vw W (wc.heap.size + 1) wc.heap.size n S (.slice ad ln cc) ∧ IsStrs W (.slice ad ln cc) cs ∧ Below w.heap.size w W := by
  intro W
  have hs := (h.alloc (.cells (shardCells (.slice ad ln cc) m3 m4 m5) 94)).alloc (.cells #[.map (some m1), .map (some m2), .map none, .int .i64 0] 77)
  have e : ∀ (w : World) (o : Obj) (k : Nat), k < w.heap.size → (w.alloc o).heap[k]? = w.heap[k]? := fun w o k h => Below.heap_alloc w o k h
  have hb1 : W.heap[wc.heap.size + 1]? = some (.cells #[.map (some m1), .map (some m2), .map none, .int .i64 0] 77 (0, 0)) := by
    have := (MapKept.heap_alloc (wc.alloc (.cells (shardCells (.slice ad ln cc) m3 m4 m5) 94)) (.cells #[.map (some m1), .map (some m2), .map none, .int .i64 0] 77)).1
    rw [show (wc.alloc (.cells (shardCells (.slice ad ln cc) m3 m4 m5) 94)).heap.size = wc.heap.size + 1 from by simp] at this
    exact this
  have hb2 : W.heap[wc.heap.size]? = some (.cells (shardCells (.slice ad ln cc) m3 m4 m5) 94 (0, 0)) := by
    show (World.alloc _ _).heap[_]? = _
    rw [e _ _ _ (by simp)]
    exact (MapKept.heap_alloc wc _).1
  refine ⟨⟨m1, m2, m3, m4, m5, ?_, ?_, ?_, ?_, ?_, ?_, hs.h1, hs.h2, hs.h3, hs.h4, hs.h5⟩, ⟨B, hs.own⟩, hs.bel⟩
  · rw [cell_of_row W _ _ _ 77 (0, 0) hb1]; rfl
  · rw [cell_of_row W _ _ _ 77 (0, 0) hb1]; rfl
  · rw [cell_of_row W _ _ _ 94 (0, 0) hb2]; rfl
  · rw [cell_of_row W _ _ _ 94 (0, 0) hb2]; rfl
  · rw [cell_of_row W _ _ _ 94 (0, 0) hb2]; rfl
  · rw [cell_of_row W _ _ _ 94 (0, 0) hb2]; rfl

end Go.Proofs.Qxb6608675aMods
