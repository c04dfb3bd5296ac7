/- zzCloneRecs. -/
import Derived.Test.Qxb6608675aModsMax
namespace Go.Proofs.Qxb6608675aMods
open Go.RowKit Go.Maps

theorem info72 : (Trym.prog.info? 72).map (fun i => (i.zero, i.size, i.bytes)) = some (some (.agg #[.string ⟨#[]⟩, .bool false, .string ⟨#[]⟩, .string ⟨#[]⟩, .bool false, .bool false, .int .u64 0, .bool false, .string ⟨#[]⟩]), 9, 96) := by kernel_rfl

def Rec.cells (r : Rec) : List Value := [.string r.name, .bool r.live, .string r.nd, .string r.pd, .bool r.inC, .bool r.hasT, .int .u64 r.term, .bool r.hasSt, .string r.st]

theorem heap_setCells (g : Nat) (t : TypeId) : ∀ (vs : List Value) (o : Nat) (w : World) (cur : Array Value), w.heap[g]? = some (.cells cur t (0, 0)) → ∃ cur', (w.setCells g o vs).heap[g]? = some (.cells cur' t (0, 0)) ∧ cur'.size = cur.size
  | [], _, _, cur, h => ⟨cur, h, rfl⟩
  | v :: r, o, w, cur, h => by
    obtain ⟨cur', h1, h2⟩ := heap_setCells g t r (o + 1) (w.setCell ⟨g, o, none⟩ v) _ (heap_setCell_same w g o cur t v h)
    exact ⟨cur', h1, by rw [h2]; simp⟩

theorem RecAt.iff {w : World} {b o : Nat} {r : Rec} : RecAt w b o r ↔ ∀ j (hj : j < r.cells.length), w.cell? ⟨b, o + j, none⟩ = some r.cells[j] := by
  constructor
  · rintro ⟨h0, h1, h2, h3, h4, h5, h6, h7, h8⟩ j hj
    match j, hj with
    | 0, _ => exact h0
    | 1, _ => exact h1
    | 2, _ => exact h2
    | 3, _ => exact h3
    | 4, _ => exact h4
    | 5, _ => exact h5
    | 6, _ => exact h6
    | 7, _ => exact h7
    | 8, _ => exact h8
    | (n + 9), h => simp [Rec.cells] at h; omega
  · intro h
    have hl : r.cells.length = 9 := rfl
    exact ⟨h 0 (by omega), h 1 (by omega), h 2 (by omega), h 3 (by omega), h 4 (by omega), h 5 (by omega), h 6 (by omega), h 7 (by omega), h 8 (by omega)⟩

theorem store9 {w : World} {g o : Nat} {cur : Array Value} (r : Rec) (hh : w.heap[g]? = some (.cells cur 72 (0, 0))) (hs : o + 9 ≤ cur.size) :
    (∃ cur', (w.setCells g o r.cells).heap[g]? = some (.cells cur' 72 (0, 0)) ∧ cur'.size = cur.size) ∧ RecAt (w.setCells g o r.cells) g o r ∧
    (∀ o' r', o' + 9 ≤ o → RecAt w g o' r' → RecAt (w.setCells g o r.cells) g o' r') := by
  refine ⟨heap_setCells g 72 r.cells o w cur hh, RecAt.iff.2 fun j hj => ?_, fun o' r' ho h => RecAt.iff.2 fun j hj => ?_⟩
  · refine World.cell?_setCells_in g r.cells o w (fun i hi => ?_) j hj
    rw [cell_of_row w _ _ cur 72 (0, 0) hh]
    have : i < 9 := hi
    rw [Array.getElem?_eq_getElem (by omega)]
    rfl
  · rw [World.cell?_setCells_out g r.cells o w _ (fun _ _ => .inl (by have : j < 9 := hj; simp only; omega))]
    exact RecAt.iff.1 h j hj

set_option maxHeartbeats 1000000 in
set_option maxRecDepth 100000 in
theorem clone_any (v : Value) (rs : List Rec) (w : World) (hv : IsRecs w v rs) (hl : rs.length ≤ 4096) :
    Calls Trym.prog 21 #[v] w fun e w' => ∃ v', e = .returned v' ∧ IsRecs w' v' rs ∧ Below w.heap.size w w' := by
  obtain ⟨i0, hi, hz0, hz1, hz2⟩ := info_parts info72
  have q53 : ∀ (w : World) (a : Option Addr) (n c n' c' : Nat), (binOp .eql 53 (.slice a n c) (.slice none n' c')).run Trym.prog w = .ok (.bool a.isNone) w := fun w a n c n' c' => Lib.run_eql_slice_nil w _ _ a n c n' c' Trym.underlying53
  rcases hv with ⟨a, cap, rfl, rfl⟩ | ⟨b, off, cap, rfl, hpos, hbs, hcell⟩
  · cases a with
    | none =>
      go_enter Trym.func21, Trym.ntmps21
      go_wp2
      go_ret
      exact ⟨_, rfl, .inl ⟨_, _, rfl, rfl⟩, Below.refl _ _⟩
    | some a =>
      go_enter Trym.func21, Trym.ntmps21
      go_wp2_with (at_make; refine wpList_make_full _ rfl _ _ 53 rfl w.heap.size 72 i0 _ 9 Trym.underlying53 hi hz0 hz1 _ _ _ _ 0 rfl rfl rfl rfl (by rw [hz2]; omega) (by unfold maxLen; omega) (Nat.le_refl _) ?_; intro w1 hown hgrow)
      refine wp_loop_rounds 1 ?_
      rw [rounds_succ]
      go_wp2
      go_ret
      exact ⟨_, rfl, .inl ⟨_, _, rfl, rfl⟩, (Below.refl _ _).grown hgrow (Nat.le_refl _) (by simp)⟩
  · go_enter Trym.func21, Trym.ntmps21
    go_wp2_with (at_make; refine wpList_make_full _ rfl _ _ 53 rfl w.heap.size 72 i0 _ 9 Trym.underlying53 hi hz0 hz1 _ _ _ _ rs.length rfl rfl rfl rfl (by rw [hz2]; omega) (by unfold maxLen; omega) (Nat.le_refl _) ?_; intro w1 hown hgrow)
    obtain ⟨cur0, hh0, hs0⟩ : ∃ cur, w1.heap[w.heap.size]? = some (.cells cur 72 (0, 0)) ∧ cur.size = rs.length * 9 := by
      rcases hown.2 with ⟨h, _⟩ | ⟨g, cap, cur, h, _, hh, _, _, hs, _⟩
      · cases h
      · cases h; exact ⟨cur, hh, hs⟩
    have hb1 : Below w.heap.size w w1 := (Below.refl _ _).grown hgrow (Nat.le_refl _) (by simp)
    clear hown hgrow
    go_loopw [4] (fun i wr => ∃ (k : Nat) (cur : Array Value), k ≤ rs.length ∧ i = .int .i64 k ∧ wr.heap[w.heap.size]? = some (.cells cur 72 (0, 0)) ∧ cur.size = rs.length * 9 ∧ (∀ j (_ : j < k) (hj : j < rs.length), RecAt wr w.heap.size (j * 9) rs[j]) ∧ Below w.heap.size w wr) (fun i _ => rs.length - (intOf i).toNat)
    case atStart => exact ⟨0, cur0, Nat.zero_le _, rfl, hh0, hs0, fun j h _ => by omega, hb1⟩
    case round =>
      obtain ⟨k, cur, hk, rfl, hh, hs, hin, hbw⟩ := hrel
      clear hh0 hs0 hb1 cur0
      by_cases hlt : k < rs.length
      · obtain ⟨q0, q1, q2, q3, q4, q5, q6, q7, q8⟩ := (hcell k hlt).below hbw hbs
        have old : ∀ j, j < 9 → ∃ u, wr.cell? ⟨w.heap.size, k * 9 + j, none⟩ = some u := fun j hj => ⟨cur[k * 9 + j]'(by rw [hs]; omega), by rw [cell_of_row wr _ _ cur 72 (0, 0) hh]; simp⟩
        obtain ⟨o0, p0⟩ := old 0 (by omega)
        obtain ⟨o1, p1⟩ := old 1 (by omega)
        obtain ⟨o2, p2⟩ := old 2 (by omega)
        obtain ⟨o3, p3⟩ := old 3 (by omega)
        obtain ⟨o4, p4⟩ := old 4 (by omega)
        obtain ⟨o5, p5⟩ := old 5 (by omega)
        obtain ⟨o6, p6⟩ := old 6 (by omega)
        obtain ⟨o7, p7⟩ := old 7 (by omega)
        obtain ⟨o8, p8⟩ := old 8 (by omega)
        rw [Nat.add_zero] at p0
        have hfz : ∀ o, wr.frozen? ⟨w.heap.size, o, none⟩ = false := fun o => by simp [World.frozen?, hh]
        have hne : ¬ b = w.heap.size := by omega
        clear old hcell
        have HI : Hid (∀ j (_ : j < k) (hj : j < rs.length), RecAt wr w.heap.size (j * 9) rs[j]) := hin
        clear hin
        have HR : Hid (∃ r, r = rs[k]) := ⟨_, rfl⟩
        generalize hr : rs[k] = r at *
        have Hr : Hid (rs[k] = r) := hr
        clear hr
        have HH : Hid (wr.heap[w.heap.size]? = some (.cells cur 72 (0, 0))) := hh
        clear hh
        go_wp2
        go_roundw
        case rel =>
          obtain ⟨⟨cur', e1, e2⟩, e3, e4⟩ := store9 (o := k * 9) r HH.out (by rw [hs]; omega)
          have e5 : Below w.heap.size w (wr.setCells w.heap.size (k * 9) r.cells) :=
            ((((((((hbw.setCell (Nat.le_refl _) _).setCell (Nat.le_refl _) _).setCell (Nat.le_refl _) _).setCell (Nat.le_refl _) _).setCell (Nat.le_refl _) _).setCell (Nat.le_refl _) _).setCell (Nat.le_refl _) _).setCell (Nat.le_refl _) _).setCell (Nat.le_refl _) _
          refine ⟨k + 1, cur', by omega, by go_num, e1, by omega, fun j hj1 hj => ?_, e5⟩
          by_cases e : j = k
          · subst e
            rw [Hr.out]
            exact e3
          · exact e4 (j * 9) _ (by omega) (HI.out j (by omega) hj)
        case measure => simp [intOf]; omega
      · go_wp2
        go_ret
        refine ⟨_, rfl, .inr ⟨w.heap.size, 0, rs.length, rfl, hpos, ?_, fun j hj => ?_⟩, hbw⟩
        · exact (Array.getElem?_eq_some_iff.1 hh).1
        · rw [Nat.zero_add]; exact hin j (by omega) hj
end Go.Proofs.Qxb6608675aMods
