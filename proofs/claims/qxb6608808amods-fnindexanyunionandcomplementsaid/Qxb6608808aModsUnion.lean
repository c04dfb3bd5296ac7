/- FnIndexAnyUnionAndComplement: the walk. -/
import Derived.Test.Qxb6608808aModsUnionPlain
namespace Go.Proofs.Qxb6608808aMods
open Go.RowKit

set_option maxHeartbeats 1000000 in
set_option maxRecDepth 100000 in
theorem law4 (s : ByteArray) (hs : s.size ≤ maxLen) (ca cb : Array Value) (fa fb : UInt8 → Bool) (w : World) (ha : IsSet ca fa) (hb : IsSet cb fb) :
    Calls Trym.prog 4 #[.string s, .agg ca, .agg cb] w fun e w' => e = .returned (.bool true) ∧ Below w.heap.size w w' := by
  have hsa := ha.1
  have hsb := hb.1
  have hB0 : Below w.heap.size w ((w.alloc (.cells ca 22)).alloc (.cells cb 22)) := ((Below.refl _ _).alloc (Nat.le_refl _) _).alloc (by simp) _
  have ga : ((w.alloc (.cells ca 22)).alloc (.cells cb 22)).heap[w.heap.size]? = some (.cells ca 22 (0, 0)) := heap_alloc2_old w _ _
  have gb : ((w.alloc (.cells ca 22)).alloc (.cells cb 22)).heap[w.heap.size + 1]? = some (.cells cb 22 (0, 0)) := heap_alloc2_new w _ _
  have HA : Hid (IsSet ca fa) := ha
  have HB : Hid (IsSet cb fb) := hb
  clear ha hb
  go_enter Trym.func4, Trym.ntmps4
  go_wp2_with (first | (refine wpList_load_set rfl _ rfl _ rfl _ ga hsa ?_) | (refine wpList_load_set rfl _ rfl _ rfl _ gb hsb ?_))
  refine (bytes7 s hs ca cb _ hsa hsb).mono ?_
  rintro e w1 ⟨⟨b1, rfl, hlen⟩, hb1⟩
  have ga1 := (hb1.block w.heap.size (by simp; omega)).trans ga
  have gb1 := (hb1.block (w.heap.size + 1) (by simp)).trans gb
  have hB1 := hB0.trans (hb1.mono hB0.size)
  clear hB0 hb1 ga gb
  cases b1
  · go_wp2
    go_ret
    exact ⟨rfl, hB1⟩
  have hl := hlen rfl
  clear hlen hs
  go_wp2_with (refine wpList_alloc22 rfl rfl ?_)
  have hlt1 : w.heap.size + 1 < w1.heap.size := (Array.getElem?_eq_some_iff.1 gb1).1
  have sz : ∀ (w : World) (o : Obj), (w.alloc o).heap.size = w.heap.size + 1 := fun w o => by simp
  have ho : ∀ (w : World) (o : Obj) (k : Nat), k < w.heap.size → (w.alloc o).heap[k]? = w.heap[k]? := fun w o k h => Below.heap_alloc w o k h
  have hS : Six w ((((w1.alloc (.cells zeros 22)).alloc (.cells zeros 22)).alloc (.cells zeros 22)).alloc (.cells zeros 22)) w.heap.size (w.heap.size + 1) w1.heap.size (w1.heap.size + 1) (w1.heap.size + 1 + 1) (w1.heap.size + 1 + 1 + 1) ca cb zeros zeros zeros := by
    refine ⟨?_, ?_, ?_, ?_, ?_, ?_, by omega, ?_⟩
    · rw [ho _ _ _ (by simp only [sz]; omega), ho _ _ _ (by simp only [sz]; omega), ho _ _ _ (by simp only [sz]; omega), ho _ _ _ (by omega)]; exact ga1
    · rw [ho _ _ _ (by simp only [sz]; omega), ho _ _ _ (by simp only [sz]; omega), ho _ _ _ (by simp only [sz]; omega), ho _ _ _ (by omega)]; exact gb1
    · rw [ho _ _ _ (by simp only [sz]; omega), ho _ _ _ (by simp only [sz]; omega), ho _ _ _ (by simp only [sz]; omega)]; exact heap_alloc_new w1 _
    · rw [ho _ _ _ (by simp only [sz]; omega), ho _ _ _ (by simp only [sz]; omega)]
      have := heap_alloc_new (w1.alloc (.cells zeros 22)) (.cells zeros 22)
      simp only [sz] at this
      exact this
    · rw [ho _ _ _ (by simp only [sz]; omega)]
      have := heap_alloc_new ((w1.alloc (.cells zeros 22)).alloc (.cells zeros 22)) (.cells zeros 22)
      simp only [sz] at this
      exact this
    · have := heap_alloc_new (((w1.alloc (.cells zeros 22)).alloc (.cells zeros 22)).alloc (.cells zeros 22)) (.cells zeros 22)
      simp only [sz] at this
      exact this
    · have hz := hB1.size
      exact (((hB1.alloc hz _).alloc (by simp only [sz]; omega) _).alloc (by simp only [sz]; omega) _).alloc (by simp only [sz]; omega) _
  clear sz ho hlt1 ga1 gb1 hB1
  generalize ((((w1.alloc (.cells zeros 22)).alloc (.cells zeros 22)).alloc (.cells zeros 22)).alloc (.cells zeros 22)) = W0 at *
  generalize w.heap.size + 1 = bB at *
  generalize w1.heap.size + 1 + 1 + 1 = bE at *
  generalize w1.heap.size + 1 + 1 = bF at *
  generalize w1.heap.size + 1 = bN at *
  generalize w1.heap.size = bU at *
  go_loopg [11] 256 (fun g i wr => ∃ (k : Nat) (cu cn cf : Array Value), k ≤ 256 ∧ g = 256 - k ∧ i = .int .i64 k ∧ Six w wr w.heap.size bB bU bN bF bE ca cb cu cn cf ∧ Upto cu (fun b => fa b || fb b) k ∧ Upto cn (fun b => !fa b) k ∧ Upto cf (fun _ => true) k)
  case atStart => exact ⟨0, zeros, zeros, zeros, Nat.zero_le _, rfl, rfl, hS, Upto.zero _, Upto.zero _, Upto.zero _⟩
  case round =>
    obtain ⟨k, cu, cn, cf, hk, rfl, rfl, hSr, hu, hn, hf⟩ := hrel
    clear hS
    by_cases hlt : k < 256
    · obtain ⟨x, hx⟩ : ∃ x : UInt8, x.toNat = k := ⟨UInt8.ofNat k, by simp; omega⟩
      have qa : wr.cell? ⟨w.heap.size, k, none⟩ = some (.bool (fa x)) := by rw [cell_of_row wr _ _ ca 22 (0, 0) hSr.gA, ← hx]; exact HA.out.2 x
      have qb : wr.cell? ⟨bB, k, none⟩ = some (.bool (fb x)) := by rw [cell_of_row wr _ _ cb 22 (0, 0) hSr.gB, ← hx]; exact HB.out.2 x
      have old : ∀ (b : Nat) (c : Array Value), wr.heap[b]? = some (.cells c 22 (0, 0)) → c.size = 256 → ∃ v, wr.cell? ⟨b, k, none⟩ = some v := fun b c h1 h2 => ⟨c[k]'(by omega), by rw [cell_of_row wr _ _ c 22 (0, 0) h1, Array.getElem?_eq_getElem (by omega)]⟩
      obtain ⟨vu, qu⟩ := old bU cu hSr.gU hu.1
      obtain ⟨vn, qn⟩ := old bN cn hSr.gN hn.1
      obtain ⟨vf, qf⟩ := old bF cf hSr.gF hf.1
      have fu : wr.frozen? ⟨bU, k, none⟩ = false := frozen_of_row wr _ _ _ 22 hSr.gU
      have fn : wr.frozen? ⟨bN, k, none⟩ = false := frozen_of_row wr _ _ _ 22 hSr.gN
      have ff : wr.frozen? ⟨bF, k, none⟩ = false := frozen_of_row wr _ _ _ 22 hSr.gF
      have hord := hSr.ord
      have n1 : ¬ bU = w.heap.size := by omega
      have n2 : ¬ bU = bB := by omega
      have n3 : ¬ bU = bN := by omega
      have n4 : ¬ bU = bF := by omega
      have n5 : ¬ bN = bF := by omega
      have n6 : ¬ bN = w.heap.size := by omega
      have n7 : ¬ bN = bB := by omega
      clear old hord
      have hlt' : (k : Int) < 256 := by omega
      have HX : Hid (x.toNat = k) := hx
      clear hx
      have HAll : Hid (Six w wr w.heap.size bB bU bN bF bE ca cb cu cn cf ∧ Upto cu (fun b => fa b || fb b) k ∧ Upto cn (fun b => !fa b) k ∧ Upto cf (fun _ => true) k) := ⟨hSr, hu, hn, hf⟩
      clear hSr hu hn hf
      cases hfa : fa x
      all_goals
        rw [hfa] at qa
        go_wp2
        go_roundg (256 - (k + 1))
        case measure => omega
        case rel =>
          obtain ⟨hSr, hu, hn, hf⟩ := HAll.out
          have s1 := hSr.store k (.bool (fa x || fb x)) (.bool (!fa x)) (.bool true)
          have s2 := hu.step HX.out
          have s3 := hn.step HX.out
          have s4 := hf.step HX.out
          simp only [hfa, Bool.false_or, Bool.true_or, Bool.not_false, Bool.not_true] at s1 s2 s3
          exact ⟨k + 1, _, _, _, by omega, rfl, by go_num, s1, s2, s3, s4⟩
    · obtain rfl : k = 256 := by omega
      have hU := hu.whole
      have hN := hn.whole
      have hF := hf.whole
      clear hu hn hf
      have HU : Hid (IsSet cu (fun b => fa b || fb b)) := hU
      have HN : Hid (IsSet cn (fun b => !fa b)) := hN
      have HF : Hid (IsSet cf (fun _ => true)) := hF
      have su := hU.1
      have sn := hN.1
      have sf := hF.1
      have se := zeros_set.1
      clear hU hN hF hlt hk
      have gA := hSr.gA
      go_wp2_with (refine wpList_load_set rfl _ rfl _ rfl _ gA hsa ?_)
      refine (idx_any s hl ca fa _ HA.out).mono ?_
      rintro e w2 ⟨⟨ra, rfl, hra⟩, hb2⟩
      have hS2 := hSr.below hb2
      have HRA : Hid (Idx fa s.data.toList ra) := hra
      clear hb2 hSr gA hra
      have gB := hS2.gB
      go_wp2_with (refine wpList_load_set rfl _ rfl _ rfl _ gB hsb ?_)
      refine (idx_any s hl cb fb _ HB.out).mono ?_
      rintro e w3 ⟨⟨rb, rfl, hrb⟩, hb3⟩
      have hS3 := hS2.below hb3
      have HRB : Hid (Idx fb s.data.toList rb) := hrb
      clear hb3 hS2 gB hrb
      have gU := hS3.gU
      go_wp2_with (refine wpList_load_set rfl _ rfl _ rfl _ gU su ?_)
      refine (idx_any s hl cu _ _ HU.out).mono ?_
      rintro e w4 ⟨⟨ru, rfl, hru⟩, hb4⟩
      have hS4 := hS3.below hb4
      have HRU : Hid (Idx (fun b => fa b || fb b) s.data.toList ru) := hru
      clear hb4 hS3 gU hru
      have gN := hS4.gN
      go_wp2_with (refine wpList_load_set rfl _ rfl _ rfl _ gN sn ?_)
      refine (idx_any s hl cn _ _ HN.out).mono ?_
      rintro e w5 ⟨⟨rn, rfl, hrn⟩, hb5⟩
      have hS5 := hS4.below hb5
      have HRN : Hid (Idx (fun b => !fa b) s.data.toList rn) := hrn
      clear hb5 hS4 gN hrn
      have gF := hS5.gF
      go_wp2_with (refine wpList_load_set rfl _ rfl _ rfl _ gF sf ?_)
      refine (idx_any s hl cf _ _ HF.out).mono ?_
      rintro e w6 ⟨⟨rf, rfl, hrf⟩, hb6⟩
      have hS6 := hS5.below hb6
      have HRF : Hid (Idx (fun _ => true) s.data.toList rf) := hrf
      clear hb6 hS5 gF hrf
      have gE := hS6.gE
      go_wp2_with (refine wpList_load_set rfl _ rfl _ rfl _ gE se ?_)
      refine (idx_any s hl zeros _ _ zeros_set).mono ?_
      rintro e w7 ⟨⟨re, rfl, hre⟩, hb7⟩
      have hB7 := (hS6.below hb7).bel
      have hre1 := hre.never
      subst hre1
      clear hb7 hS6 gE hre
      cases hl0 : s.data.toList with
      | nil =>
        have hsz : s.size = 0 := by have := congrArg List.length hl0; simpa using this
        have e1 : ra = -1 := by have := HRA.out; rw [hl0] at this; exact this.nil
        have e2 : rb = -1 := by have := HRB.out; rw [hl0] at this; exact this.nil
        have e3 : ru = -1 := by have := HRU.out; rw [hl0] at this; exact this.nil
        have e4 : rn = -1 := by have := HRN.out; rw [hl0] at this; exact this.nil
        have e5 : rf = -1 := by have := HRF.out; rw [hl0] at this; exact this.nil
        subst e1 e2 e3 e4 e5
        clear HRA HRB HRU HRN HRF hl0
        have h0 : ((s.size : Int) == 0) = true := by rw [hsz]; rfl
        go_wp2_with fail
        go_ret
        exact ⟨rfl, hB7⟩
      | cons b t =>
        have hsz : ((s.size : Int) == 0) = false := by
          have := congrArg List.length hl0
          simp at this
          rw [beq_eq_false_iff_ne]; omega
        have e1 : (ra == 0) = fa b := by have := HRA.out; rw [hl0] at this; exact this.zero
        have e4 : (rn == 0) = !fa b := by have := HRN.out; rw [hl0] at this; exact this.zero
        have e5 : rf = 0 := by have := HRF.out; rw [hl0] at this; exact this.always
        subst e5
        have e3 : ru = (if ra < 0 then rb else if rb < 0 then ra else if ra < rb then ra else rb) := HRU.out.unique (HRA.out.union HRB.out)
        have E3 : Hid (ru = (if ra < 0 then rb else if rb < 0 then ra else if ra < rb then ra else rb)) := e3
        clear HRA HRB HRU HRN HRF hl0 e3
        generalize fa b = c at *
        cases c
        all_goals
          go_wp2_with fail
          refine (firstOf_any ra rb _).mono ?_
          rw [← E3.out]
          rintro e w8 ⟨rfl, hw8⟩
          have hw9 := hw8.symm
          subst hw9
          clear hw8
          go_wp2_with fail
          go_ret
          exact ⟨by simp, hB7⟩
end Go.Proofs.Qxb6608808aMods
