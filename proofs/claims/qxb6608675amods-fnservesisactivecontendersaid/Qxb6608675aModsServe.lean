/- (*View).Serves, MayLead. -/
import Derived.Test.Qxb6608675aModsSync
namespace Go.Proofs.Qxb6608675aMods
open Go.RowKit Go.Maps

theorem eq_of_toList {a b : ByteArray} (h : a.toList = b.toList) : a = b := by
  rw [ByteArray.toList_eq, ByteArray.toList_eq] at h
  exact WideShapes.bytes_inj h

theorem toList_activeS : activeS.toList = [97, 99, 116, 105, 118, 101] := by rw [ByteArray.toList_eq]; rfl
theorem toList_downS : downS.toList = [100, 111, 119, 110] := by rw [ByteArray.toList_eq]; rfl
theorem is_active {s : ByteArray} : (s.toList == [97, 99, 116, 105, 118, 101]) = true ↔ s = activeS := by
  rw [← toList_activeS, beq_iff_eq]; exact ⟨eq_of_toList, fun h => by rw [h]⟩
theorem is_down {s : ByteArray} : (s.toList == [100, 111, 119, 110]) = true ↔ s = downS := by
  rw [← toList_downS, beq_iff_eq]; exact ⟨eq_of_toList, fun h => by rw [h]⟩

set_option maxHeartbeats 400000 in
theorem serves_any (bv bs n : Nat) (S : PS) (cp : Value) (x : ByteArray) (hx : x.size ≤ maxLen) (w : World) (hV : Vw w bv bs n S cp) :
    Calls Trym.prog 26 #[.pointer (some ⟨bv, 0, none⟩), .pointer (some ⟨bs, 0, none⟩), .string x] w fun e w' => ∃ b : Bool, e = .returned (.bool b) ∧ (b = true ↔ stateB S x = activeS ∧ InS S.terms x) ∧ Below w.heap.size w w' := by
  go_enter Trym.func26, Trym.ntmps26
  go_wp2_with fail
  refine (state_any bv bs n S cp x hx _ hV).mono ?_
  rintro e w1 ⟨rfl, hb⟩
  have hV1 := hV.below hb
  clear hV
  have HV : Hid (Vw w1 bv bs n S cp) := hV1
  clear hV1
  have hA := @is_active (stateB S x)
  have HA : Hid (((stateB S x).toList == [97, 99, 116, 105, 118, 101]) = true ↔ stateB S x = activeS) := hA
  clear hA
  cases hc : ((stateB S x).toList == [97, 99, 116, 105, 118, 101])
  · go_wp2_with fail
    go_ret
    refine ⟨false, rfl, ⟨fun h => (by cases h), fun h => ?_⟩, hb⟩
    have := HA.out.2 h.1
    rw [hc] at this
    cases this
  · go_wp2_with fail
    refine (inSync_any bv bs n S cp x hx _ HV.out).mono ?_
    rintro e w2 ⟨b, rfl, hi, hb2⟩
    have HI : Hid (b = true ↔ InS S.terms x) := hi
    clear hi
    go_wp2
    go_ret
    refine ⟨_, rfl, ?_, hb.trans (hb2.mono hb.size)⟩
    have h1 := HA.out.1 hc
    have h2 := HI.out
    simp [h1, h2]


set_option maxHeartbeats 400000 in
theorem mayLead_any (bv bs n : Nat) (S : PS) (cp : Value) (x : ByteArray) (hx : x.size ≤ maxLen) (w : World) (hV : Vw w bv bs n S cp) :
    Calls Trym.prog 37 #[.pointer (some ⟨bv, 0, none⟩), .pointer (some ⟨bs, 0, none⟩), .string x] w fun e w' => ∃ b : Bool, e = .returned (.bool b) ∧ (b = true ↔ InS S.terms x ∧ (stateB S x = downS ∨ stateB S x = activeS)) ∧ Below w.heap.size w w' := by
  go_enter Trym.func37, Trym.ntmps37
  go_wp2_with fail
  refine (state_any bv bs n S cp x hx _ hV).mono ?_
  rintro e w1 ⟨rfl, hb⟩
  have hV1 := hV.below hb
  clear hV
  have HV : Hid (Vw w1 bv bs n S cp) := hV1
  clear hV1
  have HA : Hid (((stateB S x).toList == [97, 99, 116, 105, 118, 101]) = true ↔ stateB S x = activeS) := is_active
  have HD : Hid (((stateB S x).toList == [100, 111, 119, 110]) = true ↔ stateB S x = downS) := is_down
  go_wp2_with fail
  refine (inSync_any bv bs n S cp x hx _ HV.out).mono ?_
  rintro e w2 ⟨b, rfl, hi, hb2⟩
  have HI : Hid (b = true ↔ InS S.terms x) := hi
  clear hi
  have hbb := hb.trans (hb2.mono hb.size)
  clear hb hb2
  cases b
  · go_wp2
    go_ret
    refine ⟨false, rfl, ?_, hbb⟩
    have h2 := HI.out
    simp at h2
    simp [h2]
  · have h2 := HI.out
    simp only [true_iff] at h2
    have H2 : Hid (InS S.terms x) := h2
    clear h2 HI
    cases hc : ((stateB S x).toList == [100, 111, 119, 110])
    all_goals
      go_wp2
      go_ret
      refine ⟨_, rfl, ?_, hbb⟩
      simp only [H2.out, true_and, ← HD.out, ← HA.out, hc]
      simp

end Go.Proofs.Qxb6608675aMods
