/- hScopeBytes, FnValidScopeJoin. -/
import Derived.Test.Qxb6608994aModsBase
namespace Go.Proofs.Qxb6608994aMods
open Go.RowKit

set_option maxHeartbeats 1000000 in
theorem scopeBytes_any (s : ByteArray) (hs : s.size ≤ 1048576) (w : World) :
    Calls Trym.prog 7 #[.string s] w fun e w' => Ret e (Vs s.data.toList) ∧ w' = w := by
  by_cases h0 : s.size = 0
  · go_enter Trym.func7, Trym.ntmps7
    go_wp2
    go_ret
    refine ⟨Ret.f fun h => h.1 (List.eq_nil_of_length_eq_zero (by simpa using h0)), rfl⟩
  · have HE : Hid (s.data.toList ≠ []) := by
      intro h
      have := congrArg List.length h
      simp at this
      exact h0 (by simp [ByteArray.size, this])
    have h0' : ((s.size : Int) == 0) = false := by rw [beq_eq_false_iff_ne]; omega
    go_enter Trym.func7, Trym.ntmps7
    go_wp2
    go_loopg [3] s.size (fun gg i wr => ∃ k : Nat, k ≤ s.size ∧ gg = s.size - k ∧ i = .int .i64 k ∧ w = wr ∧ ∀ b ∈ s.data.toList.take k, OKc (b.toNat : Int))
    case atStart => exact ⟨0, Nat.zero_le _, rfl, rfl, rfl, by simp⟩
    case round =>
      obtain ⟨k, hk, rfl, rfl, hwr, hin⟩ := hrel
      subst hwr
      have HN : Hid (∀ b ∈ s.data.toList.take k, OKc (b.toNat : Int)) := hin
      clear hin
      by_cases hlt : k < s.size
      · have HS : Hid (s.data.toList.take (k + 1) = s.data.toList.take k ++ [s[k]]) := take_snoc s k hlt
        have hlt' : (k : Int) < (s.size : Int) := by omega
        have hb8 : (s[k].toNat : Int) < 256 := by have := s[k].toNat_lt; omega
        have HM : Hid (s[k] ∈ s.data.toList) := List.getElem_mem (l := s.data.toList) (by simpa using hlt)
        go_wp2_with fail
        refine (scopeRune_any (s[k].toNat : Int) w).mono ?_
        rintro e w1 ⟨⟨ok, rfl, hok⟩, hw⟩
        have hw2 := hw.symm
        subst hw2
        clear hw
        cases ok
        · have HO : Hid (¬ OKc (s[k].toNat : Int)) := fun h => by cases hok.2 h
          clear hok
          go_wp2
          go_ret
          exact ⟨Ret.f fun h => HO.out (h.2 _ HM.out), rfl⟩
        · have HO : Hid (OKc (s[k].toNat : Int)) := hok.1 rfl
          clear hok
          go_wp2
          go_roundg (s.size - (k + 1))
          case measure => omega
          case rel =>
            refine ⟨k + 1, by omega, rfl, by go_num, rfl, ?_⟩
            rw [HS.out]
            intro d hd
            rcases List.mem_append.1 hd with h | h
            · exact HN.out d h
            · rw [List.mem_singleton] at h
              rw [h]; exact HO.out
      · go_wp2
        go_ret
        refine ⟨Ret.t ⟨HE.out, fun b hb => HN.out b ?_⟩, rfl⟩
        rw [List.take_of_length_le (by simp; omega)]; exact hb

theorem join_plain (A B : List UInt8) : Vs (A ++ B) ↔ (A = [] ∨ Vs A) ∧ (B = [] ∨ Vs B) ∧ ¬ (A = [] ∧ B = []) := by
  constructor
  · intro h
    refine ⟨?_, ?_, fun ⟨h1, h2⟩ => h.1 (by rw [h1, h2]; rfl)⟩
    · by_cases hA : A = []
      · exact .inl hA
      · exact .inr ⟨hA, fun b hb => h.2 b (List.mem_append_left _ hb)⟩
    · by_cases hB : B = []
      · exact .inl hB
      · exact .inr ⟨hB, fun b hb => h.2 b (List.mem_append_right _ hb)⟩
  · rintro ⟨h1, h2, h3⟩
    refine ⟨fun h => h3 (List.append_eq_nil_iff.1 h), fun b hb => ?_⟩
    rcases List.mem_append.1 hb with h | h
    · rcases h1 with rfl | h1
      · cases h
      · exact h1.2 b h
    · rcases h2 with rfl | h2
      · cases h
      · exact h2.2 b h

theorem empty_iff (s : ByteArray) : s.toList.isEmpty = true ↔ s.data.toList = [] := by rw [List.isEmpty_iff, ByteArray.toList_eq]

theorem data_append (a b : ByteArray) : (a ++ b).data.toList = a.data.toList ++ b.data.toList := by simp

theorem size_empty (a : ByteArray) : a.size = 0 ↔ a.toList.isEmpty = true := by
  rw [empty_iff, ← List.length_eq_zero_iff]; simp

theorem want_is {ae be pa pb pab : Bool} {A B : List UInt8} (h1 : ae = true ↔ A = []) (h2 : be = true ↔ B = []) (h3 : pa = true ↔ Vs A) (h4 : pb = true ↔ Vs B) (h5 : pab = true ↔ Vs (A ++ B)) :
    pab = (((ae || pa) && (be || pb)) && !(ae && be)) := by
  rw [join_plain, ← h1, ← h2, ← h3, ← h4] at h5
  clear h1 h2 h3 h4
  revert h5
  revert ae be pa pb pab
  decide

set_option maxHeartbeats 2000000 in
theorem law3 (a b : ByteArray) (ha : a.size ≤ maxLen) (hb : b.size ≤ maxLen) (w : World) :
    Calls Trym.prog 3 #[.string a, .string b] w fun e w' => e = .returned (.bool true) ∧ Below w.heap.size w w' := by
  have HB := bytes5 a b w ha hb
  unfold maxLen at ha hb
  go_enter Trym.func3, Trym.ntmps3
  go_wp2_with fail
  refine HB.mono ?_
  rintro e w' ⟨⟨ok, rfl⟩, hw'⟩
  have hw2 := hw'.symm
  subst hw2
  clear hw' HB
  cases ok
  · go_wp2
    go_ret
    exact ⟨rfl, Below.refl _ _⟩
  go_wp2_with fail
  rotate_right 1
  · refine (validScope_any a w).mono ?_
    rintro e w1 ⟨⟨pa, rfl, hpa⟩, hb1⟩
    have HPA : Hid (pa = true ↔ Vs a.data.toList) := hpa
    clear hpa
    go_wp2_with fail
    refine (validScope_any b w1).mono ?_
    rintro e w2 ⟨⟨pb, rfl, hpb⟩, hb2⟩
    have HPB : Hid (pb = true ↔ Vs b.data.toList) := hpb
    clear hpb
    go_wp2_with fail
    refine (validScope_any (a ++ b) w2).mono ?_
    rintro e w3 ⟨⟨pab, rfl, hpab⟩, hb3⟩
    rw [data_append] at hpab
    have HW := want_is (empty_iff a) (empty_iff b) HPA.out HPB.out hpab
    have hbl : Below w.heap.size w w3 := (hb1.trans (hb2.mono hb1.size)).trans (hb3.mono (Nat.le_trans hb1.size hb2.size))
    clear hpab HPB hb1 hb2 hb3
    have hsa : a.size = 0 ↔ a.toList.isEmpty = true := size_empty a
    have hsb : b.size = 0 ↔ b.toList.isEmpty = true := size_empty b
    have FIN : ∀ W, Calls Trym.prog 7 #[.string a] W fun e w' => e = .returned (.bool pa) ∧ w' = W := fun W => (scopeBytes_any a (by omega) W).mono fun e w' ⟨⟨x, h1, h2⟩, h3⟩ => ⟨by rw [h1, show x = pa from Bool.eq_iff_iff.2 (h2.trans HPA.out.symm)], h3⟩
    clear HPA
    cases hae : a.toList.isEmpty <;> cases hbe : b.toList.isEmpty <;> cases pa <;> cases pb <;> simp only [hae, hbe, Bool.or_true, Bool.or_false, Bool.and_true, Bool.and_false, Bool.not_true, Bool.not_false, iff_true, iff_false, Bool.false_eq_true] at HW hsa hsb <;> subst HW
    all_goals
      go_wp2_with fail
      refine (FIN w3).mono ?_
      rintro e w4 ⟨rfl, hw4⟩
      have hw5 := hw4.symm
      subst hw5
      clear hw4
      go_wp2
      go_ret
      exact ⟨rfl, hbl⟩
  all_goals
    go_ret
    exact ⟨rfl, Below.refl _ _⟩

end Go.Proofs.Qxb6608994aMods
