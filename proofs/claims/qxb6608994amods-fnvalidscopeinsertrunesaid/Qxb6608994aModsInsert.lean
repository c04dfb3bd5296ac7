/- hEncodeRune, FnValidScopeInsertRune. -/
import Derived.Test.Qxb6608994aModsEnc
import Derived.Test.Qxb6608994aModsJoin
namespace Go.Proofs.Qxb6608994aMods
open Go.RowKit

/-- What is known of the string that encodes r. -/
def Es (r : Int) (s : ByteArray) : Prop := s.size ≤ 4 ∧ s.data.toList ≠ [] ∧ ((∀ b ∈ s.data.toList, OKc (b.toNat : Int)) ↔ OKc r)

theorem Enc.str {r : Int} {zs : List Int} (h : Enc r zs) : Es r (strOfNums zs) := by
  have hd : (strOfNums zs).data.toList = zs.map fun n => UInt8.ofNat n.toNat := by simp [strOfNums]
  have hs : (strOfNums zs).size = zs.length := by
    have := congrArg List.length hd
    simpa using this
  rcases h with ⟨h0, h1, rfl⟩ | ⟨h0, z, t, rfl, h1, h2, h3⟩
  · refine ⟨by rw [hs]; simp, by rw [hd]; simp, ?_⟩
    rw [hd]
    have e : ((UInt8.ofNat r.toNat).toNat : Int) = r := by
      rw [UInt8.toNat_ofNat']; omega
    simp only [List.map_cons, List.map_nil, List.mem_singleton, forall_eq, e]
  · refine ⟨by rw [hs]; simp; omega, by rw [hd]; simp, ?_⟩
    rw [hd]
    have e : ((UInt8.ofNat z.toNat).toNat : Int) = z := by
      rw [UInt8.toNat_ofNat']; omega
    constructor
    · intro h
      have := h (UInt8.ofNat z.toNat) (by simp)
      rw [e] at this
      unfold OKc at this; omega
    · intro h
      unfold OKc at h; omega

set_option maxHeartbeats 400000 in
theorem encodeRune_any (r : Int) (w : World) :
    Calls Trym.prog 9 #[.int .i32 r] w fun e w' => ∃ s, e = .returned (.string s) ∧ Es r s ∧ Below w.heap.size w w' := by
  go_enter Trym.func9, Trym.ntmps9
  go_wp2_with fail
  refine (appendRune_any r w).mono ?_
  rintro e w1 ⟨a, c, zs, rfl, hown, hb, henc⟩
  have hes := henc.str
  have hlen : 0 < zs.length := by
    rcases henc with ⟨_, _, rfl⟩ | ⟨_, z, t, rfl, _⟩ <;> simp
  have hcells := fun g => World.ownsRow.cells (g := g) hown
  obtain ⟨g, rfl⟩ : ∃ g, a = some ⟨g, 0, none⟩ := by
    rcases hown.2 with ⟨h, h0⟩ | ⟨g, cap, cur, h, _⟩
    · omega
    · cases h; exact ⟨g, rfl⟩
  have hcv := run_convert_bytes_arg (P := Trym.prog) w1 27 5 Trym.underlying27 Trym.underlying5 g 0 zs.length c zs rfl (fun i hi => by
    have := hcells g rfl i (.int .u8 zs[i]) (by simp [hi])
    rw [Addr.add_lit] at this
    rw [this]; simp [List.getD, hi]) 9 Trym.underlying9
  clear hcells hown henc
  generalize strOfNums zs = s at *
  go_wp2
  go_ret
  exact ⟨s, rfl, hes, hb⟩

theorem ins_plain {A E B : List UInt8} {p : Prop} (h0 : E ≠ []) (h : (∀ b ∈ E, OKc (b.toNat : Int)) ↔ p) : Vs (A ++ E ++ B) ↔ (A ++ B = [] ∨ Vs (A ++ B)) ∧ p := by
  constructor
  · intro hv
    refine ⟨?_, h.1 fun b hb => hv.2 b (by simp [hb])⟩
    by_cases he : A ++ B = []
    · exact .inl he
    · refine .inr ⟨he, fun b hb => hv.2 b ?_⟩
      rcases List.mem_append.1 hb with h | h <;> simp [h]
  · rintro ⟨h1, h2⟩
    refine ⟨fun he => h0 (by simp at he; exact he.2.1), fun b hb => ?_⟩
    have hE := h.2 h2
    have hAB : ∀ b ∈ A ++ B, OKc (b.toNat : Int) := by
      rcases h1 with h1 | h1
      · rw [h1]; simp
      · exact h1.2
    simp only [List.mem_append] at hb hAB
    rcases hb with (h | h) | h
    · exact hAB b (.inl h)
    · exact hE b h
    · exact hAB b (.inr h)

set_option maxHeartbeats 2000000 in
theorem law4 (a b : ByteArray) (r : Int) (ha : a.size ≤ maxLen) (hb : b.size ≤ maxLen) (w : World) :
    Calls Trym.prog 4 #[.string a, .int .i32 r, .string b] w fun e w' => e = .returned (.bool true) ∧ Below w.heap.size w w' := by
  have HB := bytes8 a b r w ha hb
  unfold maxLen at ha hb
  go_enter Trym.func4, Trym.ntmps4
  go_wp2_with fail
  refine HB.mono ?_
  rintro e w' ⟨⟨ok, rfl⟩, hw'⟩
  have hw2 := hw'.symm
  subst hw2
  clear hw' HB
  cases ok
  · go_wp2
    go_ret
    exact ⟨rfl, Below.refl _ _⟩
  go_wp2_with fail
  rotate_right 1
  · refine (encodeRune_any r w).mono ?_
    rintro e w1 ⟨s, rfl, hes, hb1⟩
    have hs4 := hes.1
    have HES : Hid (Es r s) := hes
    clear hes
    go_wp2_with fail
    refine (scopeRune_any r w1).mono ?_
    rintro e w2 ⟨⟨ok, rfl, hok⟩, hw2⟩
    have hw3 := hw2.symm
    subst hw3
    clear hw2
    have HOK : Hid (ok = true ↔ OKc r) := hok
    clear hok
    go_wp2_with fail
    refine (validScope_any s w1).mono ?_
    rintro e w3 ⟨⟨pe, rfl, hpe⟩, hb3⟩
    obtain rfl : pe = ok := Bool.eq_iff_iff.2 (hpe.trans ⟨fun h => HOK.out.2 (HES.out.2.2.1 h.2), fun h => ⟨HES.out.2.1, HES.out.2.2.2 (HOK.out.1 h)⟩⟩)
    clear hpe
    have hbl3 : Below w.heap.size w w3 := hb1.trans (hb3.mono hb1.size)
    clear hb1 hb3
    have HV : Hid (Vs (a ++ s ++ b).data.toList ↔ ((a ++ b).toList.isEmpty = true ∨ Vs (a ++ b).data.toList) ∧ pe = true) := by
      unfold Hid
      rw [empty_iff, data_append (a ++ s) b, data_append a s, data_append a b]
      exact ins_plain HES.out.2.1 (HES.out.2.2.trans HOK.out.symm)
    clear HES HOK
    cases hem : (a ++ b).toList.isEmpty
    · cases pe
      all_goals
        go_wp2_with fail
        refine (validScope_any (a ++ s ++ b) w3).mono ?_
        rintro e w4 ⟨⟨p3, rfl, hp3⟩, hb4⟩
        have HP3 := hp3.trans HV.out
        clear hp3 HV
        go_wp2_with fail
        refine (validScope_any (a ++ b) w4).mono ?_
        rintro e w5 ⟨⟨pq, rfl, hpq⟩, hb5⟩
        rw [hem, ← hpq] at HP3
        clear hpq
        cases pq <;> cases p3 <;> simp only [Bool.false_eq_true, or_self, or_true, and_false, and_true, and_self, false_iff, true_iff, not_true_eq_false] at HP3
        all_goals
          go_wp2
          go_ret
          exact ⟨rfl, (hbl3.trans (hb4.mono hbl3.size)).trans (hb5.mono (Nat.le_trans hbl3.size hb4.size))⟩
    · cases pe
      all_goals
        go_wp2_with fail
        refine (validScope_any (a ++ s ++ b) w3).mono ?_
        rintro e w4 ⟨⟨p3, rfl, hp3⟩, hb4⟩
        have HP3 := hp3.trans HV.out
        clear hp3 HV
        rw [hem] at HP3
        cases p3 <;> simp only [Bool.false_eq_true, true_or, and_false, and_self, false_iff, true_iff, not_true_eq_false] at HP3
        all_goals
          go_wp2
          go_ret
          exact ⟨rfl, hbl3.trans (hb4.mono hbl3.size)⟩
  all_goals
    go_ret
    exact ⟨rfl, Below.refl _ _⟩

end Go.Proofs.Qxb6608994aMods
