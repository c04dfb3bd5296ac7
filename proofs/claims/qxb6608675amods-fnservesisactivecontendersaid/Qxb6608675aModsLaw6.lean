/- FnServesAfterTermRaised: the walk. -/
import Derived.Test.Qxb6608675aModsPlain
import Derived.Test.Qxb6608675aModsBytes
namespace Go.Proofs.Qxb6608675aMods
open Go.RowKit Go.Maps

theorem IsRecs.below {w w' : World} {v : Value} {rs : List Rec} (h : IsRecs w v rs) (hb : Below w.heap.size w w') : IsRecs w' v rs := by
  rcases h with h | ⟨b, off, cap, rfl, hpos, hbs, hcell⟩
  · exact .inl h
  · exact .inr ⟨b, off, cap, rfl, hpos, Nat.lt_of_lt_of_le hbs hb.size, fun k hk => (hcell k hk).below hb hbs⟩

/-- The model in memory. -/
def Md (W : World) (m1 m2 m3 m4 m5 n : Nat) (S : PS) (v : Value) (cs : List ByteArray) : Prop :=
  SMap W 9 m1 n S.nodes ∧ SMap W 9 m2 n S.ndirs ∧ SMap W 9 m3 n S.sdirs ∧ TMap W m4 n S.terms ∧ SMap W 9 m5 n S.states ∧ IsStrs W v cs

theorem MI.md {w W : World} {B m1 m2 m3 m4 m5 n : Nat} {S : PS} {v : Value} {cs : List ByteArray} (h : MI w W B m1 m2 m3 m4 m5 n 9 S v cs) : Md W m1 m2 m3 m4 m5 n S v cs :=
  ⟨h.h1, h.h2, h.h3, h.h4, h.h5, ⟨B, h.own⟩⟩

theorem Md.below {w w' : World} {m1 m2 m3 m4 m5 n : Nat} {S : PS} {v : Value} {cs : List ByteArray} (h : Md w m1 m2 m3 m4 m5 n S v cs) (hb : Below w.heap.size w w') : Md w' m1 m2 m3 m4 m5 n S v cs := by
  obtain ⟨h1, h2, h3, h4, h5, h6⟩ := h
  exact ⟨h1.below hb h1.lt, h2.below hb h2.lt, h3.below hb h3.lt, h4.below hb h4.lt, h5.below hb h5.lt, h6.below hb⟩

theorem wf_u64 {n : Int} (h0 : 0 ≤ n) (h1 : n ≤ 18446744073709551615) : (Lit.int .u64 n).wf = true := by
  have hmin : IntKind.u64.min = 0 := rfl
  have hmax : IntKind.u64.max = 18446744073709551615 := rfl
  simp only [Lit.wf, Bool.and_eq_true, decide_eq_true_eq]
  omega

set_option maxHeartbeats 2000000 in
set_option maxRecDepth 100000 in
theorem law6 (v : Value) (rs : List Rec) (x : ByteArray) (w : World) (hv : IsRecs w v rs) (hok : ∀ r ∈ rs, r.ok) (hl : rs.length ≤ maxLen) (hx : x.size ≤ maxLen) :
    Calls Trym.prog 6 #[v, .string x] w fun e w' => e = .returned (.bool true) ∧ Below w.heap.size w w' := by
  go_enter Trym.func6, Trym.ntmps6
  go_wp2_with fail
  refine (bytes28 v rs x hx w hv hok hl).mono ?_
  rintro e w' ⟨⟨b, rfl, hsm0⟩, hw⟩
  have hw2 := hw.symm
  subst hw2
  clear hw
  cases b
  · go_wp2
    go_ret
    exact ⟨rfl, Below.refl _ _⟩
  obtain ⟨hl2, hsm, hx2⟩ := hsm0 rfl
  clear hl hx hsm0
  have HS : Hid (∀ r ∈ rs, r.small) := hsm
  have HO : Hid (∀ r ∈ rs, r.ok) := hok
  clear hsm hok
  go_wp2_with fail
  refine (tooBig_any v rs x hx2 _ hv HS.out hl2).mono ?_
  rintro e w1 ⟨⟨b, rfl, hl3⟩, hb1⟩
  cases b
  rotate_left
  · go_wp2
    go_ret
    exact ⟨rfl, hb1⟩
  have hl4 := hl3 rfl
  clear hl3 hl2
  have hv1 := hv.below hb1
  clear hv
  go_wp2_with fail
  refine (clone_any v rs _ hv1 hl4).mono ?_
  rintro e w2 ⟨v', rfl, hv2, hb2⟩
  obtain ⟨va, vcap, hve, -⟩ := hv2.any
  subst hve
  have hB2 := hb1.trans (hb2.mono hb1.size)
  clear hb1 hb2 hv1
  go_wp2_with fail
  refine (maps_any _ rs _ hv2 HS.out HO.out hl4).mono ?_
  rintro e w3 ⟨B, m1, m2, m3, m4, m5, ad, ln, cc, rfl, hM⟩
  have hv3 := hv2.below hM.bel
  have hB3 := hB2.trans (hM.bel.mono hB2.size)
  have hD3 := hM.md
  clear hM hB2 hv2
  go_wp2_with fail
  have hba : Below w3.heap.size w3 (w3.alloc (.cells #[.map (some m1), .map (some m2), .map (some m3), .map (some m4), .map (some m5), .slice ad ln cc] 58)) := (Below.refl _ _).alloc (Nat.le_refl _) _
  have hv4 := hv3.below hba
  have hD4 := hD3.below hba
  have hB4 := hB3.trans (hba.mono hB3.size)
  have hk4 : (w3.alloc (.cells #[.map (some m1), .map (some m2), .map (some m3), .map (some m4), .map (some m5), .slice ad ln cc] 58)).heap[w3.heap.size]? = some (.cells #[.map (some m1), .map (some m2), .map (some m3), .map (some m4), .map (some m5), .slice ad ln cc] 58 (0, 0)) := (MapKept.heap_alloc w3 _).1
  clear hba hv3 hD3 hB3
  generalize w3.alloc _ = w4 at *
  generalize w3.heap.size = bM at *
  refine (maxTerm_any _ rs m4 _ _ w4 hv4 hD4.2.2.2.1 HS.out hl4).mono ?_
  rintro e w' ⟨rfl, hw⟩
  have hw2 := hw.symm
  subst hw2
  clear hw
  have hMb := mx_wf HO.out
  have HA : Hid (InS ((psOf rs).bump true x (mx (psOf rs).terms rs + 1)).terms x) := inS_raised x
  have HN : Hid (∀ y : ByteArray, y.toList ≠ x.toList → ¬ InS ((psOf rs).bump true x (mx (psOf rs).terms rs + 1)).terms y) := fun y => not_inS_raised x y
  generalize mx (psOf rs).terms rs = M at *
  obtain ⟨hM0, hM1⟩ := hMb
  cases hc : (M == 18446744073709551615)
  rotate_left
  · go_wp2
    go_ret
    exact ⟨rfl, hB4⟩
  have hM2 : M < 18446744073709551615 := by
    have : ¬ M = 18446744073709551615 := by simpa using hc
    omega
  go_wp2_with fail
  refine (project_any _ rs false ⟨#[]⟩ 0 _ hv4 HS.out HO.out hl4 (by decide) (by decide)).mono ?_
  rintro e w5 ⟨bv, bs, n5, vv5, rfl, hV5, -, hb5⟩
  have hv5 := hv4.below hb5
  have hD5 := hD4.below hb5
  have hB5 := hB4.trans (hb5.mono hB4.size)
  have hk5 := (hb5.block bM (Array.getElem?_eq_some_iff.1 hk4).1).trans hk4
  clear hv4 hD4 hB4 hk4 hb5
  have hx3 : x.size ≤ maxLen := by unfold maxLen; omega
  go_wp2_with fail
  refine (serves_any bv bs n5 _ vv5 x hx3 w5 hV5).mono ?_
  rintro e w6 ⟨sb, rfl, hsb, hb6⟩
  have hv6 := hv5.below hb6
  have hD6 := hD5.below hb6
  have hB6 := hB5.trans (hb6.mono hB5.size)
  have hk6 := (hb6.block bM (Array.getElem?_eq_some_iff.1 hk5).1).trans hk5
  clear hv5 hD5 hB5 hk5 hb6 hV5
  have HSB : Hid (sb = true → stateB (psOf rs) x = activeS) := fun h => by
    have := (hsb.1 h).1
    rw [state_bump] at this
    exact this
  clear hsb
  go_wp2_with fail
  refine (project_any _ rs true x (M + 1) _ hv6 HS.out HO.out hl4 hx2 (wf_u64 (by omega) (by omega))).mono ?_
  rintro e w7 ⟨bv2, bs2, n7, vv7, rfl, hV7, -, hb7⟩
  have hv7 := hv6.below hb7
  have hD7 := hD6.below hb7
  have hB7 := hB6.trans (hb7.mono hB6.size)
  have hk7 := (hb7.block bM (Array.getElem?_eq_some_iff.1 hk6).1).trans hk6
  clear hv6 hD6 hB6 hk6 hb7
  have hc7 : ∀ j, w7.cell? ⟨bM, j, none⟩ = _ := fun j => cell_of_row w7 bM j _ 58 (0, 0) hk7
  have c0 := hc7 0
  have c1 := hc7 1
  have c2 := hc7 2
  have c3 := hc7 3
  have c4 := hc7 4
  have c5 := hc7 5
  simp at c0 c1 c2 c3 c4 c5
  clear hc7 hk7
  go_wp2_with fail
  refine (modelState_any m1 m2 m3 m4 m5 _ ln cc ad (psOf rs) x hx3 _ hD7.1 hD7.2.1 hD7.2.2.1 hD7.2.2.2.2.1).mono ?_
  rintro e w8 ⟨rfl, hb8⟩
  have hv8 := hv7.below hb8
  have hV8 := hV7.below hb8
  have hB8 := hB7.trans (hb8.mono hB7.size)
  clear hv7 hV7 hB7 hb8 hD7 c0 c1 c2 c3 c4 c5
  have hst := state_any bv2 bs2 n7 _ vv7 x hx3 w8 hV8
  rw [state_bump] at hst
  go_wp2_with fail
  refine hst.mono ?_
  clear hst
  rintro e w9 ⟨rfl, hb9⟩
  have hv9 := hv8.below hb9
  have hV9 := hV8.below hb9
  have hB9 := hB8.trans (hb9.mono hB8.size)
  clear hv8 hV8 hB8 hb9
  go_wp2_with fail
  refine (serves_any bv2 bs2 n7 _ vv7 x hx3 w9 hV9).mono ?_
  rintro e w10 ⟨s, rfl, hs, hb10⟩
  have hv10 := hv9.below hb10
  have hV10 := hV9.below hb10
  have hB10 := hB9.trans (hb10.mono hB9.size)
  clear hv9 hV9 hB9 hb10
  obtain rfl : s = ((stateB (psOf rs) x).toList == [97, 99, 116, 105, 118, 101]) := by
    rw [Bool.eq_iff_iff, is_active, hs, state_bump]
    exact ⟨fun h => h.1, fun h => ⟨h, HA.out⟩⟩
  clear hs
  have HSB2 : Hid (sb = true → ((stateB (psOf rs) x).toList == [97, 99, 116, 105, 118, 101]) = true) := fun h => is_active.2 (HSB.out h)
  clear HSB
  have hpair : ∃ sa, ((stateB (psOf rs) x).toList == [97, 99, 116, 105, 118, 101]) = sa ∧ (sa = true ∨ (sa = false ∧ sb = false)) := by
    refine ⟨_, rfl, ?_⟩
    cases hsa : ((stateB (psOf rs) x).toList == [97, 99, 116, 105, 118, 101])
    · right
      refine ⟨rfl, ?_⟩
      cases sb with
      | false => rfl
      | true => have := HSB2.out rfl; rw [hsa] at this; cases this
    · exact .inl rfl
  clear HSB2
  obtain ⟨sa, hsa, rfl | ⟨rfl, rfl⟩⟩ := hpair
  · cases sb
    all_goals
      go_wp2_with fail
      go_loopg [14, 15] rs.length (fun g i _ wr => ∃ k : Nat, k ≤ rs.length ∧ g = rs.length - k ∧ i = .int .i64 k ∧ Below w.heap.size w wr ∧ Vw wr bv2 bs2 n7 ((psOf rs).bump true x (M + 1)) vv7 ∧ IsRecs wr (.slice va rs.length vcap) rs)
      case atStart => exact ⟨0, Nat.zero_le _, rfl, rfl, hB10, hV10, hv10⟩
      case round =>
        obtain ⟨k, hk, rfl, rfl, hBr, hVr, hvr⟩ := hrel
        clear hB10 hV10 hv10
        by_cases hlt : k < rs.length
        · obtain ⟨va', vcap', hve, hcell⟩ := hvr.any
          cases hve
          obtain ⟨b, off, rfl, -, hrec⟩ := hcell k hlt
          have hsm := HS.out rs[k] (List.getElem_mem hlt)
          clear hcell
          obtain ⟨q0, -⟩ := hrec
          have hy : rs[k].name.size ≤ maxLen := by have := hsm.1; unfold maxLen; omega
          clear hsm
          generalize rs[k].name = y at *
          cases hyx : (y.toList == x.toList)
          · have hyx' : y.toList ≠ x.toList := by simpa using hyx
            have HNy : Hid (¬ InS ((psOf rs).bump true x (M + 1)).terms y) := HN.out y hyx'
            have hyn : (y.toList != x.toList) = true := by simp [bne, hyx]
            clear hyx'
            go_wp2_with fail
            refine (serves_any bv2 bs2 n7 _ vv7 y hy wr hVr).mono ?_
            rintro e wz ⟨s, rfl, hs, hbz⟩
            have hs0 : s = false := by cases s with
              | false => rfl
              | true => exact absurd (hs.1 rfl).2 HNy.out
            subst hs0
            clear hs
            go_wp2_with fail
            go_roundg (rs.length - (k + 1))
            case measure => omega
            case rel => exact ⟨k + 1, by omega, rfl, by go_num, hBr.trans (hbz.mono hBr.size), hVr.below hbz, hvr.below hbz⟩
          · have hyn : (y.toList != x.toList) = false := by simp [bne, hyx]
            go_wp2_with fail
            go_roundg (rs.length - (k + 1))
            case measure => omega
            case rel => exact ⟨k + 1, by omega, rfl, by go_num, hBr, hVr, hvr⟩
        · go_wp2_with fail
          go_ret
          exact ⟨rfl, hBr⟩
  · go_wp2_with fail
    go_loopg [14, 15] rs.length (fun g i _ wr => ∃ k : Nat, k ≤ rs.length ∧ g = rs.length - k ∧ i = .int .i64 k ∧ Below w.heap.size w wr ∧ Vw wr bv2 bs2 n7 ((psOf rs).bump true x (M + 1)) vv7 ∧ IsRecs wr (.slice va rs.length vcap) rs)
    case atStart => exact ⟨0, Nat.zero_le _, rfl, rfl, hB10, hV10, hv10⟩
    case round =>
      obtain ⟨k, hk, rfl, rfl, hBr, hVr, hvr⟩ := hrel
      clear hB10 hV10 hv10
      by_cases hlt : k < rs.length
      · obtain ⟨va', vcap', hve, hcell⟩ := hvr.any
        cases hve
        obtain ⟨b, off, rfl, -, hrec⟩ := hcell k hlt
        have hsm := HS.out rs[k] (List.getElem_mem hlt)
        clear hcell
        obtain ⟨q0, -⟩ := hrec
        have hy : rs[k].name.size ≤ maxLen := by have := hsm.1; unfold maxLen; omega
        clear hsm
        generalize rs[k].name = y at *
        cases hyx : (y.toList == x.toList)
        · have hyx' : y.toList ≠ x.toList := by simpa using hyx
          have HNy : Hid (¬ InS ((psOf rs).bump true x (M + 1)).terms y) := HN.out y hyx'
          have hyn : (y.toList != x.toList) = true := by simp [bne, hyx]
          clear hyx'
          go_wp2_with fail
          refine (serves_any bv2 bs2 n7 _ vv7 y hy wr hVr).mono ?_
          rintro e wz ⟨s, rfl, hs, hbz⟩
          have hs0 : s = false := by cases s with
            | false => rfl
            | true => exact absurd (hs.1 rfl).2 HNy.out
          subst hs0
          clear hs
          go_wp2_with fail
          go_roundg (rs.length - (k + 1))
          case measure => omega
          case rel => exact ⟨k + 1, by omega, rfl, by go_num, hBr.trans (hbz.mono hBr.size), hVr.below hbz, hvr.below hbz⟩
        · have hyn : (y.toList != x.toList) = false := by simp [bne, hyx]
          go_wp2_with fail
          go_roundg (rs.length - (k + 1))
          case measure => omega
          case rel => exact ⟨k + 1, by omega, rfl, by go_num, hBr, hVr, hvr⟩
      · go_wp2_with fail
        go_ret
        exact ⟨rfl, hBr⟩

end Go.Proofs.Qxb6608675aMods
