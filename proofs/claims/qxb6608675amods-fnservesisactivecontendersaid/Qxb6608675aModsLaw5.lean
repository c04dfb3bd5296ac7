/- FnServesIsActiveContender: the walk. -/
import Derived.Test.Qxb6608675aModsLaw6
namespace Go.Proofs.Qxb6608675aMods
open Go.RowKit Go.Maps

theorem cpOf_mem : ∀ (l : List Rec) (c : ByteArray), c ∈ cpOf l → ∃ r ∈ l, r.name = c := by
  suffices h : ∀ (l : List Rec) (cs : List ByteArray) (c : ByteArray), c ∈ l.foldl cpStep cs → c ∈ cs ∨ ∃ r ∈ l, r.name = c by
    intro l c hc
    rcases h l [] c hc with h | h
    · simp at h
    · exact h
  intro l
  induction l with
  | nil => intro cs c h; exact .inl h
  | cons a l ih =>
    intro cs c h
    rcases ih (cpStep cs a) c h with h | ⟨r, hr, h⟩
    · unfold cpStep at h
      split at h
      · rcases List.mem_append.1 h with h | h
        · exact .inl h
        · rw [List.mem_singleton] at h
          exact .inr ⟨a, by simp, h.symm⟩
      · exact .inl h
    · exact .inr ⟨r, by simp [hr], h⟩

theorem IsStrs.any {w : World} {ad : Option Addr} {ln cc : Nat} {cs : List ByteArray} (h : IsStrs w (.slice ad ln cc) cs) : ln = cs.length ∧ ∀ k (hk : k < cs.length), ∃ g, ad = some ⟨g, 0, none⟩ ∧ w.cell? ⟨g, k, none⟩ = some (.string cs[k]) := by
  rcases h.shape with ⟨he, rfl⟩ | ⟨g, cap, he, _, hc⟩
  · cases he; exact ⟨rfl, fun k hk => by simp at hk⟩
  · cases he; exact ⟨rfl, fun k hk => ⟨g, rfl, hc k hk⟩⟩

set_option maxHeartbeats 2000000 in
set_option maxRecDepth 100000 in
theorem law5 (v : Value) (rs : List Rec) (x : ByteArray) (w : World) (hv : IsRecs w v rs) (hok : ∀ r ∈ rs, r.ok) (hl : rs.length ≤ maxLen) (hx : x.size ≤ maxLen) :
    Calls Trym.prog 5 #[v, .string x] w fun e w' => e = .returned (.bool true) ∧ Below w.heap.size w w' := by
  go_enter Trym.func5, Trym.ntmps5
  go_wp2_with fail
  refine (bytes19 v rs x hx w hv hok hl).mono ?_
  rintro e w' ⟨⟨b, rfl, hsm0⟩, hw⟩
  have hw2 := hw.symm
  subst hw2
  clear hw
  cases b
  · go_wp2
    go_ret
    exact ⟨rfl, Below.refl _ _⟩
  obtain ⟨hl2, hsm, hx2⟩ := hsm0 rfl
  clear hl hx hsm0
  have HS : Hid (∀ r ∈ rs, r.small) := hsm
  have HO : Hid (∀ r ∈ rs, r.ok) := hok
  clear hsm hok
  go_wp2_with fail
  refine (tooBig_any v rs x hx2 _ hv HS.out hl2).mono ?_
  rintro e w1 ⟨⟨b, rfl, hl3⟩, hb1⟩
  cases b
  rotate_left
  · go_wp2
    go_ret
    exact ⟨rfl, hb1⟩
  have hl4 := hl3 rfl
  clear hl3 hl2
  have hv1 := hv.below hb1
  clear hv
  go_wp2_with fail
  refine (clone_any v rs _ hv1 hl4).mono ?_
  rintro e w2 ⟨v', rfl, hv2, hb2⟩
  obtain ⟨va, vcap, hve, -⟩ := hv2.any
  subst hve
  have hB2 := hb1.trans (hb2.mono hb1.size)
  clear hb1 hb2 hv1
  go_wp2_with fail
  refine (maps_any _ rs _ hv2 HS.out HO.out hl4).mono ?_
  rintro e w3 ⟨B, m1, m2, m3, m4, m5, ad, ln, cc, rfl, hM⟩
  have hv3 := hv2.below hM.bel
  have hB3 := hB2.trans (hM.bel.mono hB2.size)
  have hD3 := hM.md
  clear hM hB2 hv2
  go_wp2_with fail
  have hba : Below w3.heap.size w3 (w3.alloc (.cells #[.map (some m1), .map (some m2), .map (some m3), .map (some m4), .map (some m5), .slice ad ln cc] 58)) := (Below.refl _ _).alloc (Nat.le_refl _) _
  have hv4 := hv3.below hba
  have hD4 := hD3.below hba
  have hB4 := hB3.trans (hba.mono hB3.size)
  have hk4 : (w3.alloc (.cells #[.map (some m1), .map (some m2), .map (some m3), .map (some m4), .map (some m5), .slice ad ln cc] 58)).heap[w3.heap.size]? = some (.cells #[.map (some m1), .map (some m2), .map (some m3), .map (some m4), .map (some m5), .slice ad ln cc] 58 (0, 0)) := (MapKept.heap_alloc w3 _).1
  clear hba hv3 hD3 hB3
  generalize w3.alloc _ = w4 at *
  generalize w3.heap.size = bM at *
  refine (maxTerm_any _ rs m4 _ _ w4 hv4 hD4.2.2.2.1 HS.out hl4).mono ?_
  rintro e w' ⟨rfl, hw⟩
  have hw2 := hw.symm
  subst hw2
  clear hw
  have hMb := mx_wf HO.out
  have HIS : Hid (∀ y : ByteArray, InS (psOf rs).terms y ↔ getT (psOf rs).terms y = mx (psOf rs).terms rs ∧ 0 < mx (psOf rs).terms rs) := inS_iff
  generalize mx (psOf rs).terms rs = M at *
  obtain ⟨hM0, hM1⟩ := hMb
  have hp := project_any _ rs false ⟨#[]⟩ 0 _ hv4 HS.out HO.out hl4 (by decide) (by decide)
  have eb : (psOf rs).bump false ⟨#[]⟩ 0 = psOf rs := rfl
  rw [eb] at hp
  clear eb
  go_wp2_with fail
  refine hp.mono ?_
  clear hp
  rintro e w5 ⟨bv, bs, n5, vv5, rfl, hV5, hS5, hb5⟩
  have hD5 := hD4.below hb5
  have hB5 := hB4.trans (hb5.mono hB4.size)
  have hk5 := (hb5.block bM (Array.getElem?_eq_some_iff.1 hk4).1).trans hk4
  clear hv4 hD4 hB4 hk4 hb5
  have hx3 : x.size ≤ maxLen := by unfold maxLen; omega
  have hc5 : ∀ j, w5.cell? ⟨bM, j, none⟩ = _ := fun j => cell_of_row w5 bM j _ 58 (0, 0) hk5
  have c0 := hc5 0
  have c1 := hc5 1
  have c2 := hc5 2
  have c3 := hc5 3
  have c4 := hc5 4
  have c5 := hc5 5
  simp at c0 c1 c2 c3 c4 c5
  clear hc5
  go_upto_region 9 with fail
  go_cut [9] (fun s9 wc => ∃ wb : Bool, s9 = .bool wb ∧ (wb = true ↔ stateB (psOf rs) x = activeS ∧ InS (psOf rs).terms x) ∧ Below w5.heap.size w5 wc)
  case first =>
    go_wp2_with fail
    refine (modelState_any m1 m2 m3 m4 m5 _ ln cc ad (psOf rs) x hx3 _ hD5.1 hD5.2.1 hD5.2.2.1 hD5.2.2.2.2.1).mono ?_
    rintro e w6 ⟨rfl, hb6⟩
    have d3 : w6.cell? ⟨bM, 3, none⟩ = some (.map (some m4)) := (hb6.cell (lt_of_cell c3)).trans c3
    have lk := ((hD5.below hb6).2.2.2.1.look x hx3).1
    have HI := HIS.out x
    clear c0 c1 c2 c3 c4 c5 hD5 hV5 hS5 hk5 HIS
    have HI2 : Hid (InS (psOf rs).terms x ↔ getT (psOf rs).terms x = M ∧ 0 < M) := HI
    clear HI
    generalize getT (psOf rs).terms x = G at *
    cases hsa : ((stateB (psOf rs) x).toList == [97, 99, 116, 105, 118, 101])
    · have HF : Hid (¬ stateB (psOf rs) x = activeS) := fun h => by rw [is_active.2 h] at hsa; cases hsa
      go_wp2
      go_meet
      case rel => exact ⟨false, rfl, ⟨fun h => (by cases h), fun h => absurd h.1 HF.out⟩, hb6⟩
    · have HF : Hid (stateB (psOf rs) x = activeS) := is_active.1 hsa
      cases hgm : (G == M)
      · have hgm' : ¬ G = M := by simpa using hgm
        have HG : Hid (¬ InS (psOf rs).terms x) := fun h => hgm' (HI2.out.1 h).1
        clear hgm' HI2
        go_wp2
        go_meet
        case rel => exact ⟨false, rfl, ⟨fun h => (by cases h), fun h => absurd h.2 HG.out⟩, hb6⟩
      · have hgm' : G = M := by simpa using hgm
        by_cases h0 : 0 < M
        · have HG : Hid (InS (psOf rs).terms x) := HI2.out.2 ⟨hgm', h0⟩
          clear hgm' HI2
          go_wp2
          go_meet
          case rel => exact ⟨true, rfl, ⟨fun _ => ⟨HF.out, HG.out⟩, fun _ => rfl⟩, hb6⟩
        · have HG : Hid (¬ InS (psOf rs).terms x) := fun h => h0 (HI2.out.1 h).2
          clear hgm' HI2
          go_wp2
          go_meet
          case rel => exact ⟨false, by rw [decide_eq_false (by omega)], ⟨fun h => (by cases h), fun h => absurd h.2 HG.out⟩, hb6⟩
  case rest =>
    clear c0 c1 c2 c3 c4 c5
    obtain ⟨wb, rfl, hwb, hb6⟩ := hcut
    have hV6 := hV5.below hb6
    have hS6 := hS5.below hb6
    have hD6 := hD5.below hb6
    have hB6 := hB5.trans (hb6.mono hB5.size)
    have hk6 := (hb6.block bM (Array.getElem?_eq_some_iff.1 hk5).1).trans hk5
    clear hV5 hS5 hD5 hB5 hk5 hb6
    go_wp2_with fail
    refine (serves_any bv bs n5 _ vv5 x hx3 _ hV6).mono ?_
    rintro e w7 ⟨sb, rfl, hsb, hb7⟩
    obtain rfl : sb = wb := by rw [Bool.eq_iff_iff, hsb, hwb]
    clear hsb hwb
    have hV7 := hV6.below hb7
    have hS7 := hS6.below hb7
    have hD7 := hD6.below hb7
    have hB7 := hB6.trans (hb7.mono hB6.size)
    have hk7 := (hb7.block bM (Array.getElem?_eq_some_iff.1 hk6).1).trans hk6
    clear hV6 hS6 hD6 hB6 hk6 hb7
    have hcl : (cpOf rs).length ≤ 4096 := by
      have := cpOf_len rs rs.length
      rw [List.take_of_length_le (Nat.le_refl _)] at this
      omega
    have HCS : Hid (∀ c ∈ cpOf rs, c.size ≤ maxLen) := fun c hc => by
      obtain ⟨r, hr, rfl⟩ := cpOf_mem rs c hc
      have := (HS.out r hr).1
      unfold maxLen; omega
    go_wp2_with fail
    refine (contenders_any bv bs n5 _ vv5 (cpOf rs) _ hV7 hS7 (by omega) HCS.out).mono ?_
    rintro e w8 ⟨vc, ns, rfl, hN8, hnl, hns, hb8⟩
    have HNS : Hid (∀ c, c ∈ ns ↔ c ∈ cpOf rs ∧ Cont (psOf rs) c) := hns
    clear hns
    have hV8 := hV7.below hb8
    have hD8 := hD7.below hb8
    have hB8 := hB7.trans (hb8.mono hB7.size)
    have hk8 := (hb8.block bM (Array.getElem?_eq_some_iff.1 hk7).1).trans hk7
    clear hV7 hS7 hD7 hB7 hk7 hb8
    obtain ⟨hln, -⟩ := hD8.2.2.2.2.2.any
    subst hln
    generalize hcs : cpOf rs = cs at *
    clear hcs
    go_wp2_with fail
    go_loopg [11, 12, 13, 14] cs.length (fun g i _ _ _ wr => ∃ k : Nat, k ≤ cs.length ∧ g = cs.length - k ∧ i = .int .i64 k ∧ Below w8.heap.size w8 wr)
    case atStart => exact ⟨0, Nat.zero_le _, rfl, rfl, Below.refl _ _⟩
    case round =>
      obtain ⟨k, hk, rfl, rfl, hbr⟩ := hrel
      have hkr := (hbr.block bM (Array.getElem?_eq_some_iff.1 hk8).1).trans hk8
      have hcr : ∀ j, wr.cell? ⟨bM, j, none⟩ = _ := fun j => cell_of_row wr bM j _ 58 (0, 0) hkr
      have c4 := hcr 4
      have c5 := hcr 5
      simp at c4 c5
      have hDr := hD8.below hbr
      have hVr := hV8.below hbr
      have hNr := hN8.below hbr
      have hBr := hB8.trans (hbr.mono hB8.size)
      clear hkr hcr
      by_cases hlt : k < cs.length
      · obtain ⟨-, hcell⟩ := hDr.2.2.2.2.2.any
        obtain ⟨g, rfl, q0⟩ := hcell k hlt
        clear hcell
        have hsz := HCS.out cs[k] (List.getElem_mem hlt)
        have HMem : Hid (cs[k] ∈ cs) := List.getElem_mem hlt
        generalize cs[k] = c at *
        have lk := (hDr.2.2.2.2.1.look_ok Trym.underlying44 Trym.underlying9 (zero9 wr) c hsz).1
        go_wp2_with fail
        refine (serves_any bv bs n5 _ vv5 c hsz _ hVr).mono ?_
        rintro e wy ⟨s1, rfl, hs1, hby⟩
        have hNy := hNr.below hby
        go_wp2_with fail
        refine (hasString_any vc ns c _ hNy (by omega)).mono ?_
        rintro e wz ⟨⟨s2, rfl, hs2⟩, hwz⟩
        have hwz2 := hwz.symm
        subst hwz2
        clear hwz
        have hs : s1 = (s2 && (hasS (psOf rs).states c && ((gets (psOf rs).states c).toList == [97, 99, 116, 105, 118, 101]))) := by
          rw [Bool.eq_iff_iff, Bool.and_eq_true, Bool.and_eq_true, is_active, hs1, hs2, HNS.out c, serves_contends]
          constructor
          · rintro ⟨h1, h2⟩; exact ⟨⟨HMem.out, h1⟩, h2⟩
          · rintro ⟨⟨_, h1⟩, h2⟩; exact ⟨h1, h2⟩
        clear hs1 hs2
        have hbz := hbr.trans (hby.mono hbr.size)
        clear hNy hNr hby
        cases s2
        · simp only [Bool.false_and] at hs
          subst hs
          go_wp2_with fail
          go_roundg (cs.length - (k + 1))
          case measure => omega
          case rel => exact ⟨k + 1, by omega, rfl, by go_num, hbz⟩
        · simp only [Bool.true_and] at hs
          cases hok : hasS (psOf rs).states c
          · rw [hok, Bool.false_and] at hs
            subst hs
            go_wp2_with fail
            go_roundg (cs.length - (k + 1))
            case measure => omega
            case rel => exact ⟨k + 1, by omega, rfl, by go_num, hbz⟩
          · rw [hok, Bool.true_and] at hs
            cases hact : ((gets (psOf rs).states c).toList == [97, 99, 116, 105, 118, 101])
            all_goals
              rw [hact] at hs
              subst hs
              go_wp2_with fail
              go_roundg (cs.length - (k + 1))
              case measure => omega
              case rel => exact ⟨k + 1, by omega, rfl, by go_num, hbz⟩
      · go_wp2_with fail
        go_ret
        exact ⟨rfl, hBr⟩

end Go.Proofs.Qxb6608675aMods
