/- zzServeMaps: the walk. -/
import Derived.Test.Qxb6608675aModsMaps
namespace Go.Proofs.Qxb6608675aMods
open Go.RowKit Go.Maps

set_option maxHeartbeats 2000000 in
set_option maxRecDepth 100000 in
theorem maps_any (v : Value) (rs : List Rec) (w : World) (hv : IsRecs w v rs) (hsm : ∀ r ∈ rs, r.small) (hok : ∀ r ∈ rs, r.ok) (hl : rs.length ≤ 4096) :
    Calls Trym.prog 22 #[v] w fun e w' => ∃ B m1 m2 m3 m4 m5 ad ln cc, e = .returned (.agg #[.map (some m1), .map (some m2), .map (some m3), .map (some m4), .map (some m5), .slice ad ln cc]) ∧ MI w w' B m1 m2 m3 m4 m5 (5 * rs.length) 9 (psOf rs) (.slice ad ln cc) (cpOf rs) := by
  obtain ⟨i0, hi, hz0, hz1, hz2⟩ := info_parts info9
  have hmm := @run_makeMap Trym.prog
  rcases hv with ⟨a, cap, rfl, rfl⟩ | ⟨b, off, cap, rfl, hpos, hbs, hcell⟩
  · go_enter Trym.func22, Trym.ntmps22
    go_wp2
    have hM := made5 w (.cells #[.map none, .map none, .map none, .map none, .map none, .slice none 0 0] 58) (.cells #[.map (some (w.heap.size + 1)), .map (some (w.heap.size + 1 + 1)), .map (some (w.heap.size + 1 + 1 + 1)), .map (some (w.heap.size + 1 + 1 + 1 + 1)), .map (some (w.heap.size + 1 + 1 + 1 + 1 + 1)), .slice none 0 0] 58) (.slice none 0 0) rfl
    obtain ⟨hM1, hres, hblk⟩ := hM
    generalize ((((((w.alloc _).alloc (.map #[] 0)).alloc (.map #[] 0)).alloc (.map #[] 0)).alloc (.map #[] 0)).alloc (.map #[] 0)).alloc _ = wr at *
    have hb2 : w.heap.size < w.heap.size + 1 := by omega
    have hbm : w.heap.size + 1 + 1 + 1 + 1 + 1 < w.heap.size + 1 + 1 + 1 + 1 + 1 + 1 := by omega
    have hne0 : ¬ w.heap.size + 1 + 1 + 1 + 1 + 1 + 1 = w.heap.size := by omega
    generalize w.heap.size + 1 = m1 at *
    generalize m1 + 1 = m2 at *
    generalize m2 + 1 = m3 at *
    generalize m3 + 1 = m4 at *
    generalize m4 + 1 = m5 at *
    generalize m5 + 1 = bm at *
    generalize bm + 1 = B at *
    have hc : ∀ j, wr.cell? ⟨bm, j, none⟩ = _ := fun j => cell_of_row wr bm j _ 58 (0, 0) hblk
    have c0 := hc 0
    have c1 := hc 1
    have c2 := hc 2
    have c3 := hc 3
    have c4 := hc 4
    have c5 := hc 5
    have hd : ∀ j, wr.cell? ⟨w.heap.size, j, none⟩ = _ := fun j => cell_of_row wr w.heap.size j _ 58 (0, 0) hres
    have d0 := hd 0
    have d1 := hd 1
    have d2 := hd 2
    have d3 := hd 3
    have d4 := hd 4
    have d5 := hd 5
    have hfz : ∀ o, wr.frozen? ⟨w.heap.size, o, none⟩ = false := fun o => by simp [World.frozen?, hres]
    simp at c0 c1 c2 c3 c4 c5 d0 d1 d2 d3 d4 d5
    have HMI : Hid (MI w wr B m1 m2 m3 m4 m5 0 9 ps0 (.slice none 0 0) []) := hM1
    clear hc hd hblk hres hM1 hsm hok
    refine wp_loop_rounds 1 ?_
    rw [rounds_succ]
    go_wp2
    have hq : w.heap.size ≤ w.heap.size ∧ w.heap.size < m1 := by omega
    refine bodyPost_ret (v := .agg #[.map (some m1), .map (some m2), .map (some m3), .map (some m4), .map (some m5), .slice none 0 0]) (by simp [results, Trym.results22, go_sem, d0, d1, d2, d3, d4, d5]) rfl ⟨B, m1, m2, m3, m4, m5, none, 0, 0, rfl, ?_⟩
    exact (((((HMI.out.setCell hq _ _).setCell hq _ _).setCell hq _ _).setCell hq _ _).setCell hq _ _).setCell hq _ _
  · go_enter Trym.func22, Trym.ntmps22
    go_wp2
    have hM := made5 w (.cells #[.map none, .map none, .map none, .map none, .map none, .slice none 0 0] 58) (.cells #[.map (some (w.heap.size + 1)), .map (some (w.heap.size + 1 + 1)), .map (some (w.heap.size + 1 + 1 + 1)), .map (some (w.heap.size + 1 + 1 + 1 + 1)), .map (some (w.heap.size + 1 + 1 + 1 + 1 + 1)), .slice none 0 0] 58) (.slice none 0 0) rfl
    obtain ⟨hM1, hM2, hM3⟩ := hM
    have hord := hM1.ord
    generalize ((((((w.alloc _).alloc (.map #[] 0)).alloc (.map #[] 0)).alloc (.map #[] 0)).alloc (.map #[] 0)).alloc (.map #[] 0)).alloc _ = W0 at *
    have hb2 : w.heap.size < w.heap.size + 1 := by omega
    have hbm : w.heap.size + 1 + 1 + 1 + 1 + 1 < w.heap.size + 1 + 1 + 1 + 1 + 1 + 1 := by omega
    have hbB : w.heap.size + 1 + 1 + 1 + 1 + 1 + 1 < w.heap.size + 1 + 1 + 1 + 1 + 1 + 1 + 1 := by omega
    generalize w.heap.size + 1 = m1 at *
    generalize m1 + 1 = m2 at *
    generalize m2 + 1 = m3 at *
    generalize m3 + 1 = m4 at *
    generalize m4 + 1 = m5 at *
    generalize m5 + 1 = bm at *
    generalize bm + 1 = B at *
    go_loopg [4, 5] rs.length (fun g i _ wr => ∃ (k : Nat) (vv : Value), k ≤ rs.length ∧ g = rs.length - k ∧ i = .int .i64 k ∧ MI w wr B m1 m2 m3 m4 m5 (5 * k) 9 (psOf (rs.take k)) vv (cpOf (rs.take k)) ∧
      wr.heap[bm]? = some (.cells #[.map (some m1), .map (some m2), .map (some m3), .map (some m4), .map (some m5), vv] 58 (0, 0)) ∧
      wr.heap[w.heap.size]? = some (.cells #[.map none, .map none, .map none, .map none, .map none, .slice none 0 0] 58 (0, 0)))
    case atStart => exact ⟨0, .slice none 0 0, Nat.zero_le _, rfl, rfl, hM1, hM3, hM2⟩
    case round =>
      obtain ⟨k, vv, hk, rfl, rfl, hMI, hblk, hres⟩ := hrel
      clear hM1 hM2 hM3 hord W0
      by_cases hlt : k < rs.length
      · have hrec := (hcell k hlt).below hMI.bel hbs
        have hsmall := hsm rs[k] (List.getElem_mem hlt)
        have hokr := hok rs[k] (List.getElem_mem hlt)
        have HP : Hid (psOf (rs.take (k + 1)) = (((((psOf (rs.take k)).n1 rs[k]).n2 rs[k]).n3 rs[k]).n4 rs[k]).n5 rs[k]) := by unfold Hid; rw [List.take_succ_eq_append_getElem hlt, psOf_snoc]; rfl
        have HC : Hid (cpOf (rs.take (k + 1)) = cpStep (cpOf (rs.take k)) rs[k]) := by unfold Hid; rw [List.take_succ_eq_append_getElem hlt, cpOf_snoc]
        have hcl := cpOf_len rs k
        clear hcell hsm hok
        generalize rs[k] = r at *
        generalize psOf (rs.take k) = S at *
        generalize cpOf (rs.take k) = cs at *
        obtain ⟨q0, q1, q2, q3, q4, q5, q6, q7, q8⟩ := hrec
        have hC : CC w (wr.alloc (.cells #[.string r.name, .bool r.live, .string r.nd, .string r.pd, .bool r.inC, .bool r.hasT, .int .u64 r.term, .bool r.hasSt, .string r.st] 72)) B m1 m2 m3 m4 m5 (5 * k) S vv cs bm w.heap.size wr.heap.size r :=
          ⟨hMI.alloc _, (Below.heap_alloc _ _ _ (by have := hMI.ord; omega)).trans hblk, (Below.heap_alloc _ _ _ (by have := hMI.ord; omega)).trans hres, rec_new wr r, by have := hMI.ord; omega, by omega, by omega, by omega, hMI.ord.2.2.2.2.2.2, by simp⟩
        clear hMI hblk hres
        go_upto_if 23 with fail
        generalize wr.alloc _ = W1 at *
        generalize wr.heap.size = br at *
        clear q0 q1 q2 q3 q4 q5 q6 q7 q8 hmm
        obtain ⟨z1, z2, z3, z4⟩ := hsmall
        have hmax : (1048576 : Nat) + 7 ≤ maxLen := by unfold maxLen; omega
        have HX : Hid (5 * k + 5 < maxLen) := by unfold Hid maxLen; omega
        go_cut [] (fun wc => CC w wc B m1 m2 m3 m4 m5 (5 * k + 1) (S.n1 r) vv cs bm w.heap.size br r)
        case first =>
          obtain ⟨c0, c1, c2, c3, c4, c5⟩ := hC.cells
          obtain ⟨p0, p1, p2, p3, p4, p5, p6, p7, p8⟩ := hC.recs
          cases hlv : r.live
          · go_wp2
            go_meet
            case rel =>
              have e : S.n1 r = S := by simp [PS.n1, hlv]
              rw [e]
              exact hC.put (m := m1) ⟨Nat.le_refl _, by have := hC.ne; omega⟩ (World.grownBy.refl _ _) (hC.mi.mono (Nat.le_succ _))
          · go_wp2_with (at_mapUpdate; refine wpList_put_s rfl _ _ _ 44 rfl 9 Trym.underlying44 Trym.underlying9 m1 (5 * k) S.nodes rfl hC.mi.h1 (by have := HX.out; omega) r.name (urlOf r.name) rfl rfl (by omega) (by rw [url_size]; omega) ?_; intro W2 hs2 hg2)
            go_frame
            go_meet
            case rel =>
              have e : S.n1 r = { S with nodes := upd S.nodes r.name.data.toList (urlOf r.name).data.toList } := by simp [PS.n1, hlv]
              rw [e]
              exact hC.put (m := m1) ⟨Nat.le_refl _, by have := hC.ne; omega⟩ hg2 (hC.mi.put1 hs2 hg2)
        case rest =>
          clear hC
          generalize S.n1 r = S1 at *
          obtain ⟨c0, c1, c2, c3, c4, c5⟩ := hcut.cells
          obtain ⟨p0, p1, p2, p3, p4, p5, p6, p7, p8⟩ := hcut.recs
          go_upto_region 9 with (at_mapUpdate; refine wpList_put_s rfl _ _ _ 44 rfl 9 Trym.underlying44 Trym.underlying9 m2 (5 * k + 1) S1.ndirs rfl hcut.mi.h2 (by have := HX.out; omega) r.name r.nd rfl rfl (by omega) (by omega) ?_; intro W2 hs2 hg2)
          have hC2 : CC w W2 B m1 m2 m3 m4 m5 (5 * k + 1 + 1) (S1.n2 r) vv cs bm w.heap.size br r := hcut.put (m := m2) (by have := hcut.ne; omega) hg2 (hcut.mi.put2 hs2 hg2)
          clear hcut hs2 hg2 c0 c1 c2 c3 c4 c5 p0 p1 p2 p3 p4 p5 p6 p7 p8
          clear wc
          generalize S1.n2 r = S2 at *
          go_frame
          obtain ⟨c0, c1, c2, c3, c4, c5⟩ := hC2.cells
          obtain ⟨p0, p1, p2, p3, p4, p5, p6, p7, p8⟩ := hC2.recs
          go_upto_region 10 with (at_mapUpdate; refine wpList_put_s rfl _ _ _ 44 rfl 9 Trym.underlying44 Trym.underlying9 m3 (5 * k + 1 + 1) S2.sdirs rfl hC2.mi.h3 (by have := HX.out; omega) r.name r.pd rfl rfl (by omega) (by omega) ?_; intro W3 hs3 hg3)
          have hC3 : CC w W3 B m1 m2 m3 m4 m5 (5 * k + 1 + 1 + 1) (S2.n3 r) vv cs bm w.heap.size br r := hC2.put (m := m3) (by have := hC2.ne; omega) hg3 (hC2.mi.put3 hs3 hg3)
          clear hC2 hs3 hg3 c0 c1 c2 c3 c4 c5 p0 p1 p2 p3 p4 p5 p6 p7 p8
          clear W2
          generalize S2.n3 r = S3 at *
          go_frame
          obtain ⟨c0, c1, c2, c3, c4, c5⟩ := hC3.cells
          obtain ⟨p0, p1, p2, p3, p4, p5, p6, p7, p8⟩ := hC3.recs
          go_upto_if 44 with fail
          go_cut [] (fun wc => CC w wc B m1 m2 m3 m4 m5 (5 * k + 1 + 1 + 1 + 1) (S3.n4 r) vv cs bm w.heap.size br r)
          case first =>
            cases hlv : r.hasT
            · go_wp2
              go_meet
              case rel =>
                have e : S3.n4 r = S3 := by simp [PS.n4, hlv]
                rw [e]
                exact hC3.put (m := m1) ⟨Nat.le_refl _, by have := hC3.ne; omega⟩ (World.grownBy.refl _ _) (hC3.mi.mono (Nat.le_succ _))
            · go_wp2_with (at_mapUpdate; refine wpList_put_t rfl _ _ _ rfl m4 (5 * k + 1 + 1 + 1) S3.terms rfl hC3.mi.h4 (by have := HX.out; omega) r.name r.term rfl rfl (by omega) hokr.2.2.2.2 ?_; intro W4 hs4 hg4)
              go_frame
              go_meet
              case rel =>
                have e : S3.n4 r = { S3 with terms := upd S3.terms r.name.data.toList r.term } := by simp [PS.n4, hlv]
                rw [e]
                exact hC3.put (m := m4) (by have := hC3.ne; omega) hg4 (hC3.mi.put4 hs4 hg4)
          case rest =>
            clear hC3 c0 c1 c2 c3 c4 c5 p0 p1 p2 p3 p4 p5 p6 p7 p8
            clear W3
            generalize S3.n4 r = S4 at *
            obtain ⟨c0, c1, c2, c3, c4, c5⟩ := hcut.cells
            obtain ⟨p0, p1, p2, p3, p4, p5, p6, p7, p8⟩ := hcut.recs
            go_upto_if 52 with fail
            have hC4 := hcut
            clear hcut
            generalize wc = W4 at *
            go_cut [] (fun wc => CC w wc B m1 m2 m3 m4 m5 (5 * k + 1 + 1 + 1 + 1 + 1) (S4.n5 r) vv cs bm w.heap.size br r)
            case first =>
              cases hlv : r.hasSt
              · go_wp2
                go_meet
                case rel =>
                  have e : S4.n5 r = S4 := by simp [PS.n5, hlv]
                  rw [e]
                  exact hC4.put (m := m1) ⟨Nat.le_refl _, by have := hC4.ne; omega⟩ (World.grownBy.refl _ _) (hC4.mi.mono (Nat.le_succ _))
              · go_wp2_with (at_mapUpdate; refine wpList_put_s rfl _ _ _ 44 rfl 9 Trym.underlying44 Trym.underlying9 m5 (5 * k + 1 + 1 + 1 + 1) S4.states rfl hC4.mi.h5 (by have := HX.out; omega) r.name r.st rfl rfl (by omega) (by omega) ?_; intro W5 hs5 hg5)
                go_frame
                go_meet
                case rel =>
                  have e : S4.n5 r = { S4 with states := upd S4.states r.name.data.toList r.st.data.toList } := by simp [PS.n5, hlv]
                  rw [e]
                  exact hC4.put (m := m5) (by have := hC4.ne; omega) hg5 (hC4.mi.put5 hs5 hg5)
            case rest =>
              clear hC4 c0 c1 c2 c3 c4 c5 p0 p1 p2 p3 p4 p5 p6 p7 p8
              clear W4
              generalize S4.n5 r = S5 at *
              obtain ⟨c0, c1, c2, c3, c4, c5⟩ := hcut.cells
              obtain ⟨p0, p1, p2, p3, p4, p5, p6, p7, p8⟩ := hcut.recs
              go_upto_if 60 with fail
              have hC5 := hcut
              clear hcut
              cases hlv : r.inC
              · go_wp2
                go_roundg (rs.length - (k + 1))
                case measure => omega
                case rel =>
                  refine ⟨k + 1, vv, by omega, rfl, by go_num, ?_, hC5.blk, hC5.res⟩
                  rw [HP.out, HC.out]
                  have e : cpStep cs r = cs := by simp [cpStep, hlv]
                  rw [e]
                  exact hC5.mi.mono (by omega)
              · have hown := hC5.mi.own
                have hB := hC5.mi.ord.2.2.2.2.2.2
                have hbmB := hC5.hbm
                clear c0 c1 c2 c3 c4 p1 p2 p3 p4 p5 p6 p7 p8
                go_wp2_with (at_builtin; refine wpList_append_s rfl _ _ rfl B _ cs rfl hown r.name rfl (by omega) hB ?_; intro a' c' W6 hown' hgrow6; obtain ⟨hM6, hB6, hR6⟩ := hC5.app hgrow6 hown'; have c6 : W6.cell? ⟨bm, 5, none⟩ = some vv := (by rw [cell_of_row W6 _ _ _ 58 (0, 0) hB6]; rfl); have f6 : W6.frozen? ⟨bm, 5, none⟩ = false := (by simp [World.frozen?, hB6]))
                go_roundg (rs.length - (k + 1))
                case measure => omega
                case rel =>
                  have e : cpStep cs r = cs ++ [r.name] := by simp [cpStep, hlv]
                  have el : (cs ++ [r.name]).length = cs.length + 1 := by simp
                  rw [el] at hown' hM6
                  have hg := grownBy_setCell W6 bm 5 (.slice a' (cs.length + 1) c')
                  have ho7 : (W6.setCell ⟨bm, 5, none⟩ (.slice a' (cs.length + 1) c')).ownsRow B 9 1 (.slice a' (cs.length + 1) c') (cs ++ [r.name]).length ((cs ++ [r.name]).map Value.string) := by
                    rw [el]; exact ownsRow_setCell_below hown' (by simp only; omega) _
                  refine ⟨k + 1, .slice a' (cs.length + 1) c', by omega, rfl, by go_num, ?_, ?_, ?_⟩
                  · rw [HP.out, HC.out, e]
                    exact (hM6.kept hg (fun j hj => by cases hj; omega) ho7).mono (by omega)
                  · rw [heap_setCell_same W6 bm 5 _ 58 _ hB6]; rfl
                  · rw [hg.block w.heap.size (Array.getElem?_eq_some_iff.1 hR6).1 (fun e => by have := Option.some.inj e; have := hC5.mi.ord; omega)]; exact hR6
      · obtain ⟨ad, cc, hvv⟩ := shape_of hMI.own
        subst hvv
        have hkk : k = rs.length := by omega
        have ht : rs.take k = rs := List.take_of_length_le (by omega)
        have HMI : Hid (MI w wr B m1 m2 m3 m4 m5 (5 * rs.length) 9 (psOf rs) (.slice ad (cpOf (rs.take k)).length cc) (cpOf rs)) := by
          unfold Hid; rw [ht] at hMI ⊢; rw [hkk] at hMI; exact hMI
        clear hMI hkk ht
        have hc : ∀ j, wr.cell? ⟨bm, j, none⟩ = _ := fun j => cell_of_row wr bm j _ 58 (0, 0) hblk
        have c0 := hc 0
        have c1 := hc 1
        have c2 := hc 2
        have c3 := hc 3
        have c4 := hc 4
        have c5 := hc 5
        have hd : ∀ j, wr.cell? ⟨w.heap.size, j, none⟩ = _ := fun j => cell_of_row wr w.heap.size j _ 58 (0, 0) hres
        have d0 := hd 0
        have d1 := hd 1
        have d2 := hd 2
        have d3 := hd 3
        have d4 := hd 4
        have d5 := hd 5
        have hfz : ∀ o, wr.frozen? ⟨w.heap.size, o, none⟩ = false := fun o => by simp [World.frozen?, hres]
        simp at c0 c1 c2 c3 c4 c5 d0 d1 d2 d3 d4 d5
        have hne : ¬ bm = w.heap.size := by have := HMI.out.ord; omega
        have HR : Hid (wr.heap[w.heap.size]? = some (.cells #[.map none, .map none, .map none, .map none, .map none, .slice none 0 0] 58 (0, 0))) := hres
        clear hc hd hblk hres hcell hsm hok
        go_wp2
        have hq : w.heap.size ≤ w.heap.size ∧ w.heap.size < m1 := by omega
        refine bodyPost_ret (v := .agg #[.map (some m1), .map (some m2), .map (some m3), .map (some m4), .map (some m5), .slice ad (cpOf (rs.take k)).length cc]) (by simp [results, Trym.results22, go_sem, d0, d1, d2, d3, d4, d5]) rfl ⟨B, m1, m2, m3, m4, m5, ad, _, cc, rfl, ?_⟩
        exact (((((HMI.out.setCell hq _ _).setCell hq _ _).setCell hq _ _).setCell hq _ _).setCell hq _ _).setCell hq _ _
end Go.Proofs.Qxb6608675aMods
