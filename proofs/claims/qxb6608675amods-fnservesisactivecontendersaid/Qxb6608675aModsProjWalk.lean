/- zzServeProject: the walk. -/
import Derived.Test.Qxb6608675aModsProj
namespace Go.Proofs.Qxb6608675aMods
open Go.RowKit Go.Maps

theorem IsRecs.any {w : World} {v : Value} {rs : List Rec} (h : IsRecs w v rs) : ∃ a cap, v = .slice a rs.length cap ∧ ∀ k (hk : k < rs.length), ∃ b off, a = some ⟨b, off, none⟩ ∧ b < w.heap.size ∧ RecAt w b (off + k * 9) rs[k] := by
  rcases h with ⟨a, cap, rfl, rfl⟩ | ⟨b, off, cap, rfl, hpos, hbs, hcell⟩
  · exact ⟨a, cap, rfl, fun k hk => by simp at hk⟩
  · exact ⟨_, cap, rfl, fun k hk => ⟨b, off, rfl, hbs, hcell k hk⟩⟩

/-- node's term set. -/
def PS.bump (S : PS) (b : Bool) (x : ByteArray) (t : Int) : PS := if b then { S with terms := upd S.terms x.data.toList t } else S

set_option maxHeartbeats 2000000 in
set_option maxRecDepth 100000 in
theorem project_any (v : Value) (rs : List Rec) (bump : Bool) (x : ByteArray) (tm : Int) (w : World) (hv : IsRecs w v rs) (hsm : ∀ r ∈ rs, r.small) (hok : ∀ r ∈ rs, r.ok) (hl : rs.length ≤ 4096) (hx : x.size ≤ 1048576) (htm : (Lit.int .u64 tm).wf = true) :
    Calls Trym.prog 24 #[v, .bool bump, .string x, .int .u64 tm] w fun e w' => ∃ bv bs n vv, e = .returned (.tuple #[.pointer (some ⟨bv, 0, none⟩), .pointer (some ⟨bs, 0, none⟩)]) ∧ Vw w' bv bs n ((psOf rs).bump bump x tm) vv ∧ IsStrs w' vv (cpOf rs) ∧ Below w.heap.size w w' := by
  have hmm := @run_makeMap Trym.prog
  obtain ⟨a, cap, rfl, hcell⟩ := hv.any
  clear hv
  go_enter Trym.func24, Trym.ntmps24
  go_wp2
  have hM1 := made5p w (.slice none 0 0) rfl
  have hord := hM1.ord
  generalize ((((w.alloc (.map #[] 0)).alloc (.map #[] 0)).alloc (.map #[] 0)).alloc (.map #[] 0)).alloc (.map #[] 0) = W0 at *
  have hm2 : w.heap.size < w.heap.size + 1 := by omega
  generalize w.heap.size + 1 = m2 at *
  generalize m2 + 1 = m3 at *
  generalize m3 + 1 = m4 at *
  generalize m4 + 1 = m5 at *
  generalize m5 + 1 = B at *
  go_loopg [15, 16, 17] rs.length (fun g vv i _ wr => ∃ k : Nat, k ≤ rs.length ∧ g = rs.length - k ∧ i = .int .i64 k ∧ MI w wr B w.heap.size m2 m3 m4 m5 (5 * k) 69 (psOf (rs.take k)) vv (cpOf (rs.take k)))
  case atStart => exact ⟨0, Nat.zero_le _, rfl, rfl, hM1⟩
  case round =>
    obtain ⟨k, hk, rfl, rfl, hMI⟩ := hrel
    clear hM1 hord W0
    by_cases hlt : k < rs.length
    · obtain ⟨b, off, rfl, hbs, hrec0⟩ := hcell k hlt
      have hrec := hrec0.below hMI.bel hbs
      have hsmall := hsm rs[k] (List.getElem_mem hlt)
      have hokr := hok rs[k] (List.getElem_mem hlt)
      have HP : Hid (psOf (rs.take (k + 1)) = (((((psOf (rs.take k)).n1 rs[k]).n2 rs[k]).n3 rs[k]).n4 rs[k]).n5 rs[k]) := by unfold Hid; rw [List.take_succ_eq_append_getElem hlt, psOf_snoc]; rfl
      have HC : Hid (cpOf (rs.take (k + 1)) = cpStep (cpOf (rs.take k)) rs[k]) := by unfold Hid; rw [List.take_succ_eq_append_getElem hlt, cpOf_snoc]
      have hcl := cpOf_len rs k
      clear hcell hsm hok hrec0
      generalize rs[k] = r at *
      generalize psOf (rs.take k) = S at *
      generalize cpOf (rs.take k) = cs at *
      obtain ⟨q0, q1, q2, q3, q4, q5, q6, q7, q8⟩ := hrec
      have hC : CP w (wr.alloc (.cells #[.string r.name, .bool r.live, .string r.nd, .string r.pd, .bool r.inC, .bool r.hasT, .int .u64 r.term, .bool r.hasSt, .string r.st] 72)) B w.heap.size m2 m3 m4 m5 (5 * k) S u15 cs wr.heap.size r :=
        ⟨hMI.alloc _, rec_new' wr r, hMI.ord.2.2.2.2.2.2⟩
      clear hMI
      go_upto_if 35 with fail
      generalize wr.alloc _ = W1 at *
      generalize wr.heap.size = br at *
      clear q0 q1 q2 q3 q4 q5 q6 q7 q8 hmm
      obtain ⟨z1, z2, z3, z4⟩ := hsmall
      have hmax : (1048576 : Nat) + 7 ≤ maxLen := by unfold maxLen; omega
      have HX : Hid (5 * k + 5 < maxLen) := by unfold Hid maxLen; omega
      go_cut [] (fun wc => CP w wc B w.heap.size m2 m3 m4 m5 (5 * k + 1) (S.n1 r) u15 cs br r)
      case first =>
        obtain ⟨p0, p1, p2, p3, p4, p5, p6, p7, p8⟩ := hC.recs
        cases hlv : r.live
        · go_wp2
          go_meet
          case rel =>
            have e : S.n1 r = S := by simp [PS.n1, hlv]
            rw [e]
            exact hC.put (m := w.heap.size) ⟨Nat.le_refl _, by have := hC.ne; omega⟩ (World.grownBy.refl _ _) (hC.mi.mono (Nat.le_succ _))
        · go_wp2_with (at_mapUpdate; refine wpList_put_s rfl _ _ _ 44 rfl 9 Trym.underlying44 Trym.underlying9 w.heap.size (5 * k) S.nodes rfl hC.mi.h1 (by have := HX.out; omega) r.name (urlOf r.name) rfl rfl (by omega) (by rw [url_size]; omega) ?_; intro W2 hs2 hg2)
          go_frame
          go_meet
          case rel =>
            have e : S.n1 r = { S with nodes := upd S.nodes r.name.data.toList (urlOf r.name).data.toList } := by simp [PS.n1, hlv]
            rw [e]
            exact hC.put (m := w.heap.size) ⟨Nat.le_refl _, by have := hC.ne; omega⟩ hg2 (hC.mi.put1 hs2 hg2)
      case rest =>
        clear hC
        generalize S.n1 r = S1 at *
        obtain ⟨p0, p1, p2, p3, p4, p5, p6, p7, p8⟩ := hcut.recs
        go_upto_region 14 with (at_mapUpdate; refine wpList_put_s rfl _ _ _ 44 rfl 9 Trym.underlying44 Trym.underlying9 m2 (5 * k + 1) S1.ndirs rfl hcut.mi.h2 (by have := HX.out; omega) r.name r.nd rfl rfl (by omega) (by omega) ?_; intro W2 hs2 hg2)
        have hC2 : CP w W2 B w.heap.size m2 m3 m4 m5 (5 * k + 1 + 1) (S1.n2 r) u15 cs br r := hcut.put (m := m2) (by have := hcut.ne; omega) hg2 (hcut.mi.put2 hs2 hg2)
        clear hcut hs2 hg2 p0 p1 p2 p3 p4 p5 p6 p7 p8
        clear wc
        generalize S1.n2 r = S2 at *
        go_frame
        obtain ⟨p0, p1, p2, p3, p4, p5, p6, p7, p8⟩ := hC2.recs
        go_upto_region 15 with (at_mapUpdate; refine wpList_put_s rfl _ _ _ 44 rfl 9 Trym.underlying44 Trym.underlying9 m3 (5 * k + 1 + 1) S2.sdirs rfl hC2.mi.h3 (by have := HX.out; omega) r.name r.pd rfl rfl (by omega) (by omega) ?_; intro W3 hs3 hg3)
        have hC3 : CP w W3 B w.heap.size m2 m3 m4 m5 (5 * k + 1 + 1 + 1) (S2.n3 r) u15 cs br r := hC2.put (m := m3) (by have := hC2.ne; omega) hg3 (hC2.mi.put3 hs3 hg3)
        clear hC2 hs3 hg3 p0 p1 p2 p3 p4 p5 p6 p7 p8
        clear W2
        generalize S2.n3 r = S3 at *
        go_frame
        obtain ⟨p0, p1, p2, p3, p4, p5, p6, p7, p8⟩ := hC3.recs
        go_upto_if 53 with fail
        go_cut [] (fun wc => CP w wc B w.heap.size m2 m3 m4 m5 (5 * k + 1 + 1 + 1 + 1) (S3.n4 r) u15 cs br r)
        case first =>
          cases hlv : r.hasT
          · go_wp2
            go_meet
            case rel =>
              have e : S3.n4 r = S3 := by simp [PS.n4, hlv]
              rw [e]
              exact hC3.put (m := w.heap.size) ⟨Nat.le_refl _, by have := hC3.ne; omega⟩ (World.grownBy.refl _ _) (hC3.mi.mono (Nat.le_succ _))
          · go_wp2_with (at_mapUpdate; refine wpList_put_t rfl _ _ _ rfl m4 (5 * k + 1 + 1 + 1) S3.terms rfl hC3.mi.h4 (by have := HX.out; omega) r.name r.term rfl rfl (by omega) hokr.2.2.2.2 ?_; intro W4 hs4 hg4)
            go_frame
            go_meet
            case rel =>
              have e : S3.n4 r = { S3 with terms := upd S3.terms r.name.data.toList r.term } := by simp [PS.n4, hlv]
              rw [e]
              exact hC3.put (m := m4) (by have := hC3.ne; omega) hg4 (hC3.mi.put4 hs4 hg4)
        case rest =>
          clear hC3 p0 p1 p2 p3 p4 p5 p6 p7 p8
          clear W3
          generalize S3.n4 r = S4 at *
          obtain ⟨p0, p1, p2, p3, p4, p5, p6, p7, p8⟩ := hcut.recs
          go_upto_if 60 with fail
          have hC4 := hcut
          clear hcut
          generalize wc = W4 at *
          go_cut [] (fun wc => CP w wc B w.heap.size m2 m3 m4 m5 (5 * k + 1 + 1 + 1 + 1 + 1) (S4.n5 r) u15 cs br r)
          case first =>
            cases hlv : r.hasSt
            · go_wp2
              go_meet
              case rel =>
                have e : S4.n5 r = S4 := by simp [PS.n5, hlv]
                rw [e]
                exact hC4.put (m := w.heap.size) ⟨Nat.le_refl _, by have := hC4.ne; omega⟩ (World.grownBy.refl _ _) (hC4.mi.mono (Nat.le_succ _))
            · go_wp2_with (at_mapUpdate; refine wpList_put_s rfl _ _ _ 89 rfl 69 Trym.underlying89 Trym.underlying69 m5 (5 * k + 1 + 1 + 1 + 1) S4.states rfl hC4.mi.h5 (by have := HX.out; omega) r.name r.st rfl rfl (by omega) (by omega) ?_; intro W5 hs5 hg5)
              go_frame
              go_meet
              case rel =>
                have e : S4.n5 r = { S4 with states := upd S4.states r.name.data.toList r.st.data.toList } := by simp [PS.n5, hlv]
                rw [e]
                exact hC4.put (m := m5) (by have := hC4.ne; omega) hg5 (hC4.mi.put5 hs5 hg5)
          case rest =>
            clear hC4 p0 p1 p2 p3 p4 p5 p6 p7 p8
            clear W4
            generalize S4.n5 r = S5 at *
            obtain ⟨p0, p1, p2, p3, p4, p5, p6, p7, p8⟩ := hcut.recs
            go_upto_if 67 with fail
            have hC5 := hcut
            clear hcut
            cases hlv : r.inC
            · go_wp2
              go_roundg (rs.length - (k + 1))
              case measure => omega
              case rel =>
                refine ⟨k + 1, by omega, rfl, by go_num, ?_⟩
                rw [HP.out, HC.out]
                have e : cpStep cs r = cs := by simp [cpStep, hlv]
                rw [e]
                exact hC5.mi.mono (by omega)
            · have hown := hC5.mi.own
              have hB := hC5.mi.ord.2.2.2.2.2.2
              clear p1 p2 p3 p4 p5 p6 p7 p8
              go_wp2_with (at_builtin; refine wpList_append_s rfl _ _ rfl B _ cs rfl hown r.name rfl (by omega) hB ?_; intro a' c' W6 hown' hgrow6; have hM6 := hC5.app hgrow6 hown')
              go_roundg (rs.length - (k + 1))
              case measure => omega
              case rel =>
                have e : cpStep cs r = cs ++ [r.name] := by simp [cpStep, hlv]
                refine ⟨k + 1, by omega, rfl, by go_num, ?_⟩
                rw [HP.out, HC.out, e]
                have el : (cs ++ [r.name]).length = cs.length + 1 := by simp
                first | exact hM6.mono (by omega) | (rw [el] at hM6; exact hM6.mono (by omega))
    · obtain ⟨ad, cc, hvv⟩ := shape_of hMI.own
      subst hvv
      have hkk : k = rs.length := by omega
      have ht : rs.take k = rs := List.take_of_length_le (by omega)
      have hMI2 : MI w wr B w.heap.size m2 m3 m4 m5 (5 * rs.length) 69 (psOf rs) (.slice ad (cpOf (rs.take k)).length cc) (cpOf rs) := by
        rw [ht] at hMI ⊢; rw [hkk] at hMI; exact hMI
      clear hMI hkk ht hcell hsm hok
      generalize (cpOf (rs.take k)).length = ln at *
      go_upto_if 73 with fail
      go_cut [] (fun wc => MI w wc B w.heap.size m2 m3 m4 m5 (5 * rs.length + 1) 69 ((psOf rs).bump bump x tm) (.slice ad ln cc) (cpOf rs))
      case first =>
        cases bump
        · go_wp2
          go_meet
          case rel => exact hMI2.mono (Nat.le_succ _)
        · go_wp2_with (at_mapUpdate; refine wpList_put_t rfl _ _ _ rfl m4 (5 * rs.length) (psOf rs).terms rfl hMI2.h4 (by unfold maxLen; omega) x tm rfl rfl (by unfold maxLen; omega) htm ?_; intro W4 hs4 hg4)
          go_frame
          go_meet
          case rel => exact hMI2.put4 hs4 hg4
      case rest =>
        clear hMI2
        go_wp2_with fail
        refine (shardWithDirs_any ad ln cc m3 m4 m5 _).mono ?_
        rintro e w1 ⟨rfl, rfl⟩
        go_wp2
        go_ret2
        obtain ⟨h1, h2, h3⟩ := view_made hcut
        exact ⟨_, _, _, _, rfl, h1, h2, h3⟩
end Go.Proofs.Qxb6608675aMods
