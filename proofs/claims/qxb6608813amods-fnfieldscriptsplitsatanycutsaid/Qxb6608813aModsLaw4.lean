/- FnFieldScriptSplitsAtAnyCut. -/
import Derived.Test.Qxb6608813aModsLaw3
namespace Go.Proofs.Qxb6608813aMods
open Go.RowKit

theorem tot_drop_le (l : List ByteArray) (k : Nat) : tot (l.drop k) ≤ tot l := by
  have := tot_append (l.take k) (l.drop k)
  rw [List.take_append_drop] at this
  omega

theorem flag_append (m : Bool) (l1 l2 : List ByteArray) : flag m (l1 ++ l2) = flag (flag m l1) l2 := by
  cases l1 <;> simp [flag]

theorem IsB.pre {w : World} {B n c : Nat} {a : Option Addr} {xs ys : List Int} (h : IsB w B (.slice a n c) (xs ++ ys)) : IsB w B (.slice a xs.length c) xs := by
  obtain ⟨a', c', e, h⟩ := h
  cases e
  refine ⟨a, c, rfl, fun hp => ?_⟩
  obtain ⟨b, off, rfl, hlt, hc⟩ := h (by simp; omega)
  refine ⟨b, off, rfl, hlt, fun k hk => ?_⟩
  rw [hc k (by simp; omega), List.getElem_append_left hk]

theorem IsB.suf {w : World} {B n c c' b off : Nat} {a' : Option Addr} {xs ys : List Int} (h : IsB w B (.slice (some ⟨b, off, none⟩) n c) (xs ++ ys)) (ha : 0 < ys.length → a' = some ⟨b, off + xs.length, none⟩) : IsB w B (.slice a' ys.length c') ys := by
  obtain ⟨a'', c'', e, h⟩ := h
  cases e
  refine ⟨a', c', rfl, fun hp => ?_⟩
  obtain ⟨b', off', e, hlt, hc⟩ := h (by simp; omega)
  cases e
  refine ⟨b, _, ha hp, hlt, fun k hk => ?_⟩
  have := hc (xs.length + k) (by simp; omega)
  rw [Nat.add_assoc, this, List.getElem_append_right (by omega)]
  simp

/-- The members' own lengths. -/
def lw : List ByteArray → Nat
  | [] => 0
  | k :: ks => (k.size + 3) + lw ks
theorem lw_append : ∀ (l1 l2 : List ByteArray), lw (l1 ++ l2) = lw l1 + lw l2
  | [], l2 => by simp [lw]
  | k :: ks, l2 => by simp [lw, lw_append ks l2]; omega
theorem lw_snoc (l : List ByteArray) (k : ByteArray) : lw (l ++ [k]) = lw l + (k.size + 3) := by rw [lw_append]; simp [lw]
theorem lw_le : ∀ (l : List ByteArray), lw l ≤ tot l
  | [] => by simp [lw]
  | k :: ks => by have := lw_le ks; simp only [lw, tot]; omega
theorem wrt_len_true : ∀ (l : List ByteArray), (wrt true l).length = lw l + l.length
  | [] => by simp [wrt, lw]
  | k :: ks => by
    have := wrt_len_true ks
    simp only [wrt, List.length_append, mem_length, lw, List.length_cons, this]
    simp [comma]; omega
theorem wrt_len (l : List ByteArray) (m : Bool) : (l.length = 0 → (wrt m l).length = lw l) ∧ (0 < l.length → (wrt m l).length + 1 = lw l + l.length + (if m then 1 else 0)) := by
  cases l with
  | nil => simp [wrt, lw]
  | cons k ks =>
    refine ⟨fun h => by simp at h, fun _ => ?_⟩
    have := wrt_len_true ks
    cases m <;> simp [wrt, mem_length, lw, comma, this] <;> omega

theorem cut_snoc (ks : List ByteArray) (q k : Nat) (hq : q ≤ k) (h : k < ks.length) : (ks.drop q).take (k + 1 - q) = (ks.drop q).take (k - q) ++ [ks[k]] := by
  have e : k + 1 - q = (k - q) + 1 := by omega
  rw [e, List.take_succ_eq_append_getElem (by simp; omega)]
  congr 2
  rw [List.getElem_drop]
  congr 1
  omega

set_option maxHeartbeats 4000000 in
set_option maxRecDepth 100000 in
theorem law4 (v vk : Value) (zs : List Int) (ks : List ByteArray) (i1 i2 i3 i4 cut : Int) (m : Bool) (w : World) (hv : IsB w w.heap.size v zs) (hk : IsS w w.heap.size vk ks) (hn : zs.length ≤ maxLen) (hkl : ks.length ≤ maxLen) (hks : ∀ k ∈ ks, k.size ≤ maxLen) :
    Calls Trym.prog 4 #[v, .int .i64 i1, .int .i64 i2, .int .i64 i3, .int .i64 i4, .bool m, vk, .int .i64 cut] w fun e w' => e = .returned (.bool true) ∧ Below w.heap.size w w' := by
  obtain ⟨a, c, hv0, _⟩ := id hv
  obtain ⟨ak, ck, hk0, _⟩ := id hk
  subst hv0 hk0
  have HB := bytes15 a zs.length c (.slice ak ks.length ck) ks i1 i2 i3 i4 m cut w w.heap.size hk hn hkl hks
  unfold maxLen at hn hkl
  clear hks
  go_enter Trym.func4, Trym.ntmps4
  go_wp2_with fail
  refine HB.mono ?_
  rintro e w' ⟨⟨ok, rfl, hok⟩, hw'⟩
  have hw2 := hw'.symm
  subst hw2
  clear hw' HB
  cases ok
  · go_wp2
    go_ret
    exact ⟨rfl, Below.refl _ _⟩
  have HK : Hid (∀ k ∈ ks, k.size ≤ 1048576) := hok rfl
  clear hok
  go_wp2_with fail
  rotate_right 1
  · go_loop [17, 18] (fun z i => ∃ k t : Nat, k ≤ ks.length ∧ i = .int .i64 k ∧ z = .int .i64 t ∧ t = zs.length + tot (ks.take k) ∧ t ≤ 1048576) (fun _ i => ks.length - (intOf i).toNat)
    case atStart => exact ⟨0, zs.length, Nat.zero_le _, rfl, rfl, by simp [tot], by omega⟩
    case round =>
      obtain ⟨k, t, hkk, rfl, rfl, ht, ht'⟩ := hrel
      have HT : Hid (t = zs.length + tot (ks.take k)) := ht
      clear ht
      by_cases hlt : k < ks.length
      · obtain ⟨ak', ck', e1, hck⟩ := id hk
        cases e1
        obtain ⟨b, off, rfl, hb, hc⟩ := hck (by omega)
        have hc1 := hc k hlt
        have hs := HK.out _ (List.getElem_mem hlt)
        have HS : Hid (ks.take (k + 1) = ks.take k ++ [ks[k]]) := List.take_succ_eq_append_getElem hlt
        clear hc hck
        generalize ks[k] = r at *
        go_wp2
        · go_ret
          exact ⟨rfl, Below.refl _ _⟩
        · go_round
          case rel =>
            refine ⟨k + 1, t + (16 + r.size), by omega, by go_num, by go_num, ?_, by omega⟩
            rw [HS.out, tot_snoc, HT.out]; omega
          case measure => simp [intOf]; omega
      · have htot : zs.length + tot ks ≤ 1048576 := by
          have := HT.out
          rw [List.take_of_length_le (by omega)] at this
          omega
        clear HT
        by_cases hc1 : cut < 0
        · go_wp2
          go_ret
          exact ⟨rfl, Below.refl _ _⟩
        by_cases hc2 : (ks.length : Int) < cut
        · go_wp2
          go_ret
          exact ⟨rfl, Below.refl _ _⟩
        obtain ⟨q, rfl⟩ : ∃ q : Nat, cut = (q : Int) := ⟨cut.toNat, by omega⟩
        have hq : q ≤ ks.length := by omega
        have hc2' : ¬ ks.length < q := by omega
        clear hc1 hc2
        go_wp2_with fail
        refine (clone_any (.slice a zs.length c) zs w hv (by omega)).mono ?_
        rintro e w1 ⟨a1, c1, rfl, hown1, hb1⟩
        go_wp2_with fail
        refine (newParts_any a1 zs.length c1 i1 i2 i3 i4 w1).mono ?_
        rintro e w3 ⟨rfl, hw3⟩
        subst hw3
        go_upto_region 18 with fail
        have hWr := Wr.new hown1 hb1.size m i1 i2 i3 i4
        have hb3 : Below w.heap.size w ((w1.alloc (.cells #[.slice a1 zs.length c1, .int .i64 i1, .int .i64 i2, .int .i64 i3, .int .i64 i4, .nilFunc] 61)).alloc (.cells #[.bool m] 4)) := (hb1.alloc hb1.size _).alloc (by have := hb1.size; simp; omega) _
        generalize ((w1.alloc (.cells #[.slice a1 zs.length c1, .int .i64 i1, .int .i64 i2, .int .i64 i3, .int .i64 i4, .nilFunc] 61)).alloc (.cells #[.bool m] 4)) = w4 at *
        generalize w1.heap.size + 1 = fA at *
        generalize w1.heap.size = bA at *
        clear hown1 hb1
        clear w1
        go_wp2_with fail
        go_loopg [21] q (fun gg i wr => ∃ (k n' : Nat) (v' : Value), k ≤ q ∧ gg = q - k ∧ i = .int .i64 k ∧ Wr wr w.heap.size bA fA v' .nilFunc n' (zs ++ wrt m (ks.take k)) (flag m (ks.take k)) i1 i2 i3 i4 ∧ Below w.heap.size w wr)
        case atStart => exact ⟨0, _, _, Nat.zero_le _, rfl, rfl, by simpa [wrt, flag] using hWr, hb3⟩
        case round =>
          clear hWr hb3
          clear w4
          obtain ⟨k2, nA, vA, hkk2, rfl, rfl, hA, hbA⟩ := hrel
          have hnA := hA.own.len
          rw [List.length_append] at hnA
          have := wrt_length_le (ks.take k2) m
          have := tot_take_le ks k2
          by_cases hlt2 : k2 < q
          · obtain ⟨ak', ck', e1, hck⟩ := id (hk.below hbA)
            cases e1
            obtain ⟨b, off, rfl, hb, hc⟩ := hck (by omega)
            have hlt3 : k2 < ks.length := by omega
            have hc1 := hc k2 hlt3
            have HS : Hid (ks.take (k2 + 1) = ks.take k2 ++ [ks[k2]]) := List.take_succ_eq_append_getElem hlt3
            have hm := tot_mem (List.getElem_mem hlt3)
            clear hc hck
            generalize ks[k2] = r at *
            go_wp2_with fail
            refine (partsField_any w.heap.size bA fA vA .nilFunc nA _ _ i1 i2 i3 i4 r wr hA (by omega)).mono ?_
            rintro e wn ⟨rfl, ⟨v2, n2, hW2⟩, hbn⟩
            go_wp2
            go_roundg (q - (k2 + 1))
            case measure => omega
            case rel =>
              refine ⟨k2 + 1, n2, v2, by omega, rfl, by go_num, ?_, hbA.trans hbn⟩
              rw [HS.out, wrt_snoc, flag_snoc, ← List.append_assoc]
              exact hW2
          · obtain rfl : q = k2 := by omega
            obtain ⟨wA, hwA⟩ : ∃ wA, wA = wr := ⟨wr, rfl⟩
            subst hwA
            have hkA := (hk.below hbA).mono hbA.size
            have hvA := (hv.below hbA).mono hbA.size
            go_wp2_with fail
            refine (newParts_any (some ⟨wA.heap.size, 0, none⟩) 0 0 i1 i2 i3 i4 (wA.alloc (.cells #[] 5))).mono ?_
            rintro e w3 ⟨rfl, hw3⟩
            have hownE : Own (wA.alloc (.cells #[] 5)) wA.heap.size (.slice (some ⟨wA.heap.size, 0, none⟩) 0 0) 0 [] := World.ownsRow_made wA #[] 0 (Nat.le_refl _) (Nat.zero_le _) rfl
            have hbE : Below wA.heap.size wA w3 := by rw [hw3]; exact ((Below.refl _ wA).alloc (Nat.le_refl _) _).alloc (by simp) _
            have g2 := (hA.below hbE).cells.2.1
            subst hw3
            generalize hfl : flag m (ks.take q) = fl at *
            go_upto_region 24 with fail
            have hWr := Wr.new hownE (by simp) fl i1 i2 i3 i4
            have hb3 := hbE.alloc (by simp; omega) (.cells #[.bool fl] 4)
            clear hownE hbE g2
            generalize (((wA.alloc (.cells #[] 5)).alloc (.cells #[.slice (some ⟨wA.heap.size, 0, none⟩) 0 0, .int .i64 i1, .int .i64 i2, .int .i64 i3, .int .i64 i4, .nilFunc] 61)).alloc (.cells #[.bool fl] 4)) = w4 at *
            rw [show (wA.alloc (.cells #[] 5)).heap.size = wA.heap.size + 1 by simp] at hWr
            generalize wA.heap.size + 1 + 1 = fB at *
            generalize wA.heap.size + 1 = bB at *
            go_wp2_with fail
            go_loopg [24] (ks.length - q) (fun gg i wr => ∃ (k n' : Nat) (v' : Value), q ≤ k ∧ k ≤ ks.length ∧ gg = ks.length - k ∧ i = .int .i64 k ∧ Wr wr wA.heap.size bB fB v' .nilFunc n' (wrt fl ((ks.drop q).take (k - q))) (flag fl ((ks.drop q).take (k - q))) i1 i2 i3 i4 ∧ Below wA.heap.size wA wr)
            case atStart => exact ⟨q, _, _, Nat.le_refl _, hq, rfl, rfl, by simpa [wrt, flag] using hWr, hb3⟩
            case round =>
              clear hWr hb3
              clear w4
              obtain ⟨k3, nB, vB, hqk3, hkk3, rfl, rfl, hBw, hbB⟩ := hrel
              have hnB := hBw.own.len
              have := wrt_length_le ((ks.drop q).take (k3 - q)) fl
              have := tot_take_le (ks.drop q) (k3 - q)
              have := tot_drop_le ks q
              by_cases hlt3 : k3 < ks.length
              · obtain ⟨ak', ck', e1, hck⟩ := id (hkA.below hbB)
                cases e1
                obtain ⟨b, off, rfl, hb, hc⟩ := hck (by omega)
                have hc1 := hc k3 hlt3
                have HS : Hid ((ks.drop q).take (k3 + 1 - q) = (ks.drop q).take (k3 - q) ++ [ks[k3]]) := cut_snoc ks q k3 hqk3 hlt3
                have hm := tot_mem (List.getElem_mem hlt3)
                clear hc hck
                generalize ks[k3] = r at *
                go_wp2_with fail
                refine (partsField_any wA.heap.size bB fB vB .nilFunc nB _ _ i1 i2 i3 i4 r wr hBw (by omega)).mono ?_
                rintro e wn ⟨rfl, ⟨v2, n2, hW2⟩, hbn⟩
                go_wp2
                go_roundg (ks.length - (k3 + 1))
                case measure => omega
                case rel =>
                  refine ⟨k3 + 1, n2, v2, by omega, by omega, rfl, by go_num, ?_, hbB.trans hbn⟩
                  rw [HS.out, wrt_snoc, flag_snoc]
                  exact hW2
              · obtain rfl : k3 = ks.length := by omega
                rw [List.take_of_length_le (by simp)] at hBw
                obtain ⟨wB, hwB⟩ : ∃ wB, wB = wr := ⟨wr, rfl⟩
                subst hwB
                have hkB := (hkA.below hbB).mono hbB.size
                have hvB := (hvA.below hbB).mono hbB.size
                have hAB := hA.below hbB
                clear hA hvA hkA
                go_wp2_with fail
                refine (clone_any (.slice a zs.length c) zs wB hvB (by omega)).mono ?_
                rintro e w1 ⟨a1, c1, rfl, hown1, hb1⟩
                go_wp2_with fail
                refine (newParts_any a1 zs.length c1 i1 i2 i3 i4 w1).mono ?_
                rintro e w3 ⟨rfl, hw3⟩
                subst hw3
                go_upto_region 30 with fail
                have hWr := Wr.new hown1 hb1.size m i1 i2 i3 i4
                have hb3 : Below wB.heap.size wB ((w1.alloc (.cells #[.slice a1 zs.length c1, .int .i64 i1, .int .i64 i2, .int .i64 i3, .int .i64 i4, .nilFunc] 61)).alloc (.cells #[.bool m] 4)) := (hb1.alloc hb1.size _).alloc (by have := hb1.size; simp; omega) _
                generalize ((w1.alloc (.cells #[.slice a1 zs.length c1, .int .i64 i1, .int .i64 i2, .int .i64 i3, .int .i64 i4, .nilFunc] 61)).alloc (.cells #[.bool m] 4)) = w4 at *
                generalize w1.heap.size + 1 = fC at *
                generalize w1.heap.size = bC at *
                clear hown1 hb1
                clear w1
                go_wp2_with fail
                go_loopg [27] ks.length (fun gg i wr => ∃ (k n' : Nat) (v' : Value), k ≤ ks.length ∧ gg = ks.length - k ∧ i = .int .i64 k ∧ Wr wr wB.heap.size bC fC v' .nilFunc n' (zs ++ wrt m (ks.take k)) (flag m (ks.take k)) i1 i2 i3 i4 ∧ Below wB.heap.size wB wr)
                case atStart => exact ⟨0, _, _, Nat.zero_le _, rfl, rfl, by simpa [wrt, flag] using hWr, hb3⟩
                case round =>
                  clear hWr hb3
                  clear w4
                  obtain ⟨k4, nC, vC, hkk4, rfl, rfl, hC, hbC⟩ := hrel
                  have hnC := hC.own.len
                  rw [List.length_append] at hnC
                  have := wrt_length_le (ks.take k4) m
                  have := tot_take_le ks k4
                  by_cases hlt4 : k4 < ks.length
                  · obtain ⟨ak', ck', e1, hck⟩ := id (hkB.below hbC)
                    cases e1
                    obtain ⟨b, off, rfl, hb, hc⟩ := hck (by omega)
                    have hc1 := hc k4 hlt4
                    have HS : Hid (ks.take (k4 + 1) = ks.take k4 ++ [ks[k4]]) := List.take_succ_eq_append_getElem hlt4
                    have hm := tot_mem (List.getElem_mem hlt4)
                    clear hc hck
                    generalize ks[k4] = r at *
                    go_wp2_with fail
                    refine (partsField_any wB.heap.size bC fC vC .nilFunc nC _ _ i1 i2 i3 i4 r wr hC (by omega)).mono ?_
                    rintro e wn ⟨rfl, ⟨v2, n2, hW2⟩, hbn⟩
                    go_wp2
                    go_roundg (ks.length - (k4 + 1))
                    case measure => omega
                    case rel =>
                      refine ⟨k4 + 1, n2, v2, by omega, rfl, by go_num, ?_, hbC.trans hbn⟩
                      rw [HS.out, wrt_snoc, flag_snoc, ← List.append_assoc]
                      exact hW2
                  · obtain rfl : k4 = ks.length := by omega
                    rw [List.take_of_length_le (Nat.le_refl _)] at hC
                    obtain ⟨wC, hwC⟩ : ∃ wC, wC = wr := ⟨wr, rfl⟩
                    subst hwC
                    have hAC := hAB.below hbC
                    have hBC := hBw.below hbC
                    have hkC := hkB.below hbC
                    clear hAB hBw hvB hkB
                    obtain ⟨aA, cA, hvA⟩ := hAC.own.shape
                    obtain ⟨aB, cB, hvB⟩ := hBC.own.shape
                    obtain ⟨aC, cC, hvC⟩ := hC.own.shape
                    subst hvA hvB hvC
                    go_wp2_with fail
                    refine (partsJS_any w.heap.size bA fA _ .nilFunc nA _ _ i1 i2 i3 i4 wC hAC).mono ?_
                    rintro e w5 ⟨rfl, hw5⟩
                    have hw5' := hw5.symm
                    subst hw5'
                    clear hw5
                    go_wp2_with fail
                    refine (partsJS_any wA.heap.size bB fB _ .nilFunc nB _ _ i1 i2 i3 i4 wC hBC).mono ?_
                    rintro e w5 ⟨rfl, hw5⟩
                    have hw5' := hw5.symm
                    subst hw5'
                    clear hw5
                    go_wp2_with fail
                    refine (partsJS_any wB.heap.size bC fC _ .nilFunc nC _ _ i1 i2 i3 i4 wC hC).mono ?_
                    rintro e w5 ⟨rfl, hw5⟩
                    have hw5' := hw5.symm
                    subst hw5'
                    clear hw5
                    have eJ : zs ++ wrt m ks = (zs ++ wrt m (ks.take q)) ++ wrt fl (ks.drop q) := by
                      have := wrt_append (ks.take q) (ks.drop q) m
                      rw [List.take_append_drop, hfl] at this
                      rw [this, List.append_assoc]
                    have eF : flag m ks = flag fl (ks.drop q) := by
                      have h1 := flag_append m (ks.take q) (ks.drop q)
                      rwa [List.take_append_drop, hfl] at h1
                    have lA := hAC.own.len
                    have lB := hBC.own.len
                    have lC := hC.own.len
                    have lS : nC = nA + nB := by rw [← lC, eJ, List.length_append, lA, lB]
                    have iA := hAC.own.isB
                    have iB := hBC.own.isB
                    have iC := hC.own.isB
                    have fgB := hBC.cells.2.1
                    have fgC := hC.cells.2.1
                    have hown := hC.own
                    rw [eJ] at iC
                    have hbw : Below w.heap.size w wC := (hbA.trans (hbB.mono hbA.size)).trans (hbC.mono (Nat.le_trans hbA.size hbB.size))
                    have hkw : IsS wC wC.heap.size (.slice ak ks.length ck) ks := hkC.mono hbC.size
                    have hnC' : nC ≤ 2097152 := by have := wrt_length_le ks m; rw [← lC, List.length_append]; omega
                    clear hAC hBC hC hbA hbB hbC hkC hv hk
                    go_upto_region 37 with fail
                    go_upto_region 39 with fail
                    go_cut [163] (fun x wc => x = .bool false ∧ Below wC.heap.size wC wc)
                    case first =>
                      rcases hown.2 with ⟨h1, h2⟩ | ⟨g, cap, cur, h1, _, _, h2, h3, _, _⟩
                      · cases h1
                        obtain ⟨rfl, rfl⟩ : nA = 0 ∧ nB = 0 := by omega
                        have eA := List.eq_nil_of_length_eq_zero lA
                        have eB := List.eq_nil_of_length_eq_zero lB
                        rw [eA, eB] at iC
                        rw [eA] at iA
                        rw [eB] at iB
                        clear eA eB lA lB lC lS eJ eF hown h2 hnC'
                        go_wp2_with fail
                        refine (same_any (.slice none 0 0) (.slice aA 0 cA) [] wC iC iA (by simp)).mono ?_
                        rintro e w5 ⟨rfl, hb5⟩
                        go_wp2_with fail
                        refine (same_any (.slice none 0 0) (.slice aB 0 cB) [] w5 ((iC.below hb5).mono hb5.size) ((iB.below hb5).mono hb5.size) (by simp)).mono ?_
                        rintro e w6 ⟨rfl, hb6⟩
                        go_wp2
                        go_meet
                        case rel => exact ⟨rfl, hb5.trans (hb6.mono hb5.size)⟩
                      · cases h1
                        go_wp2_with fail
                        refine (same_any (.slice (some ⟨g, 0, none⟩) nA cC) (.slice aA nA cA) _ wC (lA ▸ iC.pre) iA (by omega)).mono ?_
                        rintro e w5 ⟨rfl, hb5⟩
                        have iC5 := (iC.below hb5).mono hb5.size
                        have iB5 := (iB.below hb5).mono hb5.size
                        by_cases hcap : nA = cC
                        · have hB0 : nB = 0 := by omega
                          have i5 : IsB w5 w5.heap.size (.slice (some ⟨g, 0, none⟩) nB 0) (wrt fl (ks.drop q)) := lB ▸ iC5.suf (fun hp => absurd hp (by omega))
                          clear hB0
                          subst hcap
                          go_wp2_with fail
                          refine (same_any (.slice (some ⟨g, 0, none⟩) nB 0) (.slice aB nB cB) _ w5 i5 iB5 (by omega)).mono ?_
                          rintro e w6 ⟨rfl, hb6⟩
                          go_wp2
                          go_meet
                          case rel => exact ⟨rfl, hb5.trans (hb6.mono hb5.size)⟩
                        · have i5 : IsB w5 w5.heap.size (.slice (some ⟨g, nA, none⟩) nB (cC - nA)) (wrt fl (ks.drop q)) := lB ▸ iC5.suf (fun hp => by rw [lA, Nat.zero_add])
                          go_wp2_with fail
                          refine (same_any (.slice (some ⟨g, nA, none⟩) nB (cC - nA)) (.slice aB nB cB) _ w5 i5 iB5 (by omega)).mono ?_
                          rintro e w6 ⟨rfl, hb6⟩
                          go_wp2
                          go_meet
                          case rel => exact ⟨rfl, hb5.trans (hb6.mono hb5.size)⟩
                    case rest =>
                      obtain ⟨rfl, hb5⟩ := hcut
                      have hb5' := hbw.trans (hb5.mono hbw.size)
                      have gB := (hb5.cell (p := ⟨fB, 0, none⟩) (World.block_lt_of_cell? wC _ fgB)).trans fgB
                      have gC := (hb5.cell (p := ⟨fC, 0, none⟩) (World.block_lt_of_cell? wC _ fgC)).trans fgC
                      rw [eF] at gC
                      have hk5 := hkw.below hb5
                      generalize flag fl (ks.drop q) = fx at *
                      clear hown iA iB iC fgB fgC eF hkw
                      have LC : Hid ((zs ++ wrt m ks).length = nC) := lC
                      have LS : Hid (nC = nA + nB) := lS
                      clear lA lB lC lS eJ
                      go_wp2_with fail
                      go_loop [31, 32] (fun z i => ∃ k t : Nat, k ≤ ks.length ∧ i = .int .i64 k ∧ z = .int .i64 t ∧ t = zs.length + lw (ks.take k)) (fun _ i => ks.length - (intOf i).toNat)
                      case atStart => exact ⟨0, zs.length, Nat.zero_le _, rfl, rfl, by simp [lw]⟩
                      case round =>
                        obtain ⟨k6, t6, hkk6, rfl, rfl, ht6⟩ := hrel
                        have HT : Hid (t6 = zs.length + lw (ks.take k6)) := ht6
                        have ht6' : t6 ≤ 1048576 := by
                          have := lw_le (ks.take k6)
                          have := tot_take_le ks k6
                          omega
                        clear ht6
                        by_cases hlt6 : k6 < ks.length
                        · obtain ⟨ak', ck', e1, hck⟩ := id hk5
                          cases e1
                          obtain ⟨b, off, rfl, hb, hc⟩ := hck (by omega)
                          have hc1 := hc k6 hlt6
                          have hs := HK.out _ (List.getElem_mem hlt6)
                          have HS : Hid (ks.take (k6 + 1) = ks.take k6 ++ [ks[k6]]) := List.take_succ_eq_append_getElem hlt6
                          clear hc hck
                          generalize ks[k6] = r at *
                          go_wp2
                          go_round
                          case rel =>
                            refine ⟨k6 + 1, t6 + (r.size + 3), by omega, by go_num, by go_num, ?_⟩
                            rw [HS.out, lw_snoc, HT.out]; omega
                          case measure => simp [intOf]; omega
                        · have hT : t6 = zs.length + lw ks := by
                            have := HT.out
                            rwa [List.take_of_length_le (by omega)] at this
                          have hL := LC.out
                          rw [List.length_append] at hL
                          have hwl := wrt_len ks m
                          clear HT LC
                          generalize (wrt m ks).length = L at *
                          generalize lw ks = M at *
                          have HW : Hid ((ks.length = 0 → L = M) ∧ (0 < ks.length → L + 1 = M + ks.length + (if m then 1 else 0))) := hwl
                          have HL : Hid (zs.length + L = nC ∧ t6 = zs.length + M) := ⟨hL, hT⟩
                          clear hwl hL hT
                          by_cases hN0 : 0 < ks.length
                          · have hW := HW.out.2 hN0
                            have hL := HL.out
                            clear HW HL
                            cases m
                            · have hfin : nC = t6 + (ks.length - 1) := by simp at hW; omega
                              clear hW hL
                              go_wp2
                              go_ret
                              have hS := LS.out
                              have e : ((nA : Int) + (nB : Int) == (t6 : Int) + ((ks.length : Int) - 1)) = true := by simp only [beq_iff_eq]; omega
                              exact ⟨congrArg (fun b => Ending.returned (.bool b)) e, hb5'⟩
                            · have hfin : nC = t6 + (ks.length - 1) + 1 := by simp at hW; omega
                              clear hW hL
                              go_wp2
                              go_ret
                              have hS := LS.out
                              have e : ((nA : Int) + (nB : Int) == (t6 : Int) + ((ks.length : Int) - 1) + 1) = true := by simp only [beq_iff_eq]; omega
                              exact ⟨congrArg (fun b => Ending.returned (.bool b)) e, hb5'⟩
                          · have hW := HW.out.1 (by omega)
                            have hL := HL.out
                            clear HW HL
                            have hfin : nC = t6 := by omega
                            clear hW hL
                            go_wp2
                            go_ret
                            have hS := LS.out
                            have e : ((nA : Int) + (nB : Int) == (t6 : Int)) = true := by simp only [beq_iff_eq]; omega
                            exact ⟨congrArg (fun b => Ending.returned (.bool b)) e, hb5'⟩
  all_goals
    go_ret
    exact ⟨rfl, Below.refl _ _⟩

end Go.Proofs.Qxb6608813aMods
