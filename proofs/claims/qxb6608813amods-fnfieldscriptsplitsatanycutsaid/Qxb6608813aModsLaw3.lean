/- FnFieldScriptWritesCommaSeparatedMembers. -/
import Derived.Test.Qxb6608813aModsBytes
namespace Go.Proofs.Qxb6608813aMods
open Go.RowKit

theorem IsS.mono {w : World} {B B' : Nat} {v : Value} {ks : List ByteArray} (h : IsS w B v ks) (hb : B ≤ B') : IsS w B' v ks := by
  obtain ⟨a, c, rfl, h⟩ := h
  refine ⟨a, c, rfl, fun hp => ?_⟩
  obtain ⟨b, off, rfl, hlt, hc⟩ := h hp
  exact ⟨b, off, rfl, by omega, hc⟩

theorem Wr.new {W : World} {base : Nat} {v : Value} {n : Nat} {zs : List Int} (h : Own W base v n zs) (hB : base ≤ W.heap.size) (m : Bool) (i1 i2 i3 i4 : Int) :
    Wr ((W.alloc (.cells #[v, .int .i64 i1, .int .i64 i2, .int .i64 i3, .int .i64 i4, .nilFunc] 61)).alloc (.cells #[.bool m] 4)) base W.heap.size (W.heap.size + 1) v .nilFunc n zs m i1 i2 i3 i4 := by
  refine ⟨?_, ?_, (h.alloc _).alloc _, hB, by omega, by simp; omega⟩
  · rw [Below.heap_alloc _ _ _ (by simp)]; exact heap_alloc_new W _
  · have := heap_alloc_new (W.alloc (.cells #[v, .int .i64 i1, .int .i64 i2, .int .i64 i3, .int .i64 i4, .nilFunc] 61)) (.cells #[.bool m] 4)
    rwa [show (W.alloc (.cells #[v, .int .i64 i1, .int .i64 i2, .int .i64 i3, .int .i64 i4, .nilFunc] 61)).heap.size = W.heap.size + 1 by simp] at this

set_option maxHeartbeats 2000000 in
set_option maxRecDepth 100000 in
theorem law3 (v vk : Value) (zs : List Int) (ks : List ByteArray) (i1 i2 i3 i4 : Int) (m : Bool) (w : World) (hv : IsB w w.heap.size v zs) (hk : IsS w w.heap.size vk ks) (hn : zs.length ≤ maxLen) (hkl : ks.length ≤ maxLen) (hks : ∀ k ∈ ks, k.size ≤ maxLen) :
    Calls Trym.prog 3 #[v, .int .i64 i1, .int .i64 i2, .int .i64 i3, .int .i64 i4, .bool m, vk] w fun e w' => e = .returned (.bool true) ∧ Below w.heap.size w w' := by
  obtain ⟨a, c, hv0, _⟩ := id hv
  obtain ⟨ak, ck, hk0, _⟩ := id hk
  subst hv0 hk0
  have HB := bytes7 a zs.length c (.slice ak ks.length ck) ks i1 i2 i3 i4 m w w.heap.size hk hn hkl hks
  unfold maxLen at hn hkl
  clear hks
  go_enter Trym.func3, Trym.ntmps3
  go_wp2_with fail
  refine HB.mono ?_
  rintro e w' ⟨⟨ok, rfl, hok⟩, hw'⟩
  have hw2 := hw'.symm
  subst hw2
  clear hw' HB
  cases ok
  · go_wp2
    go_ret
    exact ⟨rfl, Below.refl _ _⟩
  have HK : Hid (∀ k ∈ ks, k.size ≤ 1048576) := hok rfl
  clear hok
  go_wp2_with fail
  rotate_right 1
  · go_loop [15, 16] (fun z i => ∃ k t : Nat, k ≤ ks.length ∧ i = .int .i64 k ∧ z = .int .i64 t ∧ t = zs.length + tot (ks.take k) ∧ t ≤ 1048576) (fun _ i => ks.length - (intOf i).toNat)
    case atStart => exact ⟨0, zs.length, Nat.zero_le _, rfl, rfl, by simp [tot], by omega⟩
    case round =>
      obtain ⟨k, t, hkk, rfl, rfl, ht, ht'⟩ := hrel
      have HT : Hid (t = zs.length + tot (ks.take k)) := ht
      clear ht
      by_cases hlt : k < ks.length
      · obtain ⟨ak', ck', e1, hck⟩ := id hk
        cases e1
        obtain ⟨b, off, rfl, hb, hc⟩ := hck (by omega)
        have hc1 := hc k hlt
        have hs := HK.out _ (List.getElem_mem hlt)
        have HS : Hid (ks.take (k + 1) = ks.take k ++ [ks[k]]) := List.take_succ_eq_append_getElem hlt
        clear hc hck
        generalize ks[k] = r at *
        go_wp2
        · go_ret
          exact ⟨rfl, Below.refl _ _⟩
        · go_round
          case rel =>
            refine ⟨k + 1, t + (16 + r.size), by omega, by go_num, by go_num, ?_, by omega⟩
            rw [HS.out, tot_snoc, HT.out]; omega
          case measure => simp [intOf]; omega
      · have htot : zs.length + tot ks ≤ 1048576 := by
          have := HT.out
          rw [List.take_of_length_le (by omega)] at this
          omega
        clear HT
        go_wp2_with fail
        refine (clone_any (.slice a zs.length c) zs w hv (by omega)).mono ?_
        rintro e w1 ⟨a1, c1, rfl, hown1, hb1⟩
        go_wp2_with fail
        refine (clone_any (.slice a zs.length c) zs w1 ((hv.below hb1).mono hb1.size) (by omega)).mono ?_
        rintro e w2 ⟨a2, c2, rfl, hown2, hb2⟩
        go_wp2_with fail
        refine (newParts_any a2 zs.length c2 i1 i2 i3 i4 w2).mono ?_
        rintro e w3 ⟨rfl, hw3⟩
        subst hw3
        go_upto_region 18 with fail
        have hWr := Wr.new hown2 hb2.size m i1 i2 i3 i4
        have hb3 : Below w1.heap.size w1 ((w2.alloc (.cells #[.slice a2 zs.length c2, .int .i64 i1, .int .i64 i2, .int .i64 i3, .int .i64 i4, .nilFunc] 61)).alloc (.cells #[.bool m] 4)) := (hb2.alloc hb2.size _).alloc (by have := hb2.size; simp; omega) _
        generalize ((w2.alloc (.cells #[.slice a2 zs.length c2, .int .i64 i1, .int .i64 i2, .int .i64 i3, .int .i64 i4, .nilFunc] 61)).alloc (.cells #[.bool m] 4)) = w4 at *
        generalize w2.heap.size + 1 = bm at *
        generalize w2.heap.size = bw at *
        have hk1 := (hk.below hb1)
        have ho1 := hown1.isB
        clear hown1 hown2 hb2 hv
        clear w2
        have hk2 : IsS w1 w1.heap.size (.slice ak ks.length ck) ks := hk1.mono hb1.size
        clear hk hk1
        go_wp2_with fail
        go_loopg [20] ks.length (fun gg i wr => ∃ (k n' : Nat) (v' : Value), k ≤ ks.length ∧ gg = ks.length - k ∧ i = .int .i64 k ∧ Wr wr w1.heap.size bw bm v' .nilFunc n' (zs ++ wrt m (ks.take k)) (flag m (ks.take k)) i1 i2 i3 i4 ∧ Below w1.heap.size w1 wr)
        case atStart => exact ⟨0, _, _, Nat.zero_le _, rfl, rfl, by simpa [wrt, flag] using hWr, hb3⟩
        case round =>
          clear hWr hb3
          clear w4
          obtain ⟨k2, n', v', hkk2, rfl, rfl, hW', hbw⟩ := hrel
          have hn' := hW'.own.len
          rw [List.length_append] at hn'
          have := wrt_length_le (ks.take k2) m
          have := tot_take_le ks k2
          by_cases hlt2 : k2 < ks.length
          · obtain ⟨ak', ck', e1, hck⟩ := id (hk2.below hbw)
            cases e1
            obtain ⟨b, off, rfl, hb, hc⟩ := hck (by omega)
            have hc1 := hc k2 hlt2
            have HS : Hid (ks.take (k2 + 1) = ks.take k2 ++ [ks[k2]]) := List.take_succ_eq_append_getElem hlt2
            have hm := tot_mem (List.getElem_mem hlt2)
            clear hc hck
            generalize ks[k2] = r at *
            go_wp2_with fail
            refine (partsField_any w1.heap.size bw bm v' .nilFunc n' _ _ i1 i2 i3 i4 r wr hW' (by omega)).mono ?_
            rintro e wn ⟨rfl, ⟨v2, n2, hW2⟩, hbn⟩
            go_wp2
            go_roundg (ks.length - (k2 + 1))
            case measure => omega
            case rel =>
              refine ⟨k2 + 1, n2, v2, by omega, rfl, by go_num, ?_, hbw.trans hbn⟩
              rw [HS.out, wrt_snoc, flag_snoc, ← List.append_assoc]
              exact hW2
          · rw [List.take_of_length_le (by omega)] at hW'
            go_wp2_with fail
            refine (partsJS_any w1.heap.size bw bm v' .nilFunc n' _ _ i1 i2 i3 i4 wr hW').mono ?_
            rintro e w5 ⟨rfl, hw5⟩
            have hw5' := hw5.symm
            subst hw5'
            clear hw5
            obtain ⟨av, cv, hv'⟩ := hW'.own.shape
            subst hv'
            go_wp2_with fail
            refine (clone_any (.slice a1 zs.length c1) zs wr ((ho1.below hbw).mono hbw.size) (by omega)).mono ?_
            rintro e w6 ⟨a6, c6, rfl, hown6, hb6⟩
            have hk6 : IsS w6 wr.heap.size (.slice ak ks.length ck) ks := ((hk2.below hbw).mono hbw.size).below hb6
            have hW6 := hW'.below hb6
            go_upto_if 89 with fail
            go_cut [22] (fun x wc => ∃ (a7 : Option Addr) (n7 c7 : Nat), x = .slice a7 n7 c7 ∧ Own wc wr.heap.size (.slice a7 n7 c7) n7 (zs ++ wrt m ks) ∧ Below wr.heap.size wr wc)
            case first =>
              cases ks with
              | nil =>
                go_wp2
                go_meet
                case rel => exact ⟨_, _, _, rfl, by simpa [wrt] using hown6, hb6⟩
              | cons k0 kt =>
                have hpos : 0 < (k0 :: kt).length := by simp
                generalize hks : k0 :: kt = ks' at *
                cases m
                · go_wp2_with fail
                  refine (members_any (.slice a6 zs.length c6) (.slice ak ks'.length ck) zs.length zs ks' wr.heap.size w6 hown6 hb6.size hk6 (by omega) (by omega)).mono ?_
                  rintro e w7 ⟨a7, n7, c7, rfl, hown7, hb7⟩
                  go_wp2
                  go_meet
                  case rel => exact ⟨_, _, _, rfl, hown7, hb6.trans hb7⟩
                · go_wp2_with (at_builtin; refine wpList_append_b rfl _ _ rfl wr.heap.size (.slice a6 zs.length c6) zs.length zs rfl (hown6.alloc _) ⟨w6.heap.size, 0, none⟩ 1 1 [44] rfl rfl (new1 w6 44) (by omega) (by have := hb6.size; simp; omega) ?_; intro A1 D1 wA hownA hgA; have hbA : Below wr.heap.size wr wA := (hb6.alloc hb6.size _).grown hgA (by have := hb6.size; simp; omega) (fun k hk => (hown6.lt k hk).1); have hbA' : Below wr.heap.size w6 wA := ((Below.refl _ w6).alloc hb6.size _).grown hgA (by have := hb6.size; simp; omega) (fun k hk => (hown6.lt k hk).1); clear hgA)
                  refine (members_any (.slice A1 (zs.length + 1) D1) (.slice ak ks'.length ck) (zs.length + 1) (zs ++ [44]) ks' wr.heap.size wA hownA hbA.size (hk6.below hbA') (by omega) (by omega)).mono ?_
                  rintro e w7 ⟨a7, n7, c7, rfl, hown7, hb7⟩
                  go_wp2
                  go_meet
                  case rel =>
                    refine ⟨_, _, _, rfl, ?_, hbA.trans hb7⟩
                    rw [wrt_true (by intro e; rw [e] at hpos; cases hpos)]
                    simpa using hown7
            case rest =>
              obtain ⟨a7, n7, c7, rfl, hown7, hb7⟩ := hcut
              have hW7 := hW'.below hb7
              have hg7 := hW7.own.isB
              have ho7 := hown7.isB
              clear hW' hW6 hk6 hb6 hown6
              clear w6
              go_wp2_with fail
              refine (same_any (.slice av n' cv) (.slice a7 n7 c7) (zs ++ wrt m ks) wc hg7 ho7 (by have := wrt_length_le ks m; rw [List.length_append]; omega)).mono ?_
              rintro e w8 ⟨rfl, hb8⟩
              have hW8 := hW7.below hb8
              have hb8' : Below w.heap.size w w8 := ((hb1.trans (hbw.mono hb1.size)).trans (hb7.mono (Nat.le_trans hb1.size hbw.size))).trans (hb8.mono (Nat.le_trans (Nat.le_trans hb1.size hbw.size) hb7.size))
              obtain ⟨_, g2, _, _⟩ := hW8.cells
              clear hown7 hW7 hg7 ho7 ho1 hk2
              cases m
              · by_cases hpos : 0 < ks.length
                · have hf : flag false ks = true := by
                    have : ks ≠ [] := by intro e; rw [e] at hpos; cases hpos
                    simp [flag, this]
                  rw [hf] at g2
                  go_wp2_with fail
                  refine (partsInts_any w1.heap.size bw bm (.slice av n' cv) .nilFunc n' _ _ i1 i2 i3 i4 w8 hW8).mono ?_
                  rintro e w9 ⟨rfl, hb9⟩
                  go_wp2
                  go_ret
                  exact ⟨rfl, hb8'.trans (hb9.mono (Nat.le_trans (Nat.le_trans (Nat.le_trans hb1.size hbw.size) hb7.size) hb8.size))⟩
                · have h0 : ks = [] := List.eq_nil_of_length_eq_zero (by omega)
                  have hf : flag false ks = false := by simp [flag, h0]
                  rw [hf] at g2
                  go_wp2_with fail
                  refine (partsInts_any w1.heap.size bw bm (.slice av n' cv) .nilFunc n' _ _ i1 i2 i3 i4 w8 hW8).mono ?_
                  rintro e w9 ⟨rfl, hb9⟩
                  go_wp2
                  go_ret
                  exact ⟨rfl, hb8'.trans (hb9.mono (Nat.le_trans (Nat.le_trans (Nat.le_trans hb1.size hbw.size) hb7.size) hb8.size))⟩
              · have hf : flag true ks = true := by simp [flag]
                rw [hf] at g2
                go_wp2_with fail
                refine (partsInts_any w1.heap.size bw bm (.slice av n' cv) .nilFunc n' _ _ i1 i2 i3 i4 w8 hW8).mono ?_
                rintro e w9 ⟨rfl, hb9⟩
                go_wp2
                go_ret
                exact ⟨rfl, hb8'.trans (hb9.mono (Nat.le_trans (Nat.le_trans (Nat.le_trans hb1.size hbw.size) hb7.size) hb8.size))⟩
  all_goals
    go_ret
    exact ⟨rfl, Below.refl _ _⟩

end Go.Proofs.Qxb6608813aMods
