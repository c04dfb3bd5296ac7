/- Slices of strings of the call's own; zzHasString; (*View).Contenders. -/
import Derived.Test.Qxb6608675aModsServe
namespace Go.Proofs.Qxb6608675aMods
open Go.RowKit Go.Maps

/-- v is a slice of the strings cs. -/
def IsStrs (w : World) (v : Value) (cs : List ByteArray) : Prop := ∃ base, w.ownsRow base 9 1 v cs.length (cs.map Value.string)

theorem IsStrs.shape {w : World} {v : Value} {cs : List ByteArray} (h : IsStrs w v cs) :
    (v = .slice none 0 0 ∧ cs = []) ∨ ∃ g cap, v = .slice (some ⟨g, 0, none⟩) cs.length cap ∧ g < w.heap.size ∧ ∀ k (hk : k < cs.length), w.cell? ⟨g, k, none⟩ = some (.string cs[k]) := by
  obtain ⟨base, ho⟩ := h
  have hc := fun g => ho.cells (g := g)
  rcases ho.2 with ⟨rfl, h0⟩ | ⟨g, cap, cur, rfl, _, hh, _⟩
  · exact .inl ⟨rfl, List.eq_nil_of_length_eq_zero h0⟩
  · refine .inr ⟨g, cap, rfl, (Array.getElem?_eq_some_iff.1 hh).1, fun k hk => ?_⟩
    have := hc g rfl k (.string cs[k]) (by simp [hk])
    rwa [show (⟨g, 0, none⟩ : Addr).add k = ⟨g, k, none⟩ from by unfold Addr.add; split <;> simp_all] at this

theorem IsStrs.below {w w' : World} {v : Value} {cs : List ByteArray} (h : IsStrs w v cs) (hb : Below w.heap.size w w') : IsStrs w' v cs := by
  obtain ⟨base, h1, h2⟩ := h
  refine ⟨base, h1, ?_⟩
  rcases h2 with hn | ⟨g, cap, cur, rfl, hbb, hgg, rest⟩
  · exact .inl hn
  · exact .inr ⟨g, cap, cur, rfl, hbb, by rw [hb.block g (Array.getElem?_eq_some_iff.1 hgg).1]; exact hgg, rest⟩

/-- The call has returned a bool that tells p. -/
def Ret (e : Ending) (p : Prop) : Prop := ∃ b : Bool, e = .returned (.bool b) ∧ (b = true ↔ p)
theorem Ret.t {p : Prop} (h : p) : Ret (.returned (.bool true)) p := ⟨true, rfl, ⟨fun _ => h, fun _ => rfl⟩⟩
theorem Ret.f {p : Prop} (h : ¬ p) : Ret (.returned (.bool false)) p := ⟨false, rfl, ⟨fun h => (by cases h), fun h' => absurd h' h⟩⟩

set_option maxHeartbeats 400000 in
theorem hasString_any (v : Value) (cs : List ByteArray) (x : ByteArray) (w : World) (hv : IsStrs w v cs) (hl : cs.length ≤ 1048576) :
    Calls Trym.prog 16 #[v, .string x] w fun e w' => Ret e (x ∈ cs) ∧ w' = w := by
  rcases hv.shape with ⟨rfl, rfl⟩ | ⟨g, cap, rfl, _, hcell⟩
  · go_enter Trym.func16, Trym.ntmps16
    go_wp2
    refine wp_loop_rounds 1 ?_
    rw [rounds_succ]
    go_wp2
    go_ret
    exact ⟨Ret.f (by simp), rfl⟩
  · clear hv
    go_enter Trym.func16, Trym.ntmps16
    go_wp2
    go_loop [5] (fun i => ∃ k : Nat, k ≤ cs.length ∧ i = .int .i64 k ∧ ∀ c ∈ cs.take k, c ≠ x) (fun i => cs.length - (intOf i).toNat)
    case atStart => exact ⟨0, Nat.zero_le _, rfl, by simp⟩
    case round =>
      obtain ⟨k, hk, rfl, hno⟩ := hrel
      have HN : Hid (∀ c ∈ cs.take k, c ≠ x) := hno
      clear hno
      by_cases hlt : k < cs.length
      · have hc := hcell k hlt
        clear hcell
        have hsn : cs.take (k + 1) = cs.take k ++ [cs[k]] := List.take_succ_eq_append_getElem hlt
        have HS : Hid (cs.take (k + 1) = cs.take k ++ [cs[k]]) := hsn
        clear hsn
        have HM : Hid (cs[k] ∈ cs) := List.getElem_mem hlt
        generalize cs[k] = c at *
        go_wp2
        · go_ret
          have he : c.toList = x.toList := by simpa using (by assumption : (c.toList == x.toList) = true)
          refine ⟨Ret.t ?_, rfl⟩
          rw [← eq_of_toList he]; exact HM.out
        · go_round
          case rel =>
            have he : ¬ c.toList = x.toList := by simpa using (by assumption : (c.toList == x.toList) = false)
            refine ⟨k + 1, by omega, by go_num, ?_⟩
            rw [HS.out]
            intro d hd
            rcases List.mem_append.1 hd with h | h
            · exact HN.out d h
            · rw [List.mem_singleton] at h
              subst h
              exact fun e => he (by rw [e])
          case measure => simp [intOf]; omega
      · go_wp2
        go_ret
        refine ⟨Ret.f fun h => ?_, rfl⟩
        have := HN.out x (by rw [List.take_of_length_le (by omega)]; exact h)
        exact absurd rfl this


/-- The copy is a contender. -/
def Cont (S : PS) (c : ByteArray) : Prop := liveB S c = true ∧ InS S.terms c ∧ (stateB S c = downS ∨ stateB S c = activeS)

theorem info9 : (Trym.prog.info? 9).map (fun i => (i.zero, i.size, i.bytes)) = some (some (.string ⟨#[]⟩), 1, 16) := by kernel_rfl

theorem shape_of {w : World} {base : Nat} {v : Value} {n : Nat} {xs : List Value} (h : w.ownsRow base 9 1 v n xs) : ∃ a c, v = .slice a n c := by
  rcases h.2 with ⟨rfl, rfl⟩ | ⟨g, cap, cur, rfl, _⟩
  · exact ⟨none, 0, rfl⟩
  · exact ⟨_, cap, rfl⟩

set_option maxHeartbeats 1000000 in
set_option maxRecDepth 100000 in
theorem contenders_any (bv bs n : Nat) (S : PS) (cp : Value) (cs : List ByteArray) (w : World) (hV : Vw w bv bs n S cp) (hv : IsStrs w cp cs) (hl : cs.length ≤ 1048576) (hs : ∀ c ∈ cs, c.size ≤ maxLen) :
    Calls Trym.prog 27 #[.pointer (some ⟨bv, 0, none⟩), .pointer (some ⟨bs, 0, none⟩)] w fun e w' => ∃ v ns, e = .returned v ∧ IsStrs w' v ns ∧ ns.length ≤ cs.length ∧ (∀ c, c ∈ ns ↔ c ∈ cs ∧ Cont S c) ∧ Below w.heap.size w w' := by
  obtain ⟨i0, hi, hz0, hz1, hz2⟩ := info_parts info9
  have hV0 := hV
  obtain ⟨m1, m2, m3, m4, m5, c1, c2, c3, c4, c5, c6, h1, h2, h3, h4, h5⟩ := hV0
  clear m1 m2 m3 m4 m5 c1 c2 c3 c4 c5 h1 h2 h3 h4 h5
  have HV : Hid (Vw w bv bs n S cp) := hV
  clear hV
  rcases hv.shape with ⟨rfl, rfl⟩ | ⟨g, cap, rfl, hg, hcell⟩
  · go_enter Trym.func27, Trym.ntmps27
    go_wp2
    refine wp_loop_rounds 1 ?_
    rw [rounds_succ]
    go_wp2
    go_ret
    exact ⟨_, [], rfl, ⟨0, World.ownsRow_nil _ _ _ _⟩, Nat.le_refl _, by simp, Below.refl _ _⟩
  · have HV2 : Hid (IsStrs w (.slice (some ⟨g, 0, none⟩) cs.length cap) cs) := hv
    clear hv
    go_enter Trym.func27, Trym.ntmps27
    go_wp2
    go_loopw [5, 7, 13] (fun v _ i wr => ∃ (k : Nat) (ns : List ByteArray), k ≤ cs.length ∧ i = .int .i64 k ∧ wr.ownsRow w.heap.size 9 1 v ns.length (ns.map Value.string) ∧ ns.length ≤ k ∧ (∀ c, c ∈ ns ↔ c ∈ cs.take k ∧ Cont S c) ∧ Below w.heap.size w wr) (fun _ _ i _ => cs.length - (intOf i).toNat)
    case atStart => exact ⟨0, [], Nat.zero_le _, rfl, World.ownsRow_nil _ _ _ _, Nat.le_refl _, by simp, Below.refl _ _⟩
    case round =>
      obtain ⟨k, ns, hk, rfl, hown, hnl, hin, hbw⟩ := hrel
      have HIN : Hid (∀ c, c ∈ ns ↔ c ∈ cs.take k ∧ Cont S c) := hin
      clear hin
      by_cases hlt : k < cs.length
      · have hc : wr.cell? ⟨g, k, none⟩ = some (.string cs[k]) := (hbw.cell hg).trans (hcell k hlt)
        have hsc := hs cs[k] (List.getElem_mem hlt)
        have HS : Hid (cs.take (k + 1) = cs.take k ++ [cs[k]]) := List.take_succ_eq_append_getElem hlt
        clear hcell hs c6
        generalize cs[k] = c at *
        have HVr : Hid (Vw wr bv bs n S (.slice (some ⟨g, 0, none⟩) cs.length cap)) := HV.out.below hbw
        have step0 : ∀ {w' : World}, ¬ Cont S c → Below wr.heap.size wr w' → ∃ (k' : Nat) (ns' : List ByteArray), k' ≤ cs.length ∧ Value.int .i64 (↑k + 1) = .int .i64 k' ∧ w'.ownsRow w.heap.size 9 1 u5 ns'.length (ns'.map Value.string) ∧ ns'.length ≤ k' ∧ (∀ c, c ∈ ns' ↔ c ∈ cs.take k' ∧ Cont S c) ∧ Below w.heap.size w w' := by
          intro w' hno hb
          refine ⟨k + 1, ns, by omega, by go_num, ?_, by omega, fun d => ?_, hbw.trans (hb.mono hbw.size)⟩
          · exact hown.kept (row := none) ⟨hb.os, hb.tape, hb.output, hb.size, fun i hi _ => hb.block i hi⟩ (by cases h : u5.ownBlock <;> simp)
          · rw [HS.out, HIN.out d, List.mem_append, List.mem_singleton]
            constructor
            · rintro ⟨h1, h2⟩; exact ⟨.inl h1, h2⟩
            · rintro ⟨h1 | h1, h2⟩
              · exact ⟨h1, h2⟩
              · subst h1; exact absurd h2 hno
        have H0 : Hid (∀ {w' : World}, ¬ Cont S c → Below wr.heap.size wr w' → ∃ (k' : Nat) (ns' : List ByteArray), k' ≤ cs.length ∧ Value.int .i64 (↑k + 1) = .int .i64 k' ∧ w'.ownsRow w.heap.size 9 1 u5 ns'.length (ns'.map Value.string) ∧ ns'.length ≤ k' ∧ (∀ c, c ∈ ns' ↔ c ∈ cs.take k' ∧ Cont S c) ∧ Below w.heap.size w w') := step0
        clear step0
        cases hlv : liveB S c
        · have HN : Hid (¬ Cont S c) := fun h => by have := h.1; rw [hlv] at this; cases this
          go_wp2_with fail
          refine (liveCopy_any bv bs n S _ c hsc _ HVr.out).mono ?_
          rw [hlv]
          rintro e w1 ⟨rfl, hb1⟩
          go_wp2
          go_roundw
          case rel => exact H0.out HN.out hb1
          case measure => simp [intOf]; omega
        · go_wp2_with fail
          refine (liveCopy_any bv bs n S _ c hsc _ HVr.out).mono ?_
          rw [hlv]
          rintro e w1 ⟨rfl, hb1⟩
          have HV1 : Hid (Vw w1 bv bs n S (.slice (some ⟨g, 0, none⟩) cs.length cap)) := HVr.out.below hb1
          go_wp2_with fail
          refine (mayLead_any bv bs n S _ c hsc _ HV1.out).mono ?_
          rintro e w2 ⟨b, rfl, hm, hb2⟩
          have hb12 := hb1.trans (hb2.mono hb1.size)
          clear hb1 hb2 HV1
          have HM : Hid (b = true ↔ InS S.terms c ∧ (stateB S c = downS ∨ stateB S c = activeS)) := hm
          clear hm
          cases b
          · have HN : Hid (¬ Cont S c) := fun h => by have := HM.out.2 h.2; cases this
            go_wp2
            go_roundw
            case rel => exact H0.out HN.out hb12
            case measure => simp [intOf]; omega
          · have HN : Hid (Cont S c) := ⟨hlv, HM.out.1 rfl⟩
            have hown2 : w2.ownsRow w.heap.size 9 1 u5 ns.length (ns.map Value.string) := hown.kept (row := none) ⟨hb12.os, hb12.tape, hb12.output, hb12.size, fun i hi _ => hb12.block i hi⟩ (by cases h : u5.ownBlock <;> simp)
            have hbw2 := hbw.trans (hb12.mono hbw.size)
            have hsz := hbw2.size
            go_wp2_with (at_builtin; refine wpList_append_own _ rfl _ _ 22 rfl w.heap.size 9 i0 (.string ⟨#[]⟩) 1 16 Trym.underlying22 hi hz0 hz1 hz2 rfl (by decide) _ _ _ rfl (hown2.alloc _) ⟨w2.heap.size, 0, none⟩ 1 1 [.string c] rfl rfl (cell_one_new _ _ _) (fun x hx => by simp at hx; subst hx; rfl) (by unfold maxLen; omega) (by omega) (by simp; omega) ?_; intro v' w3 hown' hgrow3 hnil3)
            go_roundw
            case rel =>
              refine ⟨k + 1, ns ++ [c], by omega, by go_num, by simpa using hown', by simp; omega, fun d => ?_, ?_⟩
              · rw [HS.out, List.mem_append, List.mem_append, HIN.out d, List.mem_singleton]
                constructor
                · rintro (⟨h1, h2⟩ | h1)
                  · exact ⟨.inl h1, h2⟩
                  · subst h1; exact ⟨.inr rfl, HN.out⟩
                · rintro ⟨h1 | h1, h2⟩
                  · exact .inl ⟨h1, h2⟩
                  · exact .inr h1
              · exact (hbw2.alloc hsz _).grown hgrow3 (by simp; omega) (fun j hj => (hown2.lt j hj).1)
            case measure => simp [intOf]; omega
      · go_wp2
        go_ret
        refine ⟨_, ns, rfl, ⟨_, hown⟩, by omega, fun c => ?_, hbw⟩
        rw [HIN.out c, List.take_of_length_le (by omega)]

end Go.Proofs.Qxb6608675aMods
