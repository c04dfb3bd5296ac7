/- zzBytes_FnServesIsActiveContender, zzBytes_FnServesAfterTermRaised. -/
import Derived.Test.Qxb6608675aModsRecs
namespace Go.Proofs.Qxb6608675aMods
open Go.RowKit Go.Maps

set_option maxHeartbeats 1000000 in
set_option maxRecDepth 100000 in
theorem bytes19 (v : Value) (rs : List Rec) (x : ByteArray) (hx : x.size ≤ maxLen) (w : World) (hv : IsRecs w v rs) (hok : ∀ r ∈ rs, r.ok) (hl : rs.length ≤ maxLen) :
    Calls Trym.prog 19 #[v, .string x] w fun e w' => RetIf e true (rs.length ≤ 1048576 ∧ (∀ r ∈ rs, r.small) ∧ x.size ≤ 1048576) ∧ w' = w := by
  unfold maxLen at hx hl
  rcases hv with ⟨a, cap, rfl, rfl⟩ | ⟨b, off, cap, rfl, hpos, hbs, hcell⟩
  · go_enter Trym.func19, Trym.ntmps19
    go_wp2
    refine wp_loop_rounds 1 ?_
    rw [rounds_succ]
    go_wp2
    · go_ret
      exact ⟨RetIf.no, rfl⟩
    · go_ret
      exact ⟨⟨true, rfl, fun _ => ⟨by simp, by simp, by omega⟩⟩, rfl⟩
  · go_enter Trym.func19, Trym.ntmps19
    go_wp2
    · go_ret
      exact ⟨RetIf.no, rfl⟩
    · go_loop [5, 6] (fun z i => ∃ k t : Nat, k ≤ rs.length ∧ i = .int .i64 k ∧ z = .int .i64 t ∧ t ≤ 1048576 ∧ ∀ r ∈ rs.take k, r.small) (fun _ i => rs.length - (intOf i).toNat)
      case atStart => exact ⟨0, rs.length, Nat.zero_le _, rfl, rfl, by omega, by simp⟩
      case round =>
        obtain ⟨k, t, hk, rfl, rfl, ht, hin⟩ := hrel
        have HN : Hid (∀ r ∈ rs.take k, r.small) := hin
        clear hin
        by_cases hlt : k < rs.length
        · obtain ⟨q0, q1, q2, q3, q4, q5, q6, q7, q8⟩ := hcell k hlt
          obtain ⟨z1, z2, z3, z4, z5⟩ := hok rs[k] (List.getElem_mem hlt)
          unfold maxLen at z1 z2 z3 z4
          have HS : Hid (rs.take (k + 1) = rs.take k ++ [rs[k]]) := List.take_succ_eq_append_getElem hlt
          clear hcell hok z5 q1 q4 q5 q6 q7
          generalize rs[k] = r at *
          go_wp2
          rotate_right 1
          · go_round
            case rel =>
              refine ⟨k + 1, t + r.name.size + r.nd.size + r.pd.size + r.st.size, by omega, by go_num, by go_num, by omega, ?_⟩
              rw [HS.out]
              intro d hd
              rcases List.mem_append.1 hd with h | h
              · exact HN.out d h
              · rw [List.mem_singleton] at h
                subst h
                exact ⟨by omega, by omega, by omega, by omega⟩
            case measure => simp [intOf]; omega
          all_goals
            go_ret
            exact ⟨RetIf.no, rfl⟩
        · go_wp2
          · go_ret
            exact ⟨RetIf.no, rfl⟩
          · go_ret
            exact ⟨RetIf.no, rfl⟩
          · go_ret
            refine ⟨⟨true, rfl, fun _ => ⟨by omega, fun r hr => HN.out r ?_, by omega⟩⟩, rfl⟩
            rw [List.take_of_length_le (by omega)]; exact hr

set_option maxHeartbeats 1000000 in
set_option maxRecDepth 100000 in
theorem bytes28 (v : Value) (rs : List Rec) (x : ByteArray) (hx : x.size ≤ maxLen) (w : World) (hv : IsRecs w v rs) (hok : ∀ r ∈ rs, r.ok) (hl : rs.length ≤ maxLen) :
    Calls Trym.prog 28 #[v, .string x] w fun e w' => RetIf e true (rs.length ≤ 1048576 ∧ (∀ r ∈ rs, r.small) ∧ x.size ≤ 1048576) ∧ w' = w := by
  unfold maxLen at hx hl
  rcases hv with ⟨a, cap, rfl, rfl⟩ | ⟨b, off, cap, rfl, hpos, hbs, hcell⟩
  · go_enter Trym.func28, Trym.ntmps28
    go_wp2
    refine wp_loop_rounds 1 ?_
    rw [rounds_succ]
    go_wp2
    · go_ret
      exact ⟨RetIf.no, rfl⟩
    · go_ret
      exact ⟨⟨true, rfl, fun _ => ⟨by simp, by simp, by omega⟩⟩, rfl⟩
  · go_enter Trym.func28, Trym.ntmps28
    go_wp2
    · go_ret
      exact ⟨RetIf.no, rfl⟩
    · go_loop [5, 6] (fun z i => ∃ k t : Nat, k ≤ rs.length ∧ i = .int .i64 k ∧ z = .int .i64 t ∧ t ≤ 1048576 ∧ ∀ r ∈ rs.take k, r.small) (fun _ i => rs.length - (intOf i).toNat)
      case atStart => exact ⟨0, rs.length, Nat.zero_le _, rfl, rfl, by omega, by simp⟩
      case round =>
        obtain ⟨k, t, hk, rfl, rfl, ht, hin⟩ := hrel
        have HN : Hid (∀ r ∈ rs.take k, r.small) := hin
        clear hin
        by_cases hlt : k < rs.length
        · obtain ⟨q0, q1, q2, q3, q4, q5, q6, q7, q8⟩ := hcell k hlt
          obtain ⟨z1, z2, z3, z4, z5⟩ := hok rs[k] (List.getElem_mem hlt)
          unfold maxLen at z1 z2 z3 z4
          have HS : Hid (rs.take (k + 1) = rs.take k ++ [rs[k]]) := List.take_succ_eq_append_getElem hlt
          clear hcell hok z5 q1 q4 q5 q6 q7
          generalize rs[k] = r at *
          go_wp2
          rotate_right 1
          · go_round
            case rel =>
              refine ⟨k + 1, t + r.name.size + r.nd.size + r.pd.size + r.st.size, by omega, by go_num, by go_num, by omega, ?_⟩
              rw [HS.out]
              intro d hd
              rcases List.mem_append.1 hd with h | h
              · exact HN.out d h
              · rw [List.mem_singleton] at h
                subst h
                exact ⟨by omega, by omega, by omega, by omega⟩
            case measure => simp [intOf]; omega
          all_goals
            go_ret
            exact ⟨RetIf.no, rfl⟩
        · go_wp2
          · go_ret
            exact ⟨RetIf.no, rfl⟩
          · go_ret
            exact ⟨RetIf.no, rfl⟩
          · go_ret
            refine ⟨⟨true, rfl, fun _ => ⟨by omega, fun r hr => HN.out r ?_, by omega⟩⟩, rfl⟩
            rw [List.take_of_length_le (by omega)]; exact hr

end Go.Proofs.Qxb6608675aMods
