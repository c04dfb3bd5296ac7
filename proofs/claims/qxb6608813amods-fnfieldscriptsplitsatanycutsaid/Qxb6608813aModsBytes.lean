/- zzBytes_FnFieldScriptWritesCommaSeparatedMembers, zzBytes_FnFieldScriptSplitsAtAnyCut. -/
import Derived.Test.Qxb6608813aModsParts
namespace Go.Proofs.Qxb6608813aMods
open Go.RowKit

/-- The call has returned a bool; if it is b, p holds. -/
def RetIf (e : Ending) (v : Bool) (p : Prop) : Prop := ∃ b : Bool, e = .returned (.bool b) ∧ (b = v → p)

theorem RetIf.no {p : Prop} : RetIf (.returned (.bool false)) true p := ⟨false, rfl, fun h => by cases h⟩

set_option maxHeartbeats 1000000 in
set_option maxRecDepth 100000 in
theorem bytes7 (a : Option Addr) (n c : Nat) (vk : Value) (ks : List ByteArray) (i1 i2 i3 i4 : Int) (m : Bool) (w : World) (B : Nat) (hk : IsS w B vk ks) (hn : n ≤ maxLen) (hkl : ks.length ≤ maxLen) (hks : ∀ k ∈ ks, k.size ≤ maxLen) :
    Calls Trym.prog 7 #[.slice a n c, .int .i64 i1, .int .i64 i2, .int .i64 i3, .int .i64 i4, .bool m, vk] w fun e w' => RetIf e true (∀ k ∈ ks, k.size ≤ 1048576) ∧ w' = w := by
  unfold maxLen at hn hkl hks
  obtain ⟨ak, ck, rfl, hck⟩ := hk
  by_cases hp : 0 < ks.length
  · obtain ⟨b, off, rfl, hb, hc⟩ := hck hp
    clear hck
    have HK : Hid (∀ k ∈ ks, k.size ≤ 9223372036854775807) := hks
    clear hks
    go_enter Trym.func7, Trym.ntmps7
    go_wp2
    rotate_right 1
    · go_loop [15, 16] (fun z i => ∃ k t : Nat, k ≤ ks.length ∧ i = .int .i64 k ∧ z = .int .i64 t ∧ t ≤ 1048576 ∧ ∀ r ∈ ks.take k, r.size ≤ 1048576) (fun _ i => ks.length - (intOf i).toNat)
      case atStart => exact ⟨0, n + ks.length, Nat.zero_le _, rfl, by go_num, by omega, by simp⟩
      case round =>
        obtain ⟨k, t, hk, rfl, rfl, ht, hin⟩ := hrel
        have HN : Hid (∀ r ∈ ks.take k, r.size ≤ 1048576) := hin
        clear hin
        by_cases hlt : k < ks.length
        · have hc1 := hc k hlt
          have hs := HK.out _ (List.getElem_mem hlt)
          have HS : Hid (ks.take (k + 1) = ks.take k ++ [ks[k]]) := List.take_succ_eq_append_getElem hlt
          clear hc HK
          generalize ks[k] = r at *
          go_wp2
          rotate_right 1
          · go_round
            case rel =>
              refine ⟨k + 1, t + r.size, by omega, by go_num, by go_num, by omega, ?_⟩
              rw [HS.out]
              intro d hd
              rcases List.mem_append.1 hd with h | h
              · exact HN.out d h
              · rw [List.mem_singleton] at h
                subst h
                omega
            case measure => simp [intOf]; omega
          all_goals
            go_ret
            exact ⟨RetIf.no, rfl⟩
        · go_wp2
          go_ret
          refine ⟨⟨true, rfl, fun _ r hr => HN.out r ?_⟩, rfl⟩
          rw [List.take_of_length_le (by omega)]; exact hr
    all_goals
      go_ret
      exact ⟨RetIf.no, rfl⟩
  · have h0 : ks = [] := List.eq_nil_of_length_eq_zero (by omega)
    subst h0
    clear hck
    go_enter Trym.func7, Trym.ntmps7
    go_wp2
    rotate_right 1
    · refine wp_loop_rounds 1 ?_
      rw [rounds_succ]
      go_wp2
      go_ret
      exact ⟨⟨true, rfl, by simp⟩, rfl⟩
    all_goals
      go_ret
      exact ⟨RetIf.no, rfl⟩

set_option maxHeartbeats 1000000 in
set_option maxRecDepth 100000 in
theorem bytes15 (a : Option Addr) (n c : Nat) (vk : Value) (ks : List ByteArray) (i1 i2 i3 i4 : Int) (m : Bool) (cut : Int) (w : World) (B : Nat) (hk : IsS w B vk ks) (hn : n ≤ maxLen) (hkl : ks.length ≤ maxLen) (hks : ∀ k ∈ ks, k.size ≤ maxLen) :
    Calls Trym.prog 15 #[.slice a n c, .int .i64 i1, .int .i64 i2, .int .i64 i3, .int .i64 i4, .bool m, vk, .int .i64 cut] w fun e w' => RetIf e true (∀ k ∈ ks, k.size ≤ 1048576) ∧ w' = w := by
  unfold maxLen at hn hkl hks
  obtain ⟨ak, ck, rfl, hck⟩ := hk
  by_cases hp : 0 < ks.length
  · obtain ⟨b, off, rfl, hb, hc⟩ := hck hp
    clear hck
    have HK : Hid (∀ k ∈ ks, k.size ≤ 9223372036854775807) := hks
    clear hks
    go_enter Trym.func15, Trym.ntmps15
    go_wp2
    rotate_right 1
    · go_loop [17, 18] (fun z i => ∃ k t : Nat, k ≤ ks.length ∧ i = .int .i64 k ∧ z = .int .i64 t ∧ t ≤ 1048576 ∧ ∀ r ∈ ks.take k, r.size ≤ 1048576) (fun _ i => ks.length - (intOf i).toNat)
      case atStart => exact ⟨0, n + ks.length, Nat.zero_le _, rfl, by go_num, by omega, by simp⟩
      case round =>
        obtain ⟨k, t, hk, rfl, rfl, ht, hin⟩ := hrel
        have HN : Hid (∀ r ∈ ks.take k, r.size ≤ 1048576) := hin
        clear hin
        by_cases hlt : k < ks.length
        · have hc1 := hc k hlt
          have hs := HK.out _ (List.getElem_mem hlt)
          have HS : Hid (ks.take (k + 1) = ks.take k ++ [ks[k]]) := List.take_succ_eq_append_getElem hlt
          clear hc HK
          generalize ks[k] = r at *
          go_wp2
          rotate_right 1
          · go_round
            case rel =>
              refine ⟨k + 1, t + r.size, by omega, by go_num, by go_num, by omega, ?_⟩
              rw [HS.out]
              intro d hd
              rcases List.mem_append.1 hd with h | h
              · exact HN.out d h
              · rw [List.mem_singleton] at h
                subst h
                omega
            case measure => simp [intOf]; omega
          all_goals
            go_ret
            exact ⟨RetIf.no, rfl⟩
        · go_wp2
          go_ret
          refine ⟨⟨true, rfl, fun _ r hr => HN.out r ?_⟩, rfl⟩
          rw [List.take_of_length_le (by omega)]; exact hr
    all_goals
      go_ret
      exact ⟨RetIf.no, rfl⟩
  · have h0 : ks = [] := List.eq_nil_of_length_eq_zero (by omega)
    subst h0
    clear hck
    go_enter Trym.func15, Trym.ntmps15
    go_wp2
    rotate_right 1
    · refine wp_loop_rounds 1 ?_
      rw [rounds_succ]
      go_wp2
      go_ret
      exact ⟨⟨true, rfl, by simp⟩, rfl⟩
    all_goals
      go_ret
      exact ⟨RetIf.no, rfl⟩

end Go.Proofs.Qxb6608813aMods
