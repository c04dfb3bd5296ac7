/- zzBytes_*, hScopeRune, ValidScope, hScopeBytes. -/
import Derived.Test.Qxb6608994aModsRows
import Derived.WalkKit
import Derived.WalkSpells
import Derived.WalkLawsBesides
import Derived.BigQuiet
import Derived.Deep.QuietTactic
import Derived.Deep.LoopGhost
import Derived.Deep.DeepCutAuto
namespace Go.Proofs.Qxb6608994aMods
open Go.RowKit

/-- One of A-Z a-z 0-9 : . _ - -/
def OKc (c : Int) : Prop := (65 ≤ c ∧ c ≤ 90) ∨ (97 ≤ c ∧ c ≤ 122) ∨ (48 ≤ c ∧ c ≤ 57) ∨ c = 58 ∨ c = 46 ∨ c = 95 ∨ c = 45

/-- A valid scope: not empty, each byte of the set. -/
def Vs (l : List UInt8) : Prop := l ≠ [] ∧ ∀ b ∈ l, OKc (b.toNat : Int)

/-- The call has returned a bool that tells p. -/
def Ret (e : Ending) (p : Prop) : Prop := ∃ b : Bool, e = .returned (.bool b) ∧ (b = true ↔ p)
theorem Ret.t {p : Prop} (h : p) : Ret (.returned (.bool true)) p := ⟨true, rfl, ⟨fun _ => h, fun _ => rfl⟩⟩
theorem Ret.f {p : Prop} (h : ¬ p) : Ret (.returned (.bool false)) p := ⟨false, rfl, ⟨fun h => (by cases h), fun h' => absurd h' h⟩⟩

theorem take_snoc (s : ByteArray) (k : Nat) (h : k < s.size) : s.data.toList.take (k + 1) = s.data.toList.take k ++ [s[k]] := by
  rw [List.take_succ_eq_append_getElem (by simpa using h)]
  rfl

theorem bytes5 (a b : ByteArray) (w : World) (ha : a.size ≤ maxLen) (hb : b.size ≤ maxLen) :
    Calls Trym.prog 5 #[.string a, .string b] w fun e w' => (∃ r : Bool, e = .returned (.bool r)) ∧ w' = w := by
  unfold maxLen at ha hb
  go_enter Trym.func5, Trym.ntmps5
  go_wp2
  all_goals
    go_ret
    exact ⟨⟨_, rfl⟩, rfl⟩

theorem bytes8 (a b : ByteArray) (r : Int) (w : World) (ha : a.size ≤ maxLen) (hb : b.size ≤ maxLen) :
    Calls Trym.prog 8 #[.string a, .int .i32 r, .string b] w fun e w' => (∃ r : Bool, e = .returned (.bool r)) ∧ w' = w := by
  unfold maxLen at ha hb
  go_enter Trym.func8, Trym.ntmps8
  go_wp2
  all_goals
    go_ret
    exact ⟨⟨_, rfl⟩, rfl⟩

set_option maxHeartbeats 400000 in
theorem scopeRune_any (r : Int) (w : World) :
    Calls Trym.prog 10 #[.int .i32 r] w fun e w' => Ret e (OKc r) ∧ w' = w := by
  go_enter Trym.func10, Trym.ntmps10
  go_wp2
  all_goals
    go_ret
    refine ⟨⟨_, rfl, ?_⟩, rfl⟩
    first
      | (simp only [OKc, true_iff]; omega)
      | (simp only [OKc, Bool.or_eq_true, beq_iff_eq]; omega)
      | simp [OKc]

theorem stepOK {w : World} {s : ByteArray} {pos c wd : Nat} {b : UInt8} (HD : Hid ((c, wd) = (b.toNat, 1) ∨ 128 ≤ b.toNat ∧ 128 ≤ c)) (hc : OKc (c : Int)) (hp : pos < s.size)
    (HS : Hid (s.data.toList.take (pos + 1) = s.data.toList.take pos ++ [b])) (HN : Hid (∀ b ∈ s.data.toList.take pos, OKc (b.toNat : Int))) :
    (∃ p, p ≤ s.size ∧ w.iter s (pos + wd) = w.iter s p ∧ ∀ b ∈ s.data.toList.take p, OKc (b.toNat : Int)) ∧ s.size - (w.iter s (pos + wd)).iterPos w.heap.size < s.size - (w.iter s pos).iterPos w.heap.size := by
  rw [World.iterPos_iter, World.iterPos_iter]
  rcases HD.out with h | ⟨_, h⟩
  · cases h
    refine ⟨⟨pos + 1, by omega, rfl, ?_⟩, by omega⟩
    rw [HS.out]
    intro d hd
    rcases List.mem_append.1 hd with h | h
    · exact HN.out d h
    · rw [List.mem_singleton] at h
      rw [h]; exact hc
  · unfold OKc at hc; omega

theorem stepBad {s : ByteArray} {c wd : Nat} {b : UInt8} (HD : Hid ((c, wd) = (b.toNat, 1) ∨ 128 ≤ b.toNat ∧ 128 ≤ c)) (hc : ¬ OKc (c : Int)) (HM : Hid (b ∈ s.data.toList)) : ¬ Vs s.data.toList := by
  intro h
  have hb := h.2 b HM.out
  rcases HD.out with h | ⟨h, _⟩
  · cases h; exact hc hb
  · unfold OKc at hb; omega

set_option maxHeartbeats 4000000 in
theorem validScope_any (s : ByteArray) (w : World) :
    Calls Trym.prog 6 #[.string s] w fun e w' => Ret e (Vs s.data.toList) ∧ Below w.heap.size w w' := by
  cases hse : s.toList.isEmpty
  rotate_left 1
  · go_enter Trym.func6, Trym.ntmps6
    go_wp2
    go_ret
    refine ⟨Ret.f fun h => h.1 ?_, Below.refl _ _⟩
    rw [← ByteArray.toList_eq]
    exact List.isEmpty_iff.1 hse
  · have HE : Hid (s.data.toList ≠ []) := by
      intro h
      rw [ByteArray.toList_eq, h] at hse
      cases hse
    go_enter Trym.func6, Trym.ntmps6
    go_wp2
    go_loopw [4] (fun _ w' => ∃ pos : Nat, pos ≤ s.size ∧ w' = w.iter s pos ∧ ∀ b ∈ s.data.toList.take pos, OKc (b.toNat : Int)) (fun _ w' => s.size - w'.iterPos w.heap.size)
    case atStart => exact ⟨0, Nat.zero_le _, rfl, by simp⟩
    case round =>
      obtain ⟨pos, hps, rfl, hin⟩ := hrel
      have HN : Hid (∀ b ∈ s.data.toList.take pos, OKc (b.toNat : Int)) := hin
      clear hin
      have hbl : Below w.heap.size w (w.iter s pos) := (Below.refl _ w).alloc (Nat.le_refl _) _
      by_cases hp : pos < s.size
      · have hnx : ∀ ty, (Instr.next (.pointer (some ⟨w.heap.size, 0, none⟩)) true ty).run Trym.prog (w.iter s pos) = _ := fun ty => run_next_any w s pos ty hp
        have hbl' : Below w.heap.size w (w.iter s (pos + (Utf8.decode s pos).2)) := (Below.refl _ w).alloc (Nat.le_refl _) _
        have HD : Hid ((Utf8.decode s pos = ((s[pos]'hp).toNat, 1)) ∨ (128 ≤ (s[pos]'hp).toNat ∧ 128 ≤ (Utf8.decode s pos).1)) := by
          by_cases ha : (s[pos]'hp).toNat < 128
          · exact .inl (decode_ascii s pos hp ha)
          · exact .inr ⟨by omega, (decode_high s pos hp (by omega)).1⟩
        have HS : Hid (s.data.toList.take (pos + 1) = s.data.toList.take pos ++ [s[pos]]) := take_snoc s pos hp
        have HM : Hid (s[pos] ∈ s.data.toList) := List.getElem_mem (l := s.data.toList) (by simpa using hp)
        generalize hU : Utf8.decode s pos = U at *
        obtain ⟨c, wd⟩ := U
        generalize s[pos] = b at *
        go_wp2
        all_goals clear hnx hU
        all_goals first
          | exact stepOK HD (by unfold OKc; omega) hp HS HN
          | exact stepOK HD (by simp only [beq_iff_eq] at *; unfold OKc; omega) hp HS HN
          | (go_ret
             exact ⟨Ret.f (stepBad HD (by simp only [beq_eq_false_iff_ne, ne_eq] at *; unfold OKc; omega) HM), hbl'⟩)
      · have hnx : ∀ ty, (Instr.next (.pointer (some ⟨w.heap.size, 0, none⟩)) true ty).run Trym.prog (w.iter s pos) = _ := fun ty => run_next_end w s pos ty hp
        go_wp2
        go_ret
        refine ⟨Ret.t ⟨HE.out, fun b hb => HN.out b ?_⟩, hbl⟩
        rw [List.take_of_length_le (by simp; omega)]; exact hb

end Go.Proofs.Qxb6608994aMods
