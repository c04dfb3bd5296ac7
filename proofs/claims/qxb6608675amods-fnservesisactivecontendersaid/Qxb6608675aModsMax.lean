/- zzServeMaxTerm, zzServeModelState. -/
import Derived.Test.Qxb6608675aModsRecs
namespace Go.Proofs.Qxb6608675aMods
open Go.RowKit Go.Maps

theorem ret_int {k : IntKind} {a b : Int} (h : a = b) : Ending.returned (.int k a) = .returned (.int k b) := by rw [h]

def mxStep (g : List UInt8 → Option Int) (b : Int) (r : Rec) : Int := if r.hasT then (if b < getT g r.name then getT g r.name else b) else b
/-- The greatest term. -/
def mx (g : List UInt8 → Option Int) (l : List Rec) : Int := l.foldl (mxStep g) 0
theorem mx_snoc (g : List UInt8 → Option Int) (l : List Rec) (r : Rec) : mx g (l ++ [r]) = mxStep g (mx g l) r := by simp [mx]

set_option maxHeartbeats 1000000 in
theorem maxTerm_any (v : Value) (rs : List Rec) (m n : Nat) (g : List UInt8 → Option Int) (w : World) (hv : IsRecs w v rs) (hm : TMap w m n g) (hsm : ∀ r ∈ rs, r.small) (hl : rs.length ≤ 4096) :
    Calls Trym.prog 23 #[v, .map (some m)] w fun e w' => e = .returned (.int .u64 (mx g rs)) ∧ w' = w := by
  rcases hv with ⟨a, cap, rfl, rfl⟩ | ⟨b, off, cap, rfl, hpos, hbs, hcell⟩
  · go_enter Trym.func23, Trym.ntmps23
    go_wp2
    refine wp_loop_rounds 1 ?_
    rw [rounds_succ]
    go_wp2
    go_ret
    exact ⟨rfl, rfl⟩
  · go_enter Trym.func23, Trym.ntmps23
    go_wp2
    go_loop [5, 6] (fun z i => ∃ k : Nat, k ≤ rs.length ∧ i = .int .i64 k ∧ z = .int .u64 (mx g (rs.take k))) (fun _ i => rs.length - (intOf i).toNat)
    case atStart => exact ⟨0, Nat.zero_le _, rfl, rfl⟩
    case round =>
      obtain ⟨k, hk, rfl, rfl⟩ := hrel
      by_cases hlt : k < rs.length
      · obtain ⟨q0, q1, q2, q3, q4, q5, q6, q7, q8⟩ := hcell k hlt
        obtain ⟨z1, z2, z3, z4⟩ := hsm rs[k] (List.getElem_mem hlt)
        have lk := (hm.look rs[k].name (by unfold maxLen; omega)).1
        have HS : Hid (mx g (rs.take (k + 1)) = mxStep g (mx g (rs.take k)) rs[k]) := by
          unfold Hid; rw [List.take_succ_eq_append_getElem hlt, mx_snoc]
        clear hcell hsm hm q1 q2 q3 q4 q6 q7 q8
        generalize rs[k] = r at *
        generalize mx g (rs.take k) = M at *
        cases hT : r.hasT
        · have HM : Hid (mx g (rs.take (k + 1)) = M) := by unfold Hid; rw [HS.out]; simp [mxStep, hT]
          rw [hT] at q5
          go_wp2
          go_round
          case rel => exact ⟨k + 1, by omega, by go_num, by rw [HM.out]⟩
          case measure => simp [intOf]; omega
        · rw [hT] at q5
          by_cases hlt2 : M < getT g r.name
          · have HM : Hid (mx g (rs.take (k + 1)) = getT g r.name) := by unfold Hid; rw [HS.out]; simp [mxStep, hT, hlt2]
            generalize getT g r.name = G at *
            go_wp2
            go_round
            case rel => exact ⟨k + 1, by omega, by go_num, by rw [HM.out]⟩
            case measure => simp [intOf]; omega
          · have HM : Hid (mx g (rs.take (k + 1)) = M) := by unfold Hid; rw [HS.out]; simp [mxStep, hT, hlt2]
            generalize getT g r.name = G at *
            go_wp2
            go_round
            case rel => exact ⟨k + 1, by omega, by go_num, by rw [HM.out]⟩
            case measure => simp [intOf]; omega
      · go_wp2
        go_ret
        exact ⟨ret_int (by rw [List.take_of_length_le (by omega)]), rfl⟩


theorem alloc_same {w : World} {o : Obj} {b : Nat} (hb : b < w.heap.size) : (w.alloc o).heap[b]? = w.heap[b]? := Below.heap_alloc w o b hb

set_option maxHeartbeats 1000000 in
theorem modelState_any (m1 m2 m3 m4 m5 n ln cc : Nat) (ad : Option Addr) (S : PS) (x : ByteArray) (hx : x.size ≤ maxLen) (w : World)
    (h1 : SMap w 9 m1 n S.nodes) (h2 : SMap w 9 m2 n S.ndirs) (h3 : SMap w 9 m3 n S.sdirs) (h5 : SMap w 9 m5 n S.states) :
    Calls Trym.prog 25 #[.agg #[.map (some m1), .map (some m2), .map (some m3), .map (some m4), .map (some m5), .slice ad ln cc], .string x] w fun e w' => e = .returned (.string (stateB S x)) ∧ Below w.heap.size w w' := by
  have l1 := fun o => ((h1.same (alloc_same h1.lt) : SMap (w.alloc o) 9 m1 n S.nodes).look_ok Trym.underlying44 Trym.underlying9 (zero9 _) x hx).1
  have l2 := fun o => ((h2.same (alloc_same h2.lt) : SMap (w.alloc o) 9 m2 n S.ndirs).look Trym.underlying44 Trym.underlying9 (zero9 _) x hx).1
  have l3 := fun o => ((h3.same (alloc_same h3.lt) : SMap (w.alloc o) 9 m3 n S.sdirs).look Trym.underlying44 Trym.underlying9 (zero9 _) x hx).1
  have l5 := fun o => ((h5.same (alloc_same h5.lt) : SMap (w.alloc o) 9 m5 n S.states).look_ok Trym.underlying44 Trym.underlying9 (zero9 _) x hx).1
  clear h1 h2 h3 h5
  have HB : Hid (∀ o, Below w.heap.size w (w.alloc o)) := fun o => (Below.refl _ _).alloc (Nat.le_refl _) o
  cases k1 : hasS S.nodes x <;> rw [k1] at l1
  · go_enter Trym.func25, Trym.ntmps25
    go_wp2
    go_ret
    exact ⟨by simp [stateB, liveB, k1, downS], HB.out _⟩
  · cases k5 : hasS S.states x <;> rw [k5] at l5
    all_goals
      cases k2 : (gets S.sdirs x).toList.isEmpty
      · cases k3 : (gets S.ndirs x).toList.isEmpty
        · cases k4 : ((gets S.sdirs x).toList == (gets S.ndirs x).toList)
          all_goals
            go_enter Trym.func25, Trym.ntmps25
            go_wp2
            go_ret
            exact ⟨by simp [stateB, liveB, onDirB, k1, k2, k3, k4, k5, downS], HB.out _⟩
        · go_enter Trym.func25, Trym.ntmps25
          go_wp2
          go_ret
          exact ⟨by simp [stateB, liveB, onDirB, k1, k2, k3, k5, downS], HB.out _⟩
      · go_enter Trym.func25, Trym.ntmps25
        go_wp2
        go_ret
        exact ⟨by simp [stateB, liveB, onDirB, k1, k2, k5, downS], HB.out _⟩

end Go.Proofs.Qxb6608675aMods
