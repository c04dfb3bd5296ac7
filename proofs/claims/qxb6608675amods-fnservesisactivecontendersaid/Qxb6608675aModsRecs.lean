/- The records: zzBytes, zzServeTooBig. -/
import Derived.Test.Qxb6608675aModsStrs
namespace Go.Proofs.Qxb6608675aMods
open Go.RowKit Go.Maps

structure Rec where
  name : ByteArray
  live : Bool
  nd : ByteArray
  pd : ByteArray
  inC : Bool
  hasT : Bool
  term : Int
  hasSt : Bool
  st : ByteArray

/-- The nine cells of a record. -/
def RecAt (w : World) (b o : Nat) (r : Rec) : Prop :=
  w.cell? ⟨b, o, none⟩ = some (.string r.name) ∧ w.cell? ⟨b, o + 1, none⟩ = some (.bool r.live) ∧ w.cell? ⟨b, o + 2, none⟩ = some (.string r.nd) ∧ w.cell? ⟨b, o + 3, none⟩ = some (.string r.pd) ∧
  w.cell? ⟨b, o + 4, none⟩ = some (.bool r.inC) ∧ w.cell? ⟨b, o + 5, none⟩ = some (.bool r.hasT) ∧ w.cell? ⟨b, o + 6, none⟩ = some (.int .u64 r.term) ∧ w.cell? ⟨b, o + 7, none⟩ = some (.bool r.hasSt) ∧ w.cell? ⟨b, o + 8, none⟩ = some (.string r.st)

theorem RecAt.below {w w' : World} {b o B : Nat} {r : Rec} (h : RecAt w b o r) (hb : Below B w w') (hB : b < B) : RecAt w' b o r := by
  unfold RecAt at *
  simpa only [hb.cell (p := ⟨b, _, none⟩) hB] using h

/-- What fits: each string is a string, the term is a uint64. -/
def Rec.ok (r : Rec) : Prop := r.name.size ≤ maxLen ∧ r.nd.size ≤ maxLen ∧ r.pd.size ≤ maxLen ∧ r.st.size ≤ maxLen ∧ (Lit.int .u64 r.term).wf = true

/-- v is a slice of the records rs. -/
def IsRecs (w : World) (v : Value) (rs : List Rec) : Prop :=
  (∃ a cap, v = .slice a 0 cap ∧ rs = []) ∨ ∃ b off cap, v = .slice (some ⟨b, off, none⟩) rs.length cap ∧ 0 < rs.length ∧ b < w.heap.size ∧ ∀ k (hk : k < rs.length), RecAt w b (off + k * 9) rs[k]

def Rec.small (r : Rec) : Prop := r.name.size ≤ 1048576 ∧ r.nd.size ≤ 1048576 ∧ r.pd.size ≤ 1048576 ∧ r.st.size ≤ 1048576

/-- The call has returned a bool; if it is b, p holds. -/
def RetIf (e : Ending) (v : Bool) (p : Prop) : Prop := ∃ b : Bool, e = .returned (.bool b) ∧ (b = v → p)

theorem RetIf.no {p : Prop} : RetIf (.returned (.bool false)) true p := ⟨false, rfl, fun h => by cases h⟩

theorem RetIf.yes {p : Prop} : RetIf (.returned (.bool true)) false p := ⟨true, rfl, fun h => by cases h⟩

set_option maxHeartbeats 1000000 in
set_option maxRecDepth 100000 in
theorem tooBig_any (v : Value) (rs : List Rec) (x : ByteArray) (hx : x.size ≤ 1048576) (w : World) (hv : IsRecs w v rs) (hsm : ∀ r ∈ rs, r.small) (hl : rs.length ≤ 1048576) :
    Calls Trym.prog 20 #[v, .string x] w fun e w' => RetIf e false (rs.length ≤ 4096) ∧ Below w.heap.size w w' := by
  rcases hv with ⟨a, cap, rfl, rfl⟩ | ⟨b, off, cap, rfl, hpos, hbs, hcell⟩
  · go_enter Trym.func20, Trym.ntmps20
    go_wp2
    refine wp_loop_rounds 1 ?_
    rw [rounds_succ]
    go_wp2
    go_ret
    exact ⟨⟨false, rfl, fun _ => by simp⟩, Below.refl _ _⟩
  · go_enter Trym.func20, Trym.ntmps20
    go_wp2
    · go_ret
      exact ⟨RetIf.yes, Below.refl _ _⟩
    · go_loopw [5, 6] (fun z i wr => ∃ k t : Nat, k ≤ rs.length ∧ i = .int .i64 k ∧ z = .int .i64 t ∧ t ≤ 1048576 ∧ Below w.heap.size w wr) (fun _ i _ => rs.length - (intOf i).toNat)
      case atStart => exact ⟨0, x.size, Nat.zero_le _, rfl, rfl, by omega, Below.refl _ _⟩
      case round =>
        obtain ⟨k, t, hk, rfl, rfl, ht, hbw⟩ := hrel
        by_cases hlt : k < rs.length
        · obtain ⟨q0, q1, q2, q3, q4, q5, q6, q7, q8⟩ := (hcell k hlt).below hbw hbs
          obtain ⟨z1, z2, z3, z4⟩ := hsm rs[k] (List.getElem_mem hlt)
          clear hcell hsm q1 q4 q5 q6 q7
          generalize rs[k] = r at *
          have hlt' : (k : Int) < (rs.length : Int) := by omega
          go_wp2
          refine wp_region_quiet_lit (by kernel_rfl) (by kernel_rfl) ?_
          iterate 31 (go_big_quiet_step (fail))
          refine wpQuiet_nil ?_
          intro _ hw'
          obtain ⟨nq, hw''⟩ := hw'
          subst hw''
          obtain ⟨T, hT⟩ : ∃ T : Nat, (t : Int) + ((r.name.size : Int) + (r.nd.size : Int) + (r.pd.size : Int) + (r.st.size : Int) + 64) = (T : Int) := ⟨t + (r.name.size + r.nd.size + r.pd.size + r.st.size + 64), by omega⟩
          rw [hT]
          have hTb : T ≤ 6000000 := by omega
          clear hT
          go_wp2
          · go_ret
            exact ⟨RetIf.yes, below_drewN hbw _⟩
          · go_roundw
            case rel => exact ⟨k + 1, T, by omega, by go_num, rfl, by omega, below_drewN hbw _⟩
            case measure => simp [intOf]; omega
        · go_wp2
          go_ret
          exact ⟨⟨false, rfl, fun _ => by omega⟩, hbw⟩

end Go.Proofs.Qxb6608675aMods
