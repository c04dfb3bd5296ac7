/- The functions that read a view and a shard: onDir, liveCopy, State, InSync. -/
import Derived.Test.Qxb6608675aModsBase
namespace Go.Proofs.Qxb6608675aMods
open Go.RowKit Go.Maps

/-- What a view and a shard hold. -/
structure PS where
  nodes : List UInt8 → Option (List UInt8)
  ndirs : List UInt8 → Option (List UInt8)
  sdirs : List UInt8 → Option (List UInt8)
  terms : List UInt8 → Option Int
  states : List UInt8 → Option (List UInt8)

/-- Blocks bv, bs are a view and a shard that hold S; the shard's copies are the value cp. -/
def Vw (w : World) (bv bs n : Nat) (S : PS) (cp : Value) : Prop :=
  ∃ m1 m2 m3 m4 m5, w.cell? ⟨bv, 0, none⟩ = some (.map (some m1)) ∧ w.cell? ⟨bv, 1, none⟩ = some (.map (some m2)) ∧
    w.cell? ⟨bs, 10, none⟩ = some (.map (some m3)) ∧ w.cell? ⟨bs, 4, none⟩ = some (.map (some m4)) ∧ w.cell? ⟨bs, 5, none⟩ = some (.map (some m5)) ∧ w.cell? ⟨bs, 2, none⟩ = some cp ∧
    SMap w 9 m1 n S.nodes ∧ SMap w 9 m2 n S.ndirs ∧ SMap w 9 m3 n S.sdirs ∧ TMap w m4 n S.terms ∧ SMap w 69 m5 n S.states

theorem lt_of_cell {w : World} {b o : Nat} {v : Value} (h : w.cell? ⟨b, o, none⟩ = some v) : b < w.heap.size := by
  simp only [World.cell?] at h
  split at h
  · rename_i he
    exact (Array.getElem?_eq_some_iff.1 he).1
  · cases h

theorem Vw.below {w w' : World} {bv bs n : Nat} {S : PS} {cp : Value} (h : Vw w bv bs n S cp) (hb : Below w.heap.size w w') : Vw w' bv bs n S cp := by
  obtain ⟨m1, m2, m3, m4, m5, c1, c2, c3, c4, c5, c6, h1, h2, h3, h4, h5⟩ := h
  exact ⟨m1, m2, m3, m4, m5, (hb.cell (lt_of_cell c1)).trans c1, (hb.cell (lt_of_cell c2)).trans c2, (hb.cell (lt_of_cell c3)).trans c3, (hb.cell (lt_of_cell c4)).trans c4, (hb.cell (lt_of_cell c5)).trans c5, (hb.cell (lt_of_cell c6)).trans c6,
    h1.below hb h1.lt, h2.below hb h2.lt, h3.below hb h3.lt, h4.below hb h4.lt, h5.below hb h5.lt⟩

def onDirB (d o : ByteArray) : Bool := d.toList.isEmpty || o.toList.isEmpty || d.toList == o.toList

set_option maxHeartbeats 400000 in
theorem onDir_any (d o : ByteArray) (w : World) :
    Calls Trym.prog 41 #[.string d, .string o] w fun e w' => e = .returned (.bool (onDirB d o)) ∧ w' = w := by
  go_enter Trym.func41, Trym.ntmps41
  go_wp2
  all_goals
    go_ret
    exact ⟨by simp [onDirB, *], rfl⟩

def liveB (S : PS) (x : ByteArray) : Bool := hasS S.nodes x && onDirB (gets S.sdirs x) (gets S.ndirs x)

set_option maxHeartbeats 400000 in
theorem liveCopy_any (bv bs n : Nat) (S : PS) (cp : Value) (x : ByteArray) (hx : x.size ≤ maxLen) (w : World) (hV : Vw w bv bs n S cp) :
    Calls Trym.prog 36 #[.pointer (some ⟨bv, 0, none⟩), .pointer (some ⟨bs, 0, none⟩), .string x] w fun e w' => e = .returned (.bool (liveB S x)) ∧ Below w.heap.size w w' := by
  obtain ⟨m1, m2, m3, m4, m5, c1, c2, c3, c4, c5, c6, h1, h2, h3, h4, h5⟩ := hV
  have l1 : (Instr.lookup 44 (.map (some m1)) (.string x) true).run Trym.prog w = _ := (h1.look_ok Trym.underlying44 Trym.underlying9 (zero9 w) x hx).1
  have l3 := fun q => ((SMap.same h3 rfl : SMap (w.drewN q) 9 m3 n S.sdirs).look Trym.underlying44 Trym.underlying9 (zero9 _) x hx).1
  have l2 := fun q => ((SMap.same h2 rfl : SMap (w.drewN q) 9 m2 n S.ndirs).look Trym.underlying44 Trym.underlying9 (zero9 _) x hx).1
  cases hh : hasS S.nodes x
  · go_enter Trym.func36, Trym.ntmps36
    go_wp2
    go_quiet (fail)
    go_wp2
    go_ret
    exact ⟨by simp [liveB, hh], below_drewN (Below.refl _ _) _⟩
  · go_enter Trym.func36, Trym.ntmps36
    go_wp2
    go_quiet ((go_at_call 41; exact Calls.quiet_of_same (onDir_any _ _ _)))
    go_wp2
    go_ret
    exact ⟨by simp [liveB, hh], below_drewN (Below.refl _ _) _⟩


/-- "down", "active". -/
def downS : ByteArray := ⟨#[100, 111, 119, 110]⟩
def activeS : ByteArray := ⟨#[97, 99, 116, 105, 118, 101]⟩

def stateB (S : PS) (x : ByteArray) : ByteArray := if liveB S x then (if hasS S.states x then gets S.states x else downS) else downS

set_option maxHeartbeats 400000 in
theorem state_any (bv bs n : Nat) (S : PS) (cp : Value) (x : ByteArray) (hx : x.size ≤ maxLen) (w : World) (hV : Vw w bv bs n S cp) :
    Calls Trym.prog 29 #[.pointer (some ⟨bv, 0, none⟩), .pointer (some ⟨bs, 0, none⟩), .string x] w fun e w' => e = .returned (.string (stateB S x)) ∧ Below w.heap.size w w' := by
  cases hl : liveB S x
  · go_enter Trym.func29, Trym.ntmps29
    go_wp2_with fail
    refine (liveCopy_any bv bs n S cp x hx _ hV).mono ?_
    rw [hl]
    rintro e w1 ⟨rfl, hb⟩
    go_wp2
    go_ret
    exact ⟨by simp [stateB, hl, downS], hb⟩
  · cases hh : hasS S.states x
    all_goals
      go_enter Trym.func29, Trym.ntmps29
      go_wp2_with fail
      refine (liveCopy_any bv bs n S cp x hx _ hV).mono ?_
      rw [hl]
      rintro e w1 ⟨rfl, hb⟩
      obtain ⟨m1, m2, m3, m4, m5, c1, c2, c3, c4, c5, c6, h1, h2, h3, h4, h5⟩ := hV.below hb
      have l1 : (Instr.lookup 89 (.map (some m5)) (.string x) true).run Trym.prog w1 = _ := (h5.look_ok Trym.underlying89 Trym.underlying69 (zero69 w1) x hx).1
      rw [hh] at l1
      go_wp2
      go_ret
      exact ⟨by simp [stateB, hl, hh, downS], hb⟩

/-- The copy holds the highest term, which is above 0. -/
def InS (g : List UInt8 → Option Int) (x : ByteArray) : Prop := (∀ k t, g k = some t → t ≤ getT g x) ∧ 0 < getT g x

end Go.Proofs.Qxb6608675aMods
