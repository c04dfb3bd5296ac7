/- A slice of records that came in, opened. -/
import Derived.Test.Qxb6608675aModsRecs
import Derived.ProofKit
import Derived.OpenShut
import Derived.ShutString
import Derived.ChangeOld
import Derived.Below
import Derived.Deep.Slices
namespace Go.Proofs.Qxb6608675aMods
open Go.ChangeShapes Go.WideShapes Go.ChangeAt Go.RowKit Go.Deep

theorem cells72 : Trym.prog.cellsOf 72 = 9 := by kernel_rfl
theorem cells9 : Trym.prog.cellsOf 9 = 1 := by kernel_rfl
theorem cells4 : Trym.prog.cellsOf 4 = 1 := by kernel_rfl
theorem cells60 : Trym.prog.cellsOf 60 = 1 := by kernel_rfl

theorem nine {l : List Value} (h : l.length = 9) : ∃ a b c d e f g i j, l = [a, b, c, d, e, f, g, i, j] := by
  match l, h with
  | [a, b, c, d, e, f, g, i, j], _ => exact ⟨a, b, c, d, e, f, g, i, j, rfl⟩

theorem open_rec {H : Type} {enc : TypeId × Value → H} {W : World} {base : Nat} {sp : Nat → Bool} {held : Bool} {n : Nat} {cs : List Value} {x : DataW H × List MemPlace}
    (h : DataW.trod enc Trym.prog W base sp held n 72 cs = some x) : ∃ r : Rec, cs = [.string r.name, .bool r.live, .string r.nd, .string r.pd, .bool r.inC, .bool r.hasT, .int .u64 r.term, .bool r.hasSt, .string r.st] ∧ r.ok := by
  obtain ⟨xs, m, rfl, _, hl, hxl, hf⟩ := DataW.trod_struct Trym.underlying72 h
  rw [cells72] at hl
  obtain ⟨c0, c1, c2, c3, c4, c5, c6, c7, c8, rfl⟩ := nine hl
  have hxl' : xs.length = 9 := hxl
  have g : ∀ i, i < 9 → ∃ y, xs[i]? = some y := fun i hi => ⟨xs[i], List.getElem?_eq_getElem (by omega)⟩
  obtain ⟨y0, e0⟩ := g 0 (by omega)
  obtain ⟨y1, e1⟩ := g 1 (by omega)
  obtain ⟨y2, e2⟩ := g 2 (by omega)
  obtain ⟨y3, e3⟩ := g 3 (by omega)
  obtain ⟨y4, e4⟩ := g 4 (by omega)
  obtain ⟨y5, e5⟩ := g 5 (by omega)
  obtain ⟨y6, e6⟩ := g 6 (by omega)
  obtain ⟨y7, e7⟩ := g 7 (by omega)
  obtain ⟨y8, e8⟩ := g 8 (by omega)
  have f0 := (hf 0 _ rfl).trans e0
  have f1 := (hf 1 _ rfl).trans e1
  have f2 := (hf 2 _ rfl).trans e2
  have f3 := (hf 3 _ rfl).trans e3
  have f4 := (hf 4 _ rfl).trans e4
  have f5 := (hf 5 _ rfl).trans e5
  have f6 := (hf 6 _ rfl).trans e6
  have f7 := (hf 7 _ rfl).trans e7
  have f8 := (hf 8 _ rfl).trans e8
  obtain ⟨s0, k0, _, w0⟩ := DataW.trod_string Trym.underlying9 f0
  obtain ⟨s1, k1, _⟩ := DataW.trod_bool Trym.underlying4 f1
  obtain ⟨s2, k2, _, w2⟩ := DataW.trod_string Trym.underlying9 f2
  obtain ⟨s3, k3, _, w3⟩ := DataW.trod_string Trym.underlying9 f3
  obtain ⟨s4, k4, _⟩ := DataW.trod_bool Trym.underlying4 f4
  obtain ⟨s5, k5, _⟩ := DataW.trod_bool Trym.underlying4 f5
  obtain ⟨s6, k6, _, w6⟩ := DataW.trod_int Trym.underlying60 f6
  obtain ⟨s7, k7, _⟩ := DataW.trod_bool Trym.underlying4 f7
  obtain ⟨s8, k8, _, w8⟩ := DataW.trod_string Trym.underlying9 f8
  simp [cells9, cells4, cells60] at k0 k1 k2 k3 k4 k5 k6 k7 k8
  subst k0 k1 k2 k3 k4 k5 k6 k7 k8
  exact ⟨⟨s0, s1, s2, s3, s4, s5, s6, s7, s8⟩, rfl, w0, w2, w3, w8, w6⟩

theorem open_recs {H : Type} {enc : TypeId × Value → H} {W : World} {base : Nat} {sp : Nat → Bool} {held : Bool} {fuel : Nat} {a : Option Addr} {len cap : Nat} {x : DataW H × List MemPlace}
    (hf : DataW.trod enc Trym.prog W base sp held fuel 53 [.slice a len cap] = some x) : ∃ rs, IsRecs W (.slice a len cap) rs ∧ (∀ r ∈ rs, r.ok) ∧ rs.length ≤ maxLen := by
  rcases open_slice Trym.underlying53 hf with ⟨hcs, _⟩ | ⟨ad, l, c, m, n, D, Pl, hcs, _, hl, hm, hmm, _, hx⟩
  · simp at hcs
    obtain ⟨rfl, rfl, rfl⟩ := hcs
    exact ⟨[], .inl ⟨none, 0, rfl, rfl⟩, by simp, by simp⟩
  · simp at hcs
    obtain ⟨rfl, rfl, rfl⟩ := hcs
    rw [cells72] at hx
    have hle : len ≤ m := by rw [hmm]; split <;> omega
    by_cases h0 : len = 0
    · subst h0
      exact ⟨[], .inl ⟨some ad, cap, rfl, rfl⟩, by simp, by simp⟩
    have hrec : ∀ i, i < len → ∃ r : Rec, (∀ j (hj : j < 9), W.cell? (ad.add (i * 9 + j)) = [Value.string r.name, .bool r.live, .string r.nd, .string r.pd, .bool r.inC, .bool r.hasT, .int .u64 r.term, .bool r.hasSt, .string r.st][j]?) ∧ r.ok := fun i hi => by
      obtain ⟨cs', h1, h2⟩ := hx i (by omega)
      obtain ⟨r, rfl, hr⟩ := open_rec h2
      obtain ⟨_, _, h3⟩ := World.cells?_some h1
      exact ⟨r, fun j hj => by rw [← add_add]; exact h3 j hj, hr⟩
    obtain ⟨R, hR⟩ := @choose_lt Rec ⟨⟨⟨#[]⟩, false, ⟨#[]⟩, ⟨#[]⟩, false, false, 0, false, ⟨#[]⟩⟩⟩ len _ hrec
    obtain ⟨b, off, spot⟩ := ad
    have hc0 := (hR 0 (by omega)).1 0 (by omega)
    have hspot : spot = none := by simpa [Addr.add] using World.cell?_spot hc0
    subst hspot
    have hlen : ((List.range len).map R).length = len := by simp
    refine ⟨(List.range len).map R, .inr ⟨b, off, cap, by rw [hlen], by omega, ?_, fun k hk => ?_⟩, fun r hr => ?_, by rw [hlen]; omega⟩
    · rw [add_plain] at hc0
      exact World.block_lt_of_cell? W _ hc0
    · rw [hlen] at hk
      have hk' := (hR k hk).1
      have e : ((List.range len).map R)[k] = R k := by simp
      rw [e]
      simp only [add_plain] at hk'
      refine ⟨?_, ?_, ?_, ?_, ?_, ?_, ?_, ?_, ?_⟩
      · exact hk' 0 (by omega)
      · exact hk' 1 (by omega)
      · exact hk' 2 (by omega)
      · exact hk' 3 (by omega)
      · exact hk' 4 (by omega)
      · exact hk' 5 (by omega)
      · exact hk' 6 (by omega)
      · exact hk' 7 (by omega)
      · exact hk' 8 (by omega)
    · obtain ⟨i, hi, rfl⟩ := List.mem_map.1 hr
      exact (hR i (by simpa using hi)).2

end Go.Proofs.Qxb6608675aMods
