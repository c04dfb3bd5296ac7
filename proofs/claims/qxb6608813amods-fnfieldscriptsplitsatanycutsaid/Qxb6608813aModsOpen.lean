/- Slices of bytes and of strings that came in, opened. -/
import Derived.Test.Qxb6608813aModsParts
import Derived.ProofKit
import Derived.OpenShut
import Derived.ShutString
import Derived.ChangeOld
import Derived.Below
import Derived.Deep.Slices
namespace Go.Proofs.Qxb6608813aMods
open Go.ChangeShapes Go.WideShapes Go.ChangeAt Go.RowKit Go.Deep

theorem cells5 : Trym.prog.cellsOf 5 = 1 := by kernel_rfl
theorem cells9 : Trym.prog.cellsOf 9 = 1 := by kernel_rfl

/-- A slice of elements of one cell each: every cell is there and has been read. -/
theorem open_cells {H : Type} {enc : TypeId × Value → H} {W : World} {base : Nat} {sp : Nat → Bool} {held : Bool} {fuel : Nat} {t e : TypeId} {a : Option Addr} {len cap : Nat} {x : DataW H × List MemPlace} (ht : Trym.prog.underlying t = some (.slice e)) (hc : Trym.prog.cellsOf e = 1)
    (hf : DataW.trod enc Trym.prog W base sp held fuel t [.slice a len cap] = some x) : len ≤ maxLen ∧ (0 < len → ∃ b off, a = some ⟨b, off, none⟩ ∧ b < W.heap.size ∧ ∀ i, i < len → ∃ u n y, W.cell? ⟨b, off + i, none⟩ = some u ∧ DataW.trod enc Trym.prog W base sp held n e [u] = some y) := by
  rcases open_slice ht hf with ⟨hcs, _⟩ | ⟨ad, l, c, m, n, D, Pl, hcs, _, hl, hm, hmm, _, hx⟩
  · simp at hcs
    obtain ⟨rfl, rfl, rfl⟩ := hcs
    exact ⟨by simp, fun h => absurd h (by omega)⟩
  · simp at hcs
    obtain ⟨rfl, rfl, rfl⟩ := hcs
    rw [hc] at hx
    have hle : len ≤ m := by rw [hmm]; split <;> omega
    refine ⟨by omega, fun hpos => ?_⟩
    have hel : ∀ i, i < len → ∃ u y, W.cell? (ad.add i) = some u ∧ DataW.trod enc Trym.prog W base sp held n e [u] = some y := fun i hi => by
      obtain ⟨cs', h1, h2⟩ := hx i (by omega)
      obtain ⟨h4, h5, h3⟩ := World.cells?_some h1
      match cs', h4, h2, h3 with
      | [u], _, h2, h3 =>
        have := h3 0 (by omega)
        rw [add_add] at this
        exact ⟨u, _, by simpa using this, h2⟩
    obtain ⟨b, off, spot⟩ := ad
    obtain ⟨u0, y0, hc0, _⟩ := hel 0 hpos
    have hspot : spot = none := by simpa [Addr.add] using World.cell?_spot hc0
    subst hspot
    refine ⟨b, off, rfl, ?_, fun i hi => ?_⟩
    · rw [add_plain] at hc0
      exact World.block_lt_of_cell? W _ hc0
    · obtain ⟨u, y, h1, h2⟩ := hel i hi
      rw [add_plain] at h1
      exact ⟨u, n, y, h1, h2⟩

theorem open_bs {H : Type} {enc : TypeId × Value → H} {W : World} {base : Nat} {sp : Nat → Bool} {held : Bool} {fuel : Nat} {a : Option Addr} {len cap : Nat} {x : DataW H × List MemPlace}
    (hf : DataW.trod enc Trym.prog W base sp held fuel 22 [.slice a len cap] = some x) : ∃ zs, IsB W W.heap.size (.slice a len cap) zs ∧ zs.length ≤ maxLen := by
  obtain ⟨hl, h⟩ := open_cells Trym.underlying22 cells5 hf
  by_cases h0 : 0 < len
  · obtain ⟨b, off, rfl, hb, hc⟩ := h h0
    have hz : ∀ i, i < len → ∃ z : Int, W.cell? ⟨b, off + i, none⟩ = some (.int .u8 z) := fun i hi => by
      obtain ⟨u, n, y, h1, h2⟩ := hc i hi
      obtain ⟨z, hz, _⟩ := DataW.trod_int Trym.underlying5 h2
      simp at hz
      exact ⟨z, by rw [h1, hz]⟩
    obtain ⟨R, hR⟩ := @choose_lt Int ⟨0⟩ len _ hz
    have hlen : ((List.range len).map R).length = len := by simp
    refine ⟨(List.range len).map R, ⟨some ⟨b, off, none⟩, cap, by rw [hlen], fun _ => ⟨b, off, rfl, hb, fun k hk => ?_⟩⟩, by rw [hlen]; exact hl⟩
    rw [hlen] at hk
    rw [hR k hk]
    simp
  · obtain rfl : len = 0 := by omega
    exact ⟨[], ⟨a, cap, rfl, fun h => absurd h (by simp)⟩, by simp⟩

theorem open_ss {H : Type} {enc : TypeId × Value → H} {W : World} {base : Nat} {sp : Nat → Bool} {held : Bool} {fuel : Nat} {a : Option Addr} {len cap : Nat} {x : DataW H × List MemPlace}
    (hf : DataW.trod enc Trym.prog W base sp held fuel 23 [.slice a len cap] = some x) : ∃ ks, IsS W W.heap.size (.slice a len cap) ks ∧ ks.length ≤ maxLen ∧ ∀ k ∈ ks, k.size ≤ maxLen := by
  obtain ⟨hl, h⟩ := open_cells Trym.underlying23 cells9 hf
  by_cases h0 : 0 < len
  · obtain ⟨b, off, rfl, hb, hc⟩ := h h0
    have hz : ∀ i, i < len → ∃ s : ByteArray, W.cell? ⟨b, off + i, none⟩ = some (.string s) ∧ s.size ≤ maxLen := fun i hi => by
      obtain ⟨u, n, y, h1, h2⟩ := hc i hi
      obtain ⟨s, hs, _, w⟩ := DataW.trod_string Trym.underlying9 h2
      simp at hs
      exact ⟨s, by rw [h1, hs], w⟩
    obtain ⟨R, hR⟩ := @choose_lt ByteArray ⟨⟨#[]⟩⟩ len _ hz
    have hlen : ((List.range len).map R).length = len := by simp
    refine ⟨(List.range len).map R, ⟨some ⟨b, off, none⟩, cap, by rw [hlen], fun _ => ⟨b, off, rfl, hb, fun k hk => ?_⟩⟩, by rw [hlen]; exact hl, fun s hs => ?_⟩
    · rw [hlen] at hk
      rw [(hR k hk).1]
      simp
    · obtain ⟨i, hi, rfl⟩ := List.mem_map.1 hs
      exact (hR i (by simpa using hi)).2
  · obtain rfl : len = 0 := by omega
    exact ⟨[], ⟨a, cap, rfl, fun h => absurd h (by simp)⟩, by simp, by simp⟩

end Go.Proofs.Qxb6608813aMods
