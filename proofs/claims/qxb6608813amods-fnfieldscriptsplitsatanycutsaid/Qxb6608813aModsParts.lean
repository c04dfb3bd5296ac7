/- Slices of bytes and of strings that are read; zzCloneBytes, zzSameBytes, ZZpartsField, ZZpartsJS, ZZpartsInts, ZZnewPartsWriter. -/
import Derived.Test.Qxb6608813aModsField
namespace Go.Proofs.Qxb6608813aMods
open Go.RowKit

/-- v is a slice of the bytes zs, in a block below B (where there is one to read). -/
def IsB (w : World) (B : Nat) (v : Value) (zs : List Int) : Prop :=
  ∃ a c, v = .slice a zs.length c ∧ (0 < zs.length → ∃ b off, a = some ⟨b, off, none⟩ ∧ b < B ∧ ∀ k (hk : k < zs.length), w.cell? ⟨b, off + k, none⟩ = some (.int .u8 zs[k]))

/-- v is a slice of the strings ks, in a block below B. -/
def IsS (w : World) (B : Nat) (v : Value) (ks : List ByteArray) : Prop :=
  ∃ a c, v = .slice a ks.length c ∧ (0 < ks.length → ∃ b off, a = some ⟨b, off, none⟩ ∧ b < B ∧ ∀ k (hk : k < ks.length), w.cell? ⟨b, off + k, none⟩ = some (.string ks[k]))

theorem IsB.below {w w' : World} {B : Nat} {v : Value} {zs : List Int} (h : IsB w B v zs) (hb : Below B w w') : IsB w' B v zs := by
  obtain ⟨a, c, rfl, h⟩ := h
  refine ⟨a, c, rfl, fun hp => ?_⟩
  obtain ⟨b, off, rfl, hlt, hc⟩ := h hp
  exact ⟨b, off, rfl, hlt, fun k hk => by rw [hb.cell (p := ⟨b, off + k, none⟩) hlt]; exact hc k hk⟩

theorem IsB.mono {w : World} {B B' : Nat} {v : Value} {zs : List Int} (h : IsB w B v zs) (hb : B ≤ B') : IsB w B' v zs := by
  obtain ⟨a, c, rfl, h⟩ := h
  refine ⟨a, c, rfl, fun hp => ?_⟩
  obtain ⟨b, off, rfl, hlt, hc⟩ := h hp
  exact ⟨b, off, rfl, by omega, hc⟩

theorem IsS.below {w w' : World} {B : Nat} {v : Value} {ks : List ByteArray} (h : IsS w B v ks) (hb : Below B w w') : IsS w' B v ks := by
  obtain ⟨a, c, rfl, h⟩ := h
  refine ⟨a, c, rfl, fun hp => ?_⟩
  obtain ⟨b, off, rfl, hlt, hc⟩ := h hp
  exact ⟨b, off, rfl, hlt, fun k hk => by rw [hb.cell (p := ⟨b, off + k, none⟩) hlt]; exact hc k hk⟩

theorem Own.isB {W : World} {base : Nat} {v : Value} {n : Nat} {zs : List Int} (h : Own W base v n zs) : IsB W W.heap.size v zs := by
  have hl := h.len
  have hc := fun g => World.ownsRow.cells (g := g) h
  rcases h.2 with ⟨rfl, h0⟩ | ⟨g, cap, cur, rfl, _, hh, _⟩
  · rw [h0] at hl
    exact ⟨none, 0, by rw [hl], fun hp => absurd hp (by omega)⟩
  · refine ⟨_, cap, by rw [hl], fun _ => ⟨g, 0, rfl, (Array.getElem?_eq_some_iff.1 hh).1, fun k hk => ?_⟩⟩
    have := hc g rfl k (.int .u8 zs[k]) (by simp [hk])
    rw [Nat.zero_add]
    rwa [Addr.add_lit, Nat.zero_add] at this

theorem made {w1 : World} {base g n : Nat} {xs : List Value} (h : w1.ownsRow base 5 1 (.slice (some ⟨g, 0, none⟩) n n) n xs) : ∃ cur : Array Value, Hid (w1.heap[g]? = some (.cells cur.toList.toArray 5 (0, 0))) ∧ Hid (cur.size = n) := by
  rcases h.2 with ⟨h, _⟩ | ⟨g', cap, cur, h, _, hh, _, _, hs, _⟩
  · cases h
  · cases h; exact ⟨cur, by unfold Hid; simpa using hh, by unfold Hid; omega⟩

theorem wpList_copy_b {w0 w : World} {ops : Array Oper} {rest : List Oper} {o : Oper} {a : Act} {Q : Exit → Act → World → Prop} (hgd : o.guard = none) (d s : Operand)
    (ho : o.op = .call { callee := .builtin .copy, args := #[d, s], argTypes := #[22, 22] }) (zs : List Int) (sp : Option Addr) (c g : Nat) (hlm : zs.length ≤ maxLen) (hd : a.eval d = .slice (some ⟨g, 0, none⟩) zs.length zs.length) (hs : a.eval s = .slice sp zs.length c)
    (cur : Array Value) (hh : Hid (w.heap[g]? = some (.cells cur.toList.toArray 5 (0, 0)))) (hcs : Hid (cur.size = zs.length)) (hg : w0.heap.size ≤ g)
    (HC : Hid (0 < zs.length → ∃ b off, sp = some ⟨b, off, none⟩ ∧ b < w0.heap.size ∧ ∀ k (hk : k < zs.length), w0.cell? ⟨b, off + k, none⟩ = some (.int .u8 zs[k]))) (hb : Below w0.heap.size w0 w)
    (h : ∀ w', Own w' w0.heap.size (.slice (some ⟨g, 0, none⟩) zs.length zs.length) zs.length zs → Below w0.heap.size w0 w' → wpList Trym.prog ops Q rest (a.put o.dst (goInt zs.length)) w') :
    wpList Trym.prog ops Q (o :: rest) a w := by
  have hz : (zs.map (Value.int .u8)).length = zs.length := by simp
  have hc := hcs.out
  refine wpList_copy_splice hgd d s 22 22 ho 5 Trym.underlying22 (by kernel_rfl) _ _ zs.length zs.length zs.length c hd hs g 0 cur.toList 5 hh.out (zs.map (Value.int .u8)) (by rw [hz]; exact (Nat.min_self _).symm) ?_ (by simp [hc]) (fun v hv => by obtain ⟨_, _, rfl⟩ := List.mem_map.1 hv; rfl) w0.heap.size w0 hb hg ?_
  · intro hp
    obtain ⟨b, off, rfl, hlt, hcell⟩ := HC.out (by omega)
    refine ⟨rfl, _, rfl, fun j v hj => ?_⟩
    obtain ⟨hj1, hj2⟩ := List.getElem?_eq_some_iff.1 hj
    rw [Addr.add_lit, hb.cell (p := ⟨b, off + j, none⟩) hlt, hcell j (by omega), ← hj2]
    simp
  · intro w' hh' hb'
    rw [hz]
    refine h w' ⟨by simp, .inr ⟨g, zs.length, _, rfl, hg, hh'.out, Nat.le_refl _, hlm, ?_, ?_⟩⟩ hb'
    · simp [splice, hc]
    · simp [splice]

set_option maxHeartbeats 1000000 in
theorem clone_any (v : Value) (zs : List Int) (w : World) (hv : IsB w w.heap.size v zs) (hl : zs.length ≤ 16777216) :
    Calls Trym.prog 8 #[v] w fun e w' => ∃ a c, e = .returned (.slice a zs.length c) ∧ Own w' w.heap.size (.slice a zs.length c) zs.length zs ∧ Below w.heap.size w w' := by
  obtain ⟨i0, hi, hz0, hz1, hz2⟩ := info_parts info5
  have q22 : ∀ (w : World) (a : Option Addr) (n c n' c' : Nat), (binOp .eql 22 (.slice a n c) (.slice none n' c')).run Trym.prog w = .ok (.bool a.isNone) w := fun w a n c n' c' => Lib.run_eql_slice_nil w _ _ a n c n' c' Trym.underlying22
  obtain ⟨a, c, rfl, hc⟩ := hv
  have HC : Hid (0 < zs.length → ∃ b off, a = some ⟨b, off, none⟩ ∧ b < w.heap.size ∧ ∀ k (hk : k < zs.length), w.cell? ⟨b, off + k, none⟩ = some (.int .u8 zs[k])) := hc
  clear hc
  cases a with
  | none =>
    have h0 : zs = [] := by
      cases zs with
      | nil => rfl
      | cons z t => obtain ⟨_, _, h, _⟩ := HC.out (by simp); cases h
    subst h0
    go_enter Trym.func8, Trym.ntmps8
    go_wp2
    go_ret
    exact ⟨none, 0, rfl, ⟨by simp, .inl ⟨rfl, rfl⟩⟩, Below.refl _ _⟩
  | some a =>
    go_enter Trym.func8, Trym.ntmps8
    go_upto_region 4 with (at_make; refine wpList_make_full _ rfl _ _ 22 rfl w.heap.size 5 i0 _ 1 Trym.underlying22 hi hz0 hz1 _ _ _ _ zs.length rfl rfl rfl rfl (by rw [hz2]; omega) (by unfold maxLen; omega) (Nat.le_refl _) ?_; intro w1 hown hgrow; obtain ⟨cur, hh1, hs1⟩ := made hown; have hb1 : Below w.heap.size w w1 := (Below.refl _ _).grown hgrow (Nat.le_refl _) (by simp); clear hown hgrow)
    go_wp2_with (refine wpList_copy_b rfl _ _ rfl zs (some a) c w.heap.size (by unfold maxLen; omega) rfl rfl cur hh1 hs1 (Nat.le_refl _) HC hb1 ?_; intro w2 hown2 hb2)
    go_ret
    exact ⟨_, _, rfl, hown2, hb2⟩

set_option maxHeartbeats 1000000 in
theorem same_any (v1 v2 : Value) (zs : List Int) (w : World) (h1 : IsB w w.heap.size v1 zs) (h2 : IsB w w.heap.size v2 zs) (hl : zs.length ≤ 16777216) :
    Calls Trym.prog 13 #[v1, v2] w fun e w' => e = .returned (.bool true) ∧ Below w.heap.size w w' := by
  obtain ⟨a1, c1, rfl, hc1⟩ := h1
  obtain ⟨a2, c2, rfl, hc2⟩ := h2
  by_cases hp : 0 < zs.length
  · obtain ⟨b1, o1, rfl, l1, hd1⟩ := hc1 hp
    obtain ⟨b2, o2, rfl, l2, hd2⟩ := hc2 hp
    clear hc1 hc2
    go_enter Trym.func13, Trym.ntmps13
    go_wp2
    go_loopg [5] zs.length (fun gg i wr => ∃ k : Nat, k ≤ zs.length ∧ gg = zs.length - k ∧ i = .int .i64 k ∧ Below w.heap.size w wr)
    case atStart => exact ⟨0, Nat.zero_le _, rfl, rfl, Below.refl _ _⟩
    case round =>
      obtain ⟨k, hk, rfl, rfl, hbw⟩ := hrel
      by_cases hlt : k < zs.length
      · have e1 := (hbw.cell (p := ⟨b1, o1 + k, none⟩) l1).trans (hd1 k hlt)
        have e2 := (hbw.cell (p := ⟨b2, o2 + k, none⟩) l2).trans (hd2 k hlt)
        clear hd1 hd2
        generalize zs[k] = z at *
        go_wp2
        go_quiet (fail)
        go_wp2
        go_roundg (zs.length - (k + 1))
        case measure => omega
        case rel => exact ⟨k + 1, by omega, rfl, by go_num, below_drewN hbw _⟩
      · go_wp2
        go_ret
        exact ⟨rfl, hbw⟩
  · have h0 : zs = [] := List.eq_nil_of_length_eq_zero (by omega)
    subst h0
    go_enter Trym.func13, Trym.ntmps13
    go_wp2
    refine wp_loop_rounds 1 ?_
    rw [rounds_succ]
    go_wp2
    go_ret
    exact ⟨rfl, Below.refl _ _⟩

theorem partsField_any (base bw bm : Nat) (v out : Value) (n : Nat) (zs : List Int) (m : Bool) (i1 i2 i3 i4 : Int) (key : ByteArray) (w : World) (hW : Wr w base bw bm v out n zs m i1 i2 i3 i4) (hl : n + key.size ≤ 134217728) :
    Calls Trym.prog 10 #[.pointer (some ⟨bw, 0, none⟩), .pointer (some ⟨bm, 0, none⟩), .string key] w fun e w' => e = .returned (.tuple #[]) ∧ (∃ v' n', Wr w' base bw bm v' out n' (zs ++ (comma m ++ mem key)) true i1 i2 i3 i4) ∧ Below base w w' := by
  go_enter Trym.func10, Trym.ntmps10
  go_wp2_with fail
  refine (field_any base bw bm v out n zs m i1 i2 i3 i4 key w hW hl).mono ?_
  rintro e w' ⟨rfl, h⟩
  go_wp2_with fail
  go_end0
  exact ⟨rfl, h⟩

theorem partsJS_any (base bw bm : Nat) (v out : Value) (n : Nat) (zs : List Int) (m : Bool) (i1 i2 i3 i4 : Int) (w : World) (hW : Wr w base bw bm v out n zs m i1 i2 i3 i4) :
    Calls Trym.prog 11 #[.pointer (some ⟨bw, 0, none⟩)] w fun e w' => e = .returned v ∧ w' = w := by
  obtain ⟨a0, c0, rfl⟩ := hW.own.shape
  obtain ⟨c1, c2, f1, f2⟩ := hW.cells
  go_enter Trym.func11, Trym.ntmps11
  go_wp2
  go_ret
  exact ⟨rfl, rfl⟩

theorem newParts_any (a : Option Addr) (n c : Nat) (i1 i2 i3 i4 : Int) (w : World) :
    Calls Trym.prog 9 #[.slice a n c, .int .i64 i1, .int .i64 i2, .int .i64 i3, .int .i64 i4] w fun e w' => e = .returned (.pointer (some ⟨w.heap.size, 0, none⟩)) ∧ w' = w.alloc (.cells #[.slice a n c, .int .i64 i1, .int .i64 i2, .int .i64 i3, .int .i64 i4, .nilFunc] 61) := by
  go_enter Trym.func9, Trym.ntmps9
  go_wp2
  go_ret
  exact ⟨rfl, rfl⟩

theorem Wr.ints {W : World} {base bw bm : Nat} {v out : Value} {n : Nat} {zs : List Int} {m : Bool} {i1 i2 i3 i4 : Int} (h : Wr W base bw bm v out n zs m i1 i2 i3 i4) :
    W.cell? ⟨bw, 1, none⟩ = some (.int .i64 i1) ∧ W.cell? ⟨bw, 2, none⟩ = some (.int .i64 i2) ∧ W.cell? ⟨bw, 3, none⟩ = some (.int .i64 i3) ∧ W.cell? ⟨bw, 4, none⟩ = some (.int .i64 i4) := by
  refine ⟨?_, ?_, ?_, ?_⟩ <;> (rw [cell_of_row W _ _ _ 61 (0, 0) h.hw]; rfl)

set_option maxHeartbeats 1000000 in
theorem partsInts_any (base bw bm : Nat) (v out : Value) (n : Nat) (zs : List Int) (m : Bool) (i1 i2 i3 i4 : Int) (w : World) (hW : Wr w base bw bm v out n zs m i1 i2 i3 i4) :
    Calls Trym.prog 14 #[.pointer (some ⟨bw, 0, none⟩)] w fun e w' => e = .returned (.tuple #[.int .i64 i1, .int .i64 i2, .int .i64 i3, .int .i64 i4]) ∧ Below w.heap.size w w' := by
  obtain ⟨d1, d2, d3, d4⟩ := hW.ints
  clear hW
  go_enter Trym.func14, Trym.ntmps14
  go_wp2
  refine wp_region_quiet_lit (by kernel_rfl) (by kernel_rfl) ?_
  iterate 20 (go_big_quiet_step (fail))
  refine wpQuiet_nil ?_
  intro _ hw'
  obtain ⟨nq, hw''⟩ := hw'
  subst hw''
  go_wp2
  exact bodyPost_ret (v := .tuple #[.int .i64 i1, .int .i64 i2, .int .i64 i3, .int .i64 i4]) (by simp [results, Trym.results14, go_sem]) rfl ⟨rfl, below_drewN (Below.refl _ _) _⟩

theorem new2 (w : World) (x y : Int) : ∀ j u, ([x, y].map (Value.int .u8))[j]? = some u → (w.alloc (.cells #[.int .u8 x, .int .u8 y] 5)).cell? ((⟨w.heap.size, 0, none⟩ : Addr).add j) = some u := by
  intro j u hj
  rw [Addr.add_lit, cell_of_row _ w.heap.size (0 + j) #[.int .u8 x, .int .u8 y] 5 (0, 0) (heap_alloc_new w _), Nat.zero_add]
  match j, hj with
  | 0, hj => simpa using hj
  | 1, hj => simpa using hj
  | j + 2, hj => simp at hj

set_option maxHeartbeats 1000000 in
theorem members_any (v vk : Value) (n : Nat) (zs : List Int) (ks : List ByteArray) (base : Nat) (w : World) (hown : Own w base v n zs) (hB : base ≤ w.heap.size) (hk : IsS w base vk ks) (hkl : ks.length ≤ 65536) (hl : n + tot ks ≤ 134217728) :
    Calls Trym.prog 12 #[v, vk] w fun e w' => ∃ a n' c, e = .returned (.slice a n' c) ∧ Own w' base (.slice a n' c) n' (zs ++ wrt false ks) ∧ Below base w w' := by
  obtain ⟨a0, c0, rfl⟩ := hown.shape
  obtain ⟨ak, ck, rfl, hck⟩ := hk
  have HK : Hid (0 < ks.length → ∃ b off, ak = some ⟨b, off, none⟩ ∧ b < base ∧ ∀ k (hk : k < ks.length), w.cell? ⟨b, off + k, none⟩ = some (.string ks[k])) := hck
  clear hck
  have hzl := hown.len
  go_enter Trym.func12, Trym.ntmps12
  go_wp2
  go_loopg [0, 5] ks.length (fun gg x i wr => ∃ (k n' : Nat) (a' : Option Addr) (c' : Nat), k ≤ ks.length ∧ gg = ks.length - k ∧ i = .int .i64 k ∧ x = .slice a' n' c' ∧ Own wr base (.slice a' n' c') n' (zs ++ wrt false (ks.take k)) ∧ Below base w wr)
  case atStart => exact ⟨0, n, a0, c0, Nat.zero_le _, rfl, rfl, rfl, by simpa [wrt] using hown, Below.refl _ _⟩
  case round =>
    obtain ⟨k, n', a', c', hk, rfl, rfl, rfl, hown', hbw⟩ := hrel
    have hn' := hown'.len
    rw [List.length_append] at hn'
    have := wrt_length_le (ks.take k) false
    have := tot_take_le ks k
    have hs : base ≤ wr.heap.size := Nat.le_trans hB hbw.size
    by_cases hlt : k < ks.length
    · obtain ⟨b, off, rfl, hb, hc⟩ := HK.out (by omega)
      have hc1 := hc k hlt
      have HS : Hid (ks.take (k + 1) = ks.take k ++ [ks[k]]) := List.take_succ_eq_append_getElem hlt
      have hm := tot_mem (List.getElem_mem hlt)
      clear hc
      have HC1 : Hid (w.cell? ⟨b, off + k, none⟩ = some (.string ks[k])) := hc1
      generalize ks[k] = key at *
      by_cases hk0 : k = 0
      · have HF : Hid (flag false (ks.take k) = false) := by unfold Hid; simp [flag, hk0]
        have HC1 : Hid (w.cell? ⟨b, off, none⟩ = some (.string key)) := by rw [hk0] at HC1; exact HC1
        go_upto_region 6 with fail
        obtain ⟨wA, A1, D1, n1, hownA, hbA, hn1, hwA, hA, hN, hD⟩ : ∃ wA A1 D1 n1, Own wA base (.slice A1 n1 D1) n1 (zs ++ wrt false (ks.take k) ++ comma false) ∧ Below base w wA ∧ n1 ≤ n' + 1 ∧ wr = wA ∧ a' = A1 ∧ n' = n1 ∧ c' = D1 := ⟨wr, a', c', n', by simpa [comma] using hown', hbw, by omega, rfl, rfl, rfl, rfl⟩
        have hsA : base ≤ wA.heap.size := Nat.le_trans hB hbA.size
        rw [hwA, hA, hN, hD]
        clear hc1
        have tok2 : True := trivial
        have tok3 : True := trivial
        go_wp2_with (first
          | (at_builtin; have _t := tok2; refine wpList_append_b rfl _ _ rfl base (.slice A1 n1 D1) n1 _ rfl (hownA.alloc _) ⟨wA.heap.size, 0, none⟩ 1 1 [34] rfl rfl (new1 wA 34) (by omega) (by simp; omega) ?_; intro a2 d2 w2 hown2 hg2; have hb2 : Below base w w2 := (hbA.alloc hsA _).grown hg2 (by simp; omega) (fun k hk => (hownA.lt k hk).1); have hc2 := (hb2.cell (p := ⟨b, off, none⟩) hb).trans HC1.out; have hs2 : base ≤ w2.heap.size := Nat.le_trans hB hb2.size; clear tok2)
          | (at_builtin; have _t := tok3; refine wpList_append_str rfl _ _ rfl base (.slice a2 (n1 + 1) d2) (n1 + 1) _ rfl hown2 key rfl (by omega) hs2 ?_; intro a3 d3 w3 hown3 hg3; have hb3 : Below base w w3 := hb2.grown hg3 hs2 (fun k hk => (hown2.lt k hk).1); have hs3 : base ≤ w3.heap.size := Nat.le_trans hB hb3.size; clear tok3)
          | (at_builtin; refine wpList_append_b rfl _ _ rfl base (.slice a3 (n1 + 1 + key.size) d3) (n1 + 1 + key.size) _ rfl (hown3.alloc _) ⟨w3.heap.size, 0, none⟩ 2 2 [34, 58] rfl rfl (new2 w3 34 58) (by omega) (by simp; omega) ?_; intro a4 d4 w4 hown4 hg4; have hb4 : Below base w w4 := (hb3.alloc hs3 _).grown hg4 (by simp; omega) (fun k hk => (hown3.lt k hk).1)))
        go_roundg (ks.length - (k + 1))
        case measure => omega
        case rel =>
          refine ⟨k + 1, _, _, _, by omega, rfl, by go_num, rfl, ?_, hb4⟩
          rw [HS.out, wrt_snoc, HF.out]
          simpa [mem, comma, List.append_assoc] using hown4
      · have HF : Hid (flag false (ks.take k) = true) := by
          unfold Hid
          have : ks.take k ≠ [] := by intro e; have h := congrArg List.length e; rw [List.length_take, List.length_nil] at h; omega
          simp [flag, this]
        have hk1 : 0 < k := by omega
        go_upto_region 6 with (at_builtin; refine wpList_append_b rfl _ _ rfl base (.slice a' n' c') n' _ rfl (hown'.alloc _) ⟨wr.heap.size, 0, none⟩ 1 1 [44] rfl rfl (new1 wr 44) (by omega) (by simp; omega) ?_; intro A1 D1 wA hownA hgA; have hbA : Below base w wA := (hbw.alloc hs _).grown hgA (by simp; omega) (fun k hk => (hown'.lt k hk).1); have hsA : base ≤ wA.heap.size := Nat.le_trans hB hbA.size)
        obtain ⟨n1, hn1, hn1'⟩ : ∃ n1, n' + 1 = n1 ∧ n1 ≤ n' + 1 := ⟨_, rfl, by omega⟩
        rw [hn1] at hownA ⊢
        clear hgA
        clear hc1
        have tok2 : True := trivial
        have tok3 : True := trivial
        go_wp2_with (first
          | (at_builtin; have _t := tok2; refine wpList_append_b rfl _ _ rfl base (.slice A1 n1 D1) n1 _ rfl (hownA.alloc _) ⟨wA.heap.size, 0, none⟩ 1 1 [34] rfl rfl (new1 wA 34) (by omega) (by simp; omega) ?_; intro a2 d2 w2 hown2 hg2; have hb2 : Below base w w2 := (hbA.alloc hsA _).grown hg2 (by simp; omega) (fun k hk => (hownA.lt k hk).1); have hc2 := (hb2.cell (p := ⟨b, off + k, none⟩) hb).trans HC1.out; have hs2 : base ≤ w2.heap.size := Nat.le_trans hB hb2.size; clear tok2)
          | (at_builtin; have _t := tok3; refine wpList_append_str rfl _ _ rfl base (.slice a2 (n1 + 1) d2) (n1 + 1) _ rfl hown2 key rfl (by omega) hs2 ?_; intro a3 d3 w3 hown3 hg3; have hb3 : Below base w w3 := hb2.grown hg3 hs2 (fun k hk => (hown2.lt k hk).1); have hs3 : base ≤ w3.heap.size := Nat.le_trans hB hb3.size; clear tok3)
          | (at_builtin; refine wpList_append_b rfl _ _ rfl base (.slice a3 (n1 + 1 + key.size) d3) (n1 + 1 + key.size) _ rfl (hown3.alloc _) ⟨w3.heap.size, 0, none⟩ 2 2 [34, 58] rfl rfl (new2 w3 34 58) (by omega) (by simp; omega) ?_; intro a4 d4 w4 hown4 hg4; have hb4 : Below base w w4 := (hb3.alloc hs3 _).grown hg4 (by simp; omega) (fun k hk => (hown3.lt k hk).1)))
        go_roundg (ks.length - (k + 1))
        case measure => omega
        case rel =>
          refine ⟨k + 1, _, _, _, by omega, rfl, by go_num, rfl, ?_, hb4⟩
          rw [HS.out, wrt_snoc, HF.out]
          simpa [mem, comma, List.append_assoc] using hown4
    · go_wp2
      go_ret
      rw [List.take_of_length_le (by omega)] at hown'
      exact ⟨_, _, _, rfl, hown', hbw⟩

end Go.Proofs.Qxb6608813aMods
