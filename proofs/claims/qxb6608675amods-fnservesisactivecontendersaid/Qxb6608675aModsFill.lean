/- Five maps and a slice of strings that are filled record by record: what zzServeMaps and zzServeProject share. -/
import Derived.Test.Qxb6608675aModsClone
import Derived.Deep.DeepCutAuto
namespace Go.Proofs.Qxb6608675aMods
open Go.RowKit Go.Maps

/-- "http://" + name. -/
def urlOf (s : ByteArray) : ByteArray := ⟨#[104, 116, 116, 112, 58, 47, 47]⟩ ++ s

theorem url_size (s : ByteArray) : (urlOf s).size = 7 + s.size := by simp [urlOf]; rfl

def ps0 : PS := ⟨fun _ => none, fun _ => none, fun _ => none, fun _ => none, fun _ => none⟩
def PS.n1 (S : PS) (r : Rec) : PS := if r.live then { S with nodes := upd S.nodes r.name.data.toList (urlOf r.name).data.toList } else S
def PS.n2 (S : PS) (r : Rec) : PS := { S with ndirs := upd S.ndirs r.name.data.toList r.nd.data.toList }
def PS.n3 (S : PS) (r : Rec) : PS := { S with sdirs := upd S.sdirs r.name.data.toList r.pd.data.toList }
def PS.n4 (S : PS) (r : Rec) : PS := if r.hasT then { S with terms := upd S.terms r.name.data.toList r.term } else S
def PS.n5 (S : PS) (r : Rec) : PS := if r.hasSt then { S with states := upd S.states r.name.data.toList r.st.data.toList } else S
def PS.step (S : PS) (r : Rec) : PS := ((((S.n1 r).n2 r).n3 r).n4 r).n5 r
/-- What the records say. -/
def psOf (l : List Rec) : PS := l.foldl PS.step ps0
def cpStep (cs : List ByteArray) (r : Rec) : List ByteArray := if r.inC then cs ++ [r.name] else cs
def cpOf (l : List Rec) : List ByteArray := l.foldl cpStep []
theorem psOf_snoc (l : List Rec) (r : Rec) : psOf (l ++ [r]) = (psOf l).step r := by simp [psOf]
theorem cpOf_snoc (l : List Rec) (r : Rec) : cpOf (l ++ [r]) = cpStep (cpOf l) r := by simp [cpOf]
theorem cpOf_len : ∀ (l : List Rec) (k : Nat), (cpOf (l.take k)).length ≤ k := by
  intro l k
  have h : ∀ (l : List Rec) (cs : List ByteArray), (l.foldl cpStep cs).length ≤ cs.length + l.length := by
    intro l
    induction l with
    | nil => intro cs; simp
    | cons a t ih =>
      intro cs
      have := ih (cpStep cs a)
      have h2 : (cpStep cs a).length ≤ cs.length + 1 := by unfold cpStep; split <;> simp
      simp only [List.foldl_cons, List.length_cons]; omega
  have := h (l.take k) []
  have h3 := List.length_take_le k l
  simp only [List.length_nil] at this
  unfold cpOf
  omega

/-- The five maps, the slice: what is filled. -/
structure MI (w W : World) (B m1 m2 m3 m4 m5 n : Nat) (E : TypeId) (S : PS) (v : Value) (cs : List ByteArray) : Prop where
  h1 : SMap W 9 m1 n S.nodes
  h2 : SMap W 9 m2 n S.ndirs
  h3 : SMap W 9 m3 n S.sdirs
  h4 : TMap W m4 n S.terms
  h5 : SMap W E m5 n S.states
  own : W.ownsRow B 9 1 v cs.length (cs.map Value.string)
  bel : Below w.heap.size w W
  ord : w.heap.size ≤ m1 ∧ m1 < m2 ∧ m2 < m3 ∧ m3 < m4 ∧ m4 < m5 ∧ m5 < B ∧ B ≤ W.heap.size

section
variable {w W W' : World} {B m1 m2 m3 m4 m5 n : Nat} {E : TypeId} {S : PS} {v : Value} {cs : List ByteArray}

theorem own_kept {m : Nat} (h : W.ownsRow B 9 1 v cs.length (cs.map Value.string)) (hm : m < B) (hg : W.grownBy W' (some m)) : W'.ownsRow B 9 1 v cs.length (cs.map Value.string) := by
  refine h.kept hg ?_
  cases hv : v.ownBlock with
  | none => exact .inl rfl
  | some g => exact .inr (fun e => by have := (h.lt g hv).1; cases e; omega)

theorem MI.put1 (h : MI w W B m1 m2 m3 m4 m5 n E S v cs) {f : List UInt8 → Option (List UInt8)} (hs : SMap W' 9 m1 (n + 1) f) (hg : W.grownBy W' (some m1)) :
    MI w W' B m1 m2 m3 m4 m5 (n + 1) E { S with nodes := f } v cs := by
  obtain ⟨h1, h2, h3, h4, h5, ho, hb, r0, r1, r2, r3, r4, r5, r6⟩ := h
  have hne : ∀ m, m1 < m → some m ≠ some m1 := fun m hm e => by cases e; omega
  exact ⟨hs, (h2.kept hg (hne _ (by omega))).mono (Nat.le_succ _), (h3.kept hg (hne _ (by omega))).mono (Nat.le_succ _), (h4.kept hg (hne _ (by omega))).mono (Nat.le_succ _), (h5.kept hg (hne _ (by omega))).mono (Nat.le_succ _),
    own_kept ho (by omega) hg, hb.grown hg hb.size (fun k e => by cases e; omega), r0, r1, r2, r3, r4, r5, Nat.le_trans r6 hg.size⟩

theorem MI.put2 (h : MI w W B m1 m2 m3 m4 m5 n E S v cs) {f : List UInt8 → Option (List UInt8)} (hs : SMap W' 9 m2 (n + 1) f) (hg : W.grownBy W' (some m2)) :
    MI w W' B m1 m2 m3 m4 m5 (n + 1) E { S with ndirs := f } v cs := by
  obtain ⟨h1, h2, h3, h4, h5, ho, hb, r0, r1, r2, r3, r4, r5, r6⟩ := h
  have hne : ∀ m, m ≠ m2 → some m ≠ some m2 := fun m hm e => by cases e; exact hm rfl
  exact ⟨(h1.kept hg (hne _ (by omega))).mono (Nat.le_succ _), hs, (h3.kept hg (hne _ (by omega))).mono (Nat.le_succ _), (h4.kept hg (hne _ (by omega))).mono (Nat.le_succ _), (h5.kept hg (hne _ (by omega))).mono (Nat.le_succ _),
    own_kept ho (by omega) hg, hb.grown hg hb.size (fun k e => by cases e; omega), r0, r1, r2, r3, r4, r5, Nat.le_trans r6 hg.size⟩

theorem MI.put3 (h : MI w W B m1 m2 m3 m4 m5 n E S v cs) {f : List UInt8 → Option (List UInt8)} (hs : SMap W' 9 m3 (n + 1) f) (hg : W.grownBy W' (some m3)) :
    MI w W' B m1 m2 m3 m4 m5 (n + 1) E { S with sdirs := f } v cs := by
  obtain ⟨h1, h2, h3, h4, h5, ho, hb, r0, r1, r2, r3, r4, r5, r6⟩ := h
  have hne : ∀ m, m ≠ m3 → some m ≠ some m3 := fun m hm e => by cases e; exact hm rfl
  exact ⟨(h1.kept hg (hne _ (by omega))).mono (Nat.le_succ _), (h2.kept hg (hne _ (by omega))).mono (Nat.le_succ _), hs, (h4.kept hg (hne _ (by omega))).mono (Nat.le_succ _), (h5.kept hg (hne _ (by omega))).mono (Nat.le_succ _),
    own_kept ho (by omega) hg, hb.grown hg hb.size (fun k e => by cases e; omega), r0, r1, r2, r3, r4, r5, Nat.le_trans r6 hg.size⟩

theorem MI.put4 (h : MI w W B m1 m2 m3 m4 m5 n E S v cs) {f : List UInt8 → Option Int} (hs : TMap W' m4 (n + 1) f) (hg : W.grownBy W' (some m4)) :
    MI w W' B m1 m2 m3 m4 m5 (n + 1) E { S with terms := f } v cs := by
  obtain ⟨h1, h2, h3, h4, h5, ho, hb, r0, r1, r2, r3, r4, r5, r6⟩ := h
  have hne : ∀ m, m ≠ m4 → some m ≠ some m4 := fun m hm e => by cases e; exact hm rfl
  exact ⟨(h1.kept hg (hne _ (by omega))).mono (Nat.le_succ _), (h2.kept hg (hne _ (by omega))).mono (Nat.le_succ _), (h3.kept hg (hne _ (by omega))).mono (Nat.le_succ _), hs, (h5.kept hg (hne _ (by omega))).mono (Nat.le_succ _),
    own_kept ho (by omega) hg, hb.grown hg hb.size (fun k e => by cases e; omega), r0, r1, r2, r3, r4, r5, Nat.le_trans r6 hg.size⟩

theorem MI.put5 (h : MI w W B m1 m2 m3 m4 m5 n E S v cs) {f : List UInt8 → Option (List UInt8)} (hs : SMap W' E m5 (n + 1) f) (hg : W.grownBy W' (some m5)) :
    MI w W' B m1 m2 m3 m4 m5 (n + 1) E { S with states := f } v cs := by
  obtain ⟨h1, h2, h3, h4, h5, ho, hb, r0, r1, r2, r3, r4, r5, r6⟩ := h
  have hne : ∀ m, m ≠ m5 → some m ≠ some m5 := fun m hm e => by cases e; exact hm rfl
  exact ⟨(h1.kept hg (hne _ (by omega))).mono (Nat.le_succ _), (h2.kept hg (hne _ (by omega))).mono (Nat.le_succ _), (h3.kept hg (hne _ (by omega))).mono (Nat.le_succ _), (h4.kept hg (hne _ (by omega))).mono (Nat.le_succ _), hs,
    own_kept ho (by omega) hg, hb.grown hg hb.size (fun k e => by cases e; omega), r0, r1, r2, r3, r4, r5, Nat.le_trans r6 hg.size⟩

theorem MI.mono (h : MI w W B m1 m2 m3 m4 m5 n E S v cs) {k : Nat} (hk : n ≤ k) : MI w W B m1 m2 m3 m4 m5 k E S v cs := by
  obtain ⟨h1, h2, h3, h4, h5, ho, hb, r⟩ := h
  exact ⟨h1.mono hk, h2.mono hk, h3.mono hk, h4.mono hk, h5.mono hk, ho, hb, r⟩

/-- Other blocks have turned, new ones are there. -/
theorem MI.kept (h : MI w W B m1 m2 m3 m4 m5 n E S v cs) {row : Option Nat} (hg : W.grownBy W' row) (hrow : ∀ k, row = some k → m5 < k) {v' : Value} {cs' : List ByteArray} (ho' : W'.ownsRow B 9 1 v' cs'.length (cs'.map Value.string)) :
    MI w W' B m1 m2 m3 m4 m5 n E S v' cs' := by
  obtain ⟨h1, h2, h3, h4, h5, ho, hb, r0, r1, r2, r3, r4, r5, r6⟩ := h
  have hne : ∀ m, m ≤ m5 → some m ≠ row := fun m hm e => by have := hrow m e.symm; omega
  exact ⟨h1.kept hg (hne _ (by omega)), h2.kept hg (hne _ (by omega)), h3.kept hg (hne _ (by omega)), h4.kept hg (hne _ (by omega)), h5.kept hg (hne _ (by omega)), ho',
    hb.grown hg hb.size (fun k e => by have := hrow k e; omega), r0, r1, r2, r3, r4, r5, Nat.le_trans r6 hg.size⟩

theorem MI.alloc (h : MI w W B m1 m2 m3 m4 m5 n E S v cs) (o : Obj) : MI w (W.alloc o) B m1 m2 m3 m4 m5 n E S v cs :=
  h.kept (World.grownBy_alloc W o none) (fun _ e => by cases e) (h.own.alloc o)

theorem RecAt.kept {b o m : Nat} {r : Rec} (h : RecAt W b o r) (hg : W.grownBy W' (some m)) (hm : b ≠ m) : RecAt W' b o r := by
  rw [RecAt.iff] at *
  exact fun j hj => hg.cell (h j hj) (fun e => by cases e; exact hm rfl)
end


theorem grownBy_setCell (W : World) (b o : Nat) (u : Value) : W.grownBy (W.setCell ⟨b, o, none⟩ u) (some b) :=
  ⟨rfl, rfl, rfl, by simp [World.setCell], fun k _ hk => Below.heap_setCell _ _ _ _ (fun e => hk (by rw [e]))⟩

/-- A cell of a block of the call's own that lies ahead of the maps has been written. -/
theorem MI.setCell {w W : World} {B m1 m2 m3 m4 m5 n : Nat} {E : TypeId} {S : PS} {v : Value} {cs : List ByteArray} (h : MI w W B m1 m2 m3 m4 m5 n E S v cs) {b : Nat} (hb : w.heap.size ≤ b ∧ b < m1) (o : Nat) (u : Value) :
    MI w (W.setCell ⟨b, o, none⟩ u) B m1 m2 m3 m4 m5 n E S v cs := by
  have hg := grownBy_setCell W b o u
  obtain ⟨h1, h2, h3, h4, h5, ho, hbl, r0, r1, r2, r3, r4, r5, r6⟩ := h
  have hne : ∀ m, m1 ≤ m → some m ≠ some b := fun m hm e => by have := Option.some.inj e; omega
  exact ⟨h1.kept hg (hne _ (by omega)), h2.kept hg (hne _ (by omega)), h3.kept hg (hne _ (by omega)), h4.kept hg (hne _ (by omega)), h5.kept hg (hne _ (by omega)), ownsRow_setCell_below ho (by simp only; omega) _,
    hbl.setCell (by simp only; omega) _, r0, r1, r2, r3, r4, r5, Nat.le_trans r6 hg.size⟩

/-- 'xs = append(xs, s)', the new slice's shape written out. -/
theorem wpList_append_s {w : World} {ops : Array Oper} {rest : List Oper} {o : Oper} {a : Act} {Q : Exit → Act → World → Prop} (hgd : o.guard = none) (s x : Operand)
    (ho : o.op = .call { callee := .builtin .append, args := #[s, x], argTypes := #[22, 22] }) (B : Nat) (v : Value) (cs : List ByteArray) (hs : a.eval s = v) (hown : w.ownsRow B 9 1 v cs.length (cs.map Value.string))
    (c : ByteArray) (hx : a.eval x = .slice (some ⟨w.heap.size, 0, none⟩) 1 1) (hl : cs.length ≤ 1048576) (hB : B ≤ w.heap.size)
    (h : ∀ a' c' w', w'.ownsRow B 9 1 (.slice a' (cs ++ [c]).length c') (cs ++ [c]).length ((cs ++ [c]).map Value.string) → (w.alloc (.cells #[.string c] 9)).grownBy w' v.ownBlock →
      wpList Trym.prog ops Q rest (a.put o.dst (.slice a' (cs ++ [c]).length c')) w') :
    wpList Trym.prog ops Q (o :: rest) a (w.alloc (.cells #[.string c] 9)) := by
  obtain ⟨i0, hi, hz0, hz1, hz2⟩ := info_parts info9
  refine wpList_append_own _ hgd s x 22 ho B 9 i0 (.string ⟨#[]⟩) 1 16 Trym.underlying22 hi hz0 hz1 hz2 rfl (by decide) v cs.length _ hs (hown.alloc _) ⟨w.heap.size, 0, none⟩ 1 1 [.string c] hx rfl (cell_one_new _ _ _) (fun x hx => by simp at hx; subst hx; rfl) (by unfold maxLen; omega) (by omega) (by simp; omega) ?_
  intro v' w' h1 h2 _
  obtain ⟨a', c', rfl⟩ := shape_of h1
  have e : (cs ++ [c]).length = cs.length + 1 := by simp
  have e2 : (cs ++ [c]).map Value.string = cs.map Value.string ++ [.string c] := by simp
  have := h a' c' w'
  rw [e, e2] at this
  exact this h1 h2

end Go.Proofs.Qxb6608675aMods
