/-
  How a search lies in memory, and what keeps it.
-/
import Derived.Test.Qxb6623474aDoorEx2
import Derived.Test.Qxb6623474aDoorPlain5
import Derived.Deep.Heap
set_option linter.unusedVariables false
namespace Go.Proofs.Qxb6623474aDoor
open Go.RowKit Go.Maps

/-- A number, or none. -/
def OptNum (w : World) : Option Nat → Option Int → Prop
  | none, none => True
  | some b, some n => NumAt w b n
  | _, _ => False

/-- From w to w' every bound and every number stays. -/
structure Mov (w w' : World) : Prop where
  size : w.heap.size ≤ w'.heap.size
  num : ∀ (b : Nat) (cs : Array Value) (t : TypeId), (t = 60 ∨ t = 41) → w.heap[b]? = some (.cells cs t) → w'.heap[b]? = some (.cells cs t)

theorem Mov.refl (w : World) : Mov w w := ⟨Nat.le_refl _, fun _ _ _ _ h => h⟩
theorem Mov.trans {a b c : World} (h : Mov a b) (h' : Mov b c) : Mov a c := ⟨Nat.le_trans h.size h'.size, fun x cs t ht hh => h'.num x cs t ht (h.num x cs t ht hh)⟩
theorem Mov.drew {a b : World} (h : Mov a b) : Mov a b.drew := ⟨h.size, h.num⟩
theorem lt_of_blk {w : World} {b : Nat} {o : Obj} (h : w.heap[b]? = some o) : b < w.heap.size := (Array.getElem?_eq_some_iff.1 h).1
theorem Mov.below {a b : World} (hb : Below a.heap.size a b) : Mov a b := ⟨hb.size, fun x cs t _ hh => (hb.block x (lt_of_blk hh)).trans hh⟩
theorem Mov.alloc {a b : World} (h : Mov a b) (o : Obj) : Mov a (b.alloc o) := h.trans (.below ((Below.refl _ _).alloc (Nat.le_refl _) _))
theorem Mov.call {a b c : World} (h : Mov a b) (hb : Below b.heap.size b c) : Mov a c := h.trans (.below hb)
theorem Mov.grown {a b c : World} {row : Option Nat} (h : Mov a b) (hg : b.grownBy c row) (hr : ∀ k, row = some k → ∀ cs t, (t = 60 ∨ t = 41) → b.heap[k]? ≠ some (.cells cs t)) : Mov a c :=
  h.trans ⟨hg.size, fun x cs t ht hh => (hg.block x (lt_of_blk hh) (fun e => hr x e.symm cs t ht hh)).trans hh⟩
theorem Mov.setCell {a b : World} {g j : Nat} {cs : Array Value} {T : TypeId} {v : Value} {fr : Nat × Nat} (h : Mov a b) (hg : b.heap[g]? = some (.cells cs T fr)) (h60 : T ≠ 60) (h41 : T ≠ 41) : Mov a (b.setCell ⟨g, j, none⟩ v) :=
  h.trans ⟨by rw [Deep.nblk_setCell]; exact Nat.le_refl _, fun x cs' t ht hh => by
    rw [Deep.blk_setCell_other _ _ _ _ (fun e => ?_)]
    · exact hh
    · have e' : x = g := e
      subst e'
      rw [hg] at hh
      injection hh with hh
      injection hh with _ h2 _
      rcases ht with rfl | rfl
      · exact h60 h2
      · exact h41 h2⟩

theorem heap_set {w : World} {b : Nat} {cs : Array Value} {T : TypeId} {fr : Nat × Nat} (h : w.heap[b]? = some (.cells cs T fr)) (j : Nat) (v : Value) : (w.setCell ⟨b, j, none⟩ v).heap[b]? = some (.cells (cs.setIfInBounds j v) T fr) := by
  simp [World.setCell, Array.getElem?_modify, h]

theorem BoundAt.mov {w w' : World} {b : Nat} {n : Int} (h : BoundAt w b n) (m : Mov w w') : BoundAt w' b n := by
  obtain ⟨ty, s, ht, hh⟩ := h
  exact ⟨ty, s, ht, m.num _ _ _ (.inl rfl) hh⟩
theorem NumAt.mov {w w' : World} {b : Nat} {n : Int} (h : NumAt w b n) (m : Mov w w') : NumAt w' b n := by
  obtain ⟨ty, s, ht, hh⟩ := h
  exact ⟨ty, s, ht, m.num _ _ _ (.inr rfl) hh⟩
theorem OptBound.mov {w w' : World} {p : Option Nat} {n : Option Int} (h : OptBound w p n) (m : Mov w w') : OptBound w' p n := by
  match p, n, h with
  | none, none, _ => trivial
  | some b, some n, h => exact BoundAt.mov h m
theorem OptNum.mov {w w' : World} {p : Option Nat} {n : Option Int} (h : OptNum w p n) (m : Mov w w') : OptNum w' p n := by
  match p, n, h with
  | none, none, _ => trivial
  | some b, some n, h => exact NumAt.mov h m

/-- Every number that a column names is one of int64. -/
def Col.fit (c : Col) : Prop := (∀ n, c.lo = some n → I64 n) ∧ (∀ n, c.hi = some n → I64 n) ∧ ∀ n, c.eq = some n → I64 n

/-- The three pointers of a column. -/
structure ColAt (w : World) (pl ph pe : Option Nat) (c : Col) : Prop where
  lo : OptBound w pl c.lo
  hi : OptBound w ph c.hi
  eq : OptNum w pe c.eq
  fit : c.fit
theorem ColAt.mov {w w' : World} {pl ph pe : Option Nat} {c : Col} (h : ColAt w pl ph pe c) (m : Mov w w') : ColAt w' pl ph pe c := ⟨h.lo.mov m, h.hi.mov m, h.eq.mov m, h.fit⟩

abbrev colV (pl ph pe : Option Nat) (c : Col) : Value := .agg #[ptrOf pl, ptrOf ph, ptrOf pe, .bool c.nul, .bool c.nn]
def ColRep (w : World) (c : Col) (v : Value) : Prop := ∃ pl ph pe, v = colV pl ph pe c ∧ ColAt w pl ph pe c
theorem ColRep.mov {w w' : World} {c : Col} {v : Value} (h : ColRep w c v) (m : Mov w w') : ColRep w' c v := by
  obtain ⟨pl, ph, pe, e, h⟩ := h
  exact ⟨pl, ph, pe, e, h.mov m⟩

/-- The trail: k changes, whatever they say. -/
def TrailAt (w : World) (B : Nat) (tv : Value) (k : Nat) : Prop := ∃ xs, w.ownsRow B 52 9 tv k xs

/-- The search's columns and exclusions. -/
structure SeaAt (w : World) (B cm em k : Nat) (st : Sea) : Prop where
  cols : ∃ F, ColsAt w cm k F ∧ ∀ col, I64 col → ColRep w (st.cols col) (F col)
  ex : ExAt w em k st.ex
  hcm : B ≤ cm
  hem : B ≤ em

theorem SeaAt.below {B B' cm em k : Nat} {st : Sea} {w w' : World} (h : SeaAt w B cm em k st) (hb : Below w.heap.size w w') : SeaAt w' B cm em k st := by
  obtain ⟨⟨F, hF, hR⟩, hE, h1, h2⟩ := h
  obtain ⟨es, cl, hc⟩ := hF.isMap
  obtain ⟨es', cl', hc'⟩ := hE.isMap
  exact ⟨⟨F, hF.block (hb.block _ (lt_of_blk hc)), fun col h => (hR col h).mov (.below hb)⟩, hE.block (hb.block _ (lt_of_blk hc')), h1, h2⟩
theorem TrailAt.below {w w' : World} {B : Nat} {tv : Value} {k : Nat} (h : TrailAt w B tv k) (hb : Below w.heap.size w w') : TrailAt w' B tv k := by
  obtain ⟨xs, hx⟩ := h
  refine ⟨xs, hx.1, ?_⟩
  rcases hx.2 with hn | ⟨g, cap, cur, hv, hB, hg, rest⟩
  · exact .inl hn
  · exact .inr ⟨g, cap, cur, hv, hB, (hb.block _ (lt_of_blk hg)).trans hg, rest⟩

/-- The search's own block. -/
abbrev SbAt (w : World) (sb cm em : Nat) (tv : Value) : Prop := w.heap[sb]? = some (.cells #[.int .i64 0, .map (some cm), .map (some em), tv] 36)

theorem cells4 {w : World} {b : Nat} {T : TypeId} {x0 x1 x2 x3 : Value} (h : w.heap[b]? = some (.cells #[x0, x1, x2, x3] T)) :
    w.cell? ⟨b, 0, none⟩ = some x0 ∧ w.cell? ⟨b, 1, none⟩ = some x1 ∧ w.cell? ⟨b, 2, none⟩ = some x2 ∧ w.cell? ⟨b, 3, none⟩ = some x3 := by
  refine ⟨?_, ?_, ?_, ?_⟩ <;> (rw [Lib.cell_of_heap h]; rfl)
theorem cells5 {w : World} {b : Nat} {T : TypeId} {x0 x1 x2 x3 x4 : Value} (h : w.heap[b]? = some (.cells #[x0, x1, x2, x3, x4] T)) :
    w.cell? ⟨b, 0, none⟩ = some x0 ∧ w.cell? ⟨b, 1, none⟩ = some x1 ∧ w.cell? ⟨b, 2, none⟩ = some x2 ∧ w.cell? ⟨b, 3, none⟩ = some x3 ∧ w.cell? ⟨b, 4, none⟩ = some x4 := by
  refine ⟨?_, ?_, ?_, ?_, ?_⟩ <;> (rw [Lib.cell_of_heap h]; rfl)
theorem cells6 {w : World} {b : Nat} {T : TypeId} {x0 x1 x2 x3 x4 x5 : Value} (h : w.heap[b]? = some (.cells #[x0, x1, x2, x3, x4, x5] T)) :
    w.cell? ⟨b, 0, none⟩ = some x0 ∧ w.cell? ⟨b, 1, none⟩ = some x1 ∧ w.cell? ⟨b, 2, none⟩ = some x2 ∧ w.cell? ⟨b, 3, none⟩ = some x3 ∧ w.cell? ⟨b, 4, none⟩ = some x4 ∧ w.cell? ⟨b, 5, none⟩ = some x5 := by
  refine ⟨?_, ?_, ?_, ?_, ?_, ?_⟩ <;> (rw [Lib.cell_of_heap h]; rfl)
theorem cells1 {w : World} {b : Nat} {T : TypeId} {x0 : Value} (h : w.heap[b]? = some (.cells #[x0] T)) : w.cell? ⟨b, 0, none⟩ = some x0 := by
  rw [Lib.cell_of_heap h]; rfl

/-- meet's own two boxes, the search's block. -/
structure FrAt (u : World) (N sb cm em : Nat) (tv : Value) (a : Atom) : Prop where
  h2 : u.heap[N]? = some (.cells #[.pointer (some ⟨sb, 0, none⟩)] 27)
  h3 : u.heap[N + 1]? = some (.cells #[.int .i64 a.col, .int .u8 a.op, .int .u8 a.ty, .bool a.nul, .int .i64 a.n, .string a.str] 43)
  hs : SbAt u sb cm em tv

theorem FrAt.below {u u' : World} {N sb cm em : Nat} {tv : Value} {a : Atom} (h : FrAt u N sb cm em tv a) (hb : Below u.heap.size u u') : FrAt u' N sb cm em tv a :=
  ⟨(hb.block _ (lt_of_blk h.h2)).trans h.h2, (hb.block _ (lt_of_blk h.h3)).trans h.h3, (hb.block _ (lt_of_blk h.hs)).trans h.hs⟩

/-- The column's own block in meet. -/
abbrev CAt (u : World) (M : Nat) (pl ph pe : Option Nat) (c : Col) : Prop := u.heap[M]? = some (.cells #[ptrOf pl, ptrOf ph, ptrOf pe, .bool c.nul, .bool c.nn] 48)

theorem new_below (u : World) (o : Obj) : Below u.heap.size u (u.alloc o) := (Below.refl _ _).alloc (Nat.le_refl _) _
theorem new_drew (u : World) (o : Obj) : Below u.heap.size u (u.alloc o).drew := (new_below u o).drew

end Go.Proofs.Qxb6623474aDoor
