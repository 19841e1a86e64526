/-
  What meet holds, turned to the state that the atom leaves.
-/
import Derived.Test.Qxb6623474aDoorSea2
set_option linter.unusedVariables false
namespace Go.Proofs.Qxb6623474aDoor
open Go.RowKit Go.Maps
variable {w u u' : World} {B N sb cm em k kt : Nat} {tv : Value} {st : Sea} {a : Atom}

theorem ColsAt.mono {w : World} {cm k k' : Nat} {F : Int → Value} (h : ColsAt w cm k F) (hk : k ≤ k') : ColsAt w cm k' F := by
  obtain ⟨D, hD, hF⟩ := h
  exact ⟨D, hD.mono hk, hF⟩

theorem Held.mono1 (h : Held w u B N sb cm em k kt tv st a) : Held w u B N sb cm em (k + 1) kt tv st a := by
  obtain ⟨hf, ⟨⟨F, hF, hR⟩, hE, h1, h2⟩, ht, hb, hz, hN, hsb, hne, htab⟩ := h
  exact ⟨hf, ⟨⟨F, hF.mono (Nat.le_succ _), hR⟩, hE.mono (Nat.le_succ _), h1, h2⟩, ht, hb, hz, hN, hsb, hne, htab⟩

theorem stepEx_other {ex : Int → Int → Bool} (h : isNe a = false) : stepEx ex a = ex := by
  funext c v; simp [stepEx, h]
theorem stepEx_old {ex : Int → Int → Bool} (h : ex a.col a.n = true) : stepEx ex a = ex := by
  funext c v
  by_cases hc : c = a.col
  · by_cases hv : v = a.n
    · subst hc; subst hv; simp [stepEx, h]
    · simp [stepEx, hv]
  · simp [stepEx, hc]
theorem stepEx_new {ex : Int → Int → Bool} (h : isNe a = true) : (fun c m => if c = a.col ∧ m = a.n then true else ex c m) = stepEx ex a := by
  funext c v
  by_cases hc : c = a.col ∧ v = a.n
  · obtain ⟨rfl, rfl⟩ := hc; simp [stepEx, h]
  · rw [if_neg hc]
    rcases Classical.not_and_iff_not_or_not.1 hc with h | h <;> simp [stepEx, h]

theorem Held.other (h : Held w u B N sb cm em k kt tv st a) (hn : isNe a = false) : Held w u B N sb cm em (k + 1) kt tv ⟨st.cols, stepEx st.ex a⟩ a := by
  rw [stepEx_other hn]; exact h.mono1
theorem Held.old (h : Held w u B N sb cm em k kt tv st a) (hn : st.ex a.col a.n = true) : Held w u B N sb cm em (k + 1) kt tv ⟨st.cols, stepEx st.ex a⟩ a := by
  rw [stepEx_old hn]; exact h.mono1

/-- A store into the column's own block. -/
theorem CAt.set {M : Nat} {x0 x1 x2 x3 x4 : Value} (h : u.heap[M]? = some (.cells #[x0, x1, x2, x3, x4] 48)) (j : Nat) (v : Value) : (u.setCell ⟨M, j, none⟩ v).heap[M]? = some (.cells (#[x0, x1, x2, x3, x4].setIfInBounds j v) 48) := heap_set h j v

/-- What stands behind meet's first switch, where it does not refuse. -/
def Out (w X : World) (B N M sb cm em k kt : Nat) (tv : Value) (st : Sea) (a : Atom) : Prop :=
  ∃ c' pl' ph' pe', stepCol (st.cols a.col) a = some c' ∧ Held w X B N sb cm em (k + 1) kt tv ⟨st.cols, stepEx st.ex a⟩ a ∧ CAt X M pl' ph' pe' c' ∧ ColAt X pl' ph' pe' c'

theorem Out.of {X : World} {M : Nat} {c c' : Col} {pl ph pe : Option Nat} {xl xh xe : Option Addr} (hcc : c = st.cols a.col) (hs : stepCol c a = some c') (H : Held w X B N sb cm em k kt tv st a) (hne : isNe a = false) (hxl : ptrOf pl = .pointer xl) (hxh : ptrOf ph = .pointer xh) (hxe : ptrOf pe = .pointer xe)
    (hCA : X.heap[M]? = some (.cells #[.pointer xl, .pointer xh, .pointer xe, .bool c'.nul, .bool c'.nn] 48)) (hlo : OptBound X pl c'.lo) (hhi : OptBound X ph c'.hi) (heq : OptNum X pe c'.eq) (hfit : c'.fit) : Out w X B N M sb cm em k kt tv st a :=
  ⟨c', pl, ph, pe, by rw [← hcc]; exact hs, H.other hne, by rw [CAt, hxl, hxh, hxe]; exact hCA, ⟨hlo, hhi, heq, hfit⟩⟩

theorem set_num {U : World} {M : Nat} {cs cs' : Array Value} {v : Value} (hC : U.heap[M]? = some (.cells cs 48)) (j : Nat) : Mov U ((U.setCell ⟨M, j, none⟩ v).alloc (.cells cs' 41)) := ((Mov.refl _).setCell hC (by decide) (by decide)).alloc _

theorem new_at (U : World) (p : Addr) (v : Value) (o : Obj) : ((U.setCell p v).alloc o).heap[U.heap.size]? = some o := by
  have := Deep.blk_alloc_new (U.setCell p v) o
  rwa [Deep.nblk_setCell] at this

theorem closedAt_fit {op n : Int} (h0 : -9223372036854775806 ≤ n) (h1 : n ≤ 9223372036854775805) : I64 (closedAt op n) := by
  unfold closedAt
  split
  · exact I64.mk (by omega) (by omega)
  · split
    · exact I64.mk (by omega) (by omega)
    · exact I64.mk (by omega) (by omega)
theorem tightF_fit {d n : Int} {o : Option Int} (hn : I64 n) (ho : ∀ m, o = some m → I64 m) : I64 (tightF d n o) := by
  cases o with
  | none => exact hn
  | some m =>
    unfold tightF
    simp only
    split
    · exact hn
    · exact ho m rfl

/-- A store into a block that is none of those held. -/
theorem Held.set50 {g j : Nat} {cs : Array Value} {T : TypeId} {fr : Nat × Nat} {v : Value} (h : Held w u B N sb cm em k kt tv st a) (hg : u.heap[g]? = some (.cells cs T fr)) (hT : T = 50) (hB : B ≤ g) : Held w (u.setCell ⟨g, j, none⟩ v) B N sb cm em k kt tv st a := by
  subst hT
  obtain ⟨⟨p2, p3, ps⟩, ⟨⟨F, hF, hR⟩, hE, h1, h2⟩, ht, hb, hz, hN, hsb, hne, htab⟩ := h
  have mv : Mov u (u.setCell ⟨g, j, none⟩ v) := (Mov.refl u).setCell hg (by decide) (by decide)
  have other : ∀ {b : Nat} {o : Obj}, u.heap[b]? = some o → o ≠ .cells cs 50 fr → (u.setCell ⟨g, j, none⟩ v).heap[b]? = some o := fun hb hne => (Deep.blk_setCell_other _ _ _ _ (blk_ne hb hg hne)).trans hb
  have keep : Below B u (u.setCell ⟨g, j, none⟩ v) := (Below.refl _ _).setCell hB _
  obtain ⟨es, cl, hc⟩ := hF.isMap
  obtain ⟨es', cl', hc'⟩ := hE.isMap
  refine ⟨⟨other p2 (by simp), other p3 (by simp), other ps (by simp)⟩, ⟨⟨F, hF.block ?_, fun col hc => (hR col hc).mov mv⟩, hE.block ?_, h1, h2⟩, ?_, hb.trans keep, by rw [Deep.nblk_setCell]; exact hz, hN, hsb, hne, htab.below keep⟩
  · rw [other hc (by simp), hc]
  · rw [other hc' (by simp), hc']
  · obtain ⟨xs, hx, hy⟩ := ht
    refine ⟨xs, hx, ?_⟩
    rcases hy with hn | ⟨g', cap, cur, hv, hB, hg', rest⟩
    · exact .inl hn
    · exact .inr ⟨g', cap, cur, hv, hB, other hg' (by simp), rest⟩


/-- The two stores that lay an exclusion into its variable. -/
theorem Held.lay50 {g M : Nat} {x y x' y' : Value} {cs : Array Value} (h : Held w u B N sb cm em k kt tv st a) (hg : u.heap[g]? = some (.cells #[x, y] 50)) (hB : B ≤ g) (hM : u.heap[M]? = some (.cells cs 48)) :
    Held w ((u.setCell ⟨g, 0, none⟩ x').setCell ⟨g, 1, none⟩ y') B N sb cm em k kt tv st a ∧ ((u.setCell ⟨g, 0, none⟩ x').setCell ⟨g, 1, none⟩ y').heap[M]? = some (.cells cs 48) ∧ Mov u ((u.setCell ⟨g, 0, none⟩ x').setCell ⟨g, 1, none⟩ y') ∧ ((u.setCell ⟨g, 0, none⟩ x').setCell ⟨g, 1, none⟩ y').heap[g]? = some (.cells #[x', y'] 50) := by
  have h1 : (u.setCell ⟨g, 0, none⟩ x').heap[g]? = some (.cells #[x', y] 50) := heap_set hg 0 x'
  have ne : M ≠ g := blk_ne hM hg (by simp)
  refine ⟨(h.set50 hg rfl hB).set50 h1 rfl hB, ?_, ((Mov.refl _).setCell hg (by decide) (by decide)).setCell h1 (by decide) (by decide), heap_set h1 1 y'⟩
  rw [Deep.blk_setCell_other _ _ _ _ ne, Deep.blk_setCell_other _ _ _ _ ne]
  exact hM

theorem Out.ofEx {X : World} {M : Nat} {c c' : Col} {pl ph pe : Option Nat} {xl xh xe : Option Addr} (hcc : c = st.cols a.col) (hs : stepCol c a = some c') (H : Held w X B N sb cm em (k + 1) kt tv ⟨st.cols, stepEx st.ex a⟩ a) (hxl : ptrOf pl = .pointer xl) (hxh : ptrOf ph = .pointer xh) (hxe : ptrOf pe = .pointer xe)
    (hCA : X.heap[M]? = some (.cells #[.pointer xl, .pointer xh, .pointer xe, .bool c'.nul, .bool c'.nn] 48)) (hC : ColAt X pl ph pe c') : Out w X B N M sb cm em k kt tv st a :=
  ⟨c', pl, ph, pe, by rw [← hcc]; exact hs, H, by rw [CAt, hxl, hxh, hxe]; exact hCA, hC⟩

theorem Held.exclS (h : Held w u B N sb cm em k kt tv st a) (hn : isNe a = true) (hc : I64 a.col) (hI : I64 a.n) (hk : k < 1000000) :
    ∃ u', (Instr.mapUpdate 33 (.map (some em)) (.agg #[.int .i64 a.col, .string (keyS a.n)]) (.bool true)).run Tryd.prog u = .ok () u' ∧ Held w u' B N sb cm em (k + 1) kt tv ⟨st.cols, stepEx st.ex a⟩ a ∧ Mov u u' ∧ ∀ (b : Nat) (cs : Array Value) (T : TypeId), u.heap[b]? = some (.cells cs T) → u'.heap[b]? = some (.cells cs T) := by
  rw [← stepEx_new hn]; exact h.excl hc hI hk

/-- The last change of the trail. -/
theorem Held.last {g n cap : Nat} (h : Held w u B N sb cm em k (n + 1) (.slice (some ⟨g, 0, none⟩) (n + 1) cap) st a) : n + 1 ≤ cap ∧ cap ≤ maxLen ∧ (∃ x, u.cell? ⟨g, n * 9 + 6, none⟩ = some x) ∧ (∃ x, u.cell? ⟨g, n * 9 + 7, none⟩ = some x) ∧ (∃ x, u.cell? ⟨g, n * 9 + 8, none⟩ = some x) ∧ ∀ j, u.frozen? ⟨g, j, none⟩ = false := by
  obtain ⟨xs, hx, hy⟩ := h.trail
  rcases hy with ⟨hn, _⟩ | ⟨g', cap', cur, hv, hB, hg, r1, r2, r3, r4⟩
  · cases hn
  cases hv
  have at' : ∀ j, j < 9 → ∃ x, u.cell? ⟨g, n * 9 + j, none⟩ = some x := fun j hj => by
    rw [Lib.cell_of_heap hg]
    have : n * 9 + j < cur.size := by rw [r3]; omega
    exact ⟨cur[n * 9 + j], by simp [this]⟩
  exact ⟨r1, r2, at' 6 (by omega), at' 7 (by omega), at' 8 (by omega), Lib.frozen_of_heap hg⟩

/-- The three stores into the trail's last change. -/
theorem Held.trail3 {g n cap i j l M : Nat} {x y z : Value} {cs : Array Value} (h : Held w u B N sb cm em k kt (.slice (some ⟨g, 0, none⟩) n cap) st a) (hM : u.heap[M]? = some (.cells cs 48)) :
    Held w (((u.setCell ⟨g, i, none⟩ x).setCell ⟨g, j, none⟩ y).setCell ⟨g, l, none⟩ z) B N sb cm em k kt (.slice (some ⟨g, 0, none⟩) n cap) st a ∧ (((u.setCell ⟨g, i, none⟩ x).setCell ⟨g, j, none⟩ y).setCell ⟨g, l, none⟩ z).heap[M]? = some (.cells cs 48) ∧ Mov u (((u.setCell ⟨g, i, none⟩ x).setCell ⟨g, j, none⟩ y).setCell ⟨g, l, none⟩ z) := by
  obtain ⟨xs, hx, hy⟩ := h.trail
  rcases hy with ⟨hn, _⟩ | ⟨g', cap', cur, hv, hB, hg, r1, r2, r3, r4⟩
  · cases hn
  cases hv
  have ne : M ≠ g := blk_ne hM hg (by simp)
  have h1 := heap_set hg i x
  have h2 := heap_set h1 j y
  refine ⟨h.setTrail.setTrail.setTrail, ?_, (((Mov.refl _).setCell hg (by decide) (by decide)).setCell h1 (by decide) (by decide)).setCell h2 (by decide) (by decide)⟩
  rw [Deep.blk_setCell_other _ _ _ _ ne, Deep.blk_setCell_other _ _ _ _ ne, Deep.blk_setCell_other _ _ _ _ ne]
  exact hM

end Go.Proofs.Qxb6623474aDoor
