/-
  What meet holds of the world from step to step.
-/
import Derived.Test.Qxb6623474aDoorSea
import Derived.Deep.RegionLaw
set_option linter.unusedVariables false
namespace Go.Proofs.Qxb6623474aDoor
open Go.RowKit Go.Maps

theorem cells2 {w : World} {b : Nat} {T : TypeId} {x0 x1 : Value} (h : w.heap[b]? = some (.cells #[x0, x1] T)) : w.cell? ⟨b, 0, none⟩ = some x0 ∧ w.cell? ⟨b, 1, none⟩ = some x1 := by
  refine ⟨?_, ?_⟩ <;> (rw [Lib.cell_of_heap h]; rfl)
theorem blk_ne {u : World} {i j : Nat} {o o' : Obj} (hi : u.heap[i]? = some o) (hj : u.heap[j]? = some o') (hne : o ≠ o') : i ≠ j := fun e => by
  subst e
  rw [hi] at hj
  injection hj with hj
  exact hne hj

structure Held (w u : World) (B N sb cm em k kt : Nat) (tv : Value) (st : Sea) (a : Atom) : Prop where
  fr : FrAt u N sb cm em tv a
  sea : SeaAt u B cm em k st
  trail : TrailAt u B tv kt
  below : Below B w u
  size : B ≤ u.heap.size
  hN : B ≤ N
  hsb : B ≤ sb
  ne : cm ≠ em
  tab : Tab B u

variable {w u u' : World} {B N sb cm em k kt : Nat} {tv : Value} {st : Sea} {a : Atom}

theorem Held.grow (h : Held w u B N sb cm em k kt tv st a) (hb : Below u.heap.size u u') : Held w u' B N sb cm em k kt tv st a :=
  ⟨h.fr.below hb, SeaAt.below (B' := 0) h.sea hb, h.trail.below hb, h.below.trans (hb.mono h.size), Nat.le_trans h.size hb.size, h.hN, h.hsb, h.ne, h.tab.below (hb.mono h.size)⟩

/-- A store into a block that is none of those held. -/
theorem Held.set {g j : Nat} {cs : Array Value} {T : TypeId} {fr : Nat × Nat} {v : Value} (h : Held w u B N sb cm em k kt tv st a) (hg : u.heap[g]? = some (.cells cs T fr)) (hT : T = 48) (hB : B ≤ g) : Held w (u.setCell ⟨g, j, none⟩ v) B N sb cm em k kt tv st a := by
  subst hT
  obtain ⟨⟨p2, p3, ps⟩, ⟨⟨F, hF, hR⟩, hE, h1, h2⟩, ht, hb, hz, hN, hsb, hne, htab⟩ := h
  have mv : Mov u (u.setCell ⟨g, j, none⟩ v) := (Mov.refl u).setCell hg (by decide) (by decide)
  have other : ∀ {b : Nat} {o : Obj}, u.heap[b]? = some o → o ≠ .cells cs 48 fr → (u.setCell ⟨g, j, none⟩ v).heap[b]? = some o := fun hb hne => (Deep.blk_setCell_other _ _ _ _ (blk_ne hb hg hne)).trans hb
  have keep : Below B u (u.setCell ⟨g, j, none⟩ v) := (Below.refl _ _).setCell hB _
  obtain ⟨es, cl, hc⟩ := hF.isMap
  obtain ⟨es', cl', hc'⟩ := hE.isMap
  refine ⟨⟨other p2 (by simp), other p3 (by simp), other ps (by simp)⟩, ⟨⟨F, hF.block ?_, fun col hc => (hR col hc).mov mv⟩, hE.block ?_, h1, h2⟩, ?_, hb.trans keep, by rw [Deep.nblk_setCell]; exact hz, hN, hsb, hne, htab.below keep⟩
  · rw [other hc (by simp), hc]
  · rw [other hc' (by simp), hc']
  · obtain ⟨xs, hx, hy⟩ := ht
    refine ⟨xs, hx, ?_⟩
    rcases hy with hn | ⟨g', cap, cur, hv, hB, hg', rest⟩
    · exact .inl hn
    · exact .inr ⟨g', cap, cur, hv, hB, other hg' (by simp), rest⟩

/-- A store into the trail's row. -/
theorem Held.setTrail {g j n cap : Nat} {v : Value} (h : Held w u B N sb cm em k kt (.slice (some ⟨g, 0, none⟩) n cap) st a) : Held w (u.setCell ⟨g, j, none⟩ v) B N sb cm em k kt (.slice (some ⟨g, 0, none⟩) n cap) st a := by
  obtain ⟨⟨p2, p3, ps⟩, ⟨⟨F, hF, hR⟩, hE, h1, h2⟩, ht, hb, hz, hN, hsb, hne, htab⟩ := h
  obtain ⟨xs, hx, hy⟩ := ht
  rcases hy with ⟨hn, _⟩ | ⟨g', cap', cur, hv, hB, hg, r1, r2, r3, r4⟩
  · cases hn
  cases hv
  have mv : Mov u (u.setCell ⟨g, j, none⟩ v) := (Mov.refl u).setCell hg (by decide) (by decide)
  have other : ∀ {b : Nat} {o : Obj}, u.heap[b]? = some o → o ≠ .cells cur 52 → (u.setCell ⟨g, j, none⟩ v).heap[b]? = some o := fun hb hne => (Deep.blk_setCell_other _ _ _ _ (blk_ne hb hg hne)).trans hb
  have keep : Below B u (u.setCell ⟨g, j, none⟩ v) := (Below.refl _ _).setCell hB _
  obtain ⟨es, cl, hc⟩ := hF.isMap
  obtain ⟨es', cl', hc'⟩ := hE.isMap
  refine ⟨⟨other p2 (by simp), other p3 (by simp), other ps (by simp)⟩, ⟨⟨F, hF.block ?_, fun col hc => (hR col hc).mov mv⟩, hE.block ?_, h1, h2⟩, ?_, hb.trans keep, by rw [Deep.nblk_setCell]; exact hz, hN, hsb, hne, htab.below keep⟩
  · rw [other hc (by simp), hc]
  · rw [other hc' (by simp), hc']
  · exact ⟨(cur.setIfInBounds j v).toList.take (kt * 9), by simp [r3]; omega, .inr ⟨g, cap, _, rfl, hB, heap_set hg j v, r1, r2, by simp [r3], rfl⟩⟩

/-- The append to the trail, stored. -/
theorem Held.push {v' : Value} {xs' : List Value} (h : Held w u B N sb cm em k kt tv st a) (hg : u.grownBy u' tv.ownBlock) (ho : u'.ownsRow B 52 9 v' (kt + 1) xs') : Held w (u'.setCell ⟨sb, 3, none⟩ v') B N sb cm em k (kt + 1) v' st a := by
  obtain ⟨⟨p2, p3, ps⟩, ⟨⟨F, hF, hR⟩, hE, h1, h2⟩, ht, hb, hz, hN, hsb, hne, htab⟩ := h
  obtain ⟨xs, hx⟩ := ht
  have row : ∀ k, tv.ownBlock = some k → B ≤ k ∧ ∃ cur, u.heap[k]? = some (.cells cur 52) := fun k hk => by
    refine ⟨(hx.lt k hk).1, ?_⟩
    rcases hx.2 with ⟨rfl, _⟩ | ⟨g, cap, cur, rfl, hb, hg, _⟩
    · simp [Value.ownBlock] at hk
    · simp [Value.ownBlock] at hk
      subst hk
      exact ⟨cur, hg⟩
  have mv : Mov u u' := (Mov.refl u).grown hg fun k hk cs t ht hh => by
    obtain ⟨-, cur, hc⟩ := row k hk
    rw [hc] at hh
    injection hh with hh
    injection hh with _ h2 _
    rcases ht with rfl | rfl <;> cases h2
  have o1 : ∀ {b : Nat} {o : Obj}, u.heap[b]? = some o → (∀ cur, o ≠ .cells cur 52) → u'.heap[b]? = some o := fun {b o} hb hne => (hg.block b (lt_of_blk hb) (fun e => by
    obtain ⟨-, cur, hc⟩ := row b e.symm
    rw [hc] at hb
    injection hb with hb
    exact hne cur hb.symm)).trans hb
  have qs := o1 ps (by simp)
  have mv2 : Mov u (u'.setCell ⟨sb, 3, none⟩ v') := mv.setCell qs (by decide) (by decide)
  have o2 : ∀ {b : Nat} {o : Obj}, u'.heap[b]? = some o → o ≠ .cells #[.int .i64 0, .map (some cm), .map (some em), tv] 36 → (u'.setCell ⟨sb, 3, none⟩ v').heap[b]? = some o := fun hb hne => (Deep.blk_setCell_other _ _ _ _ (blk_ne hb qs hne)).trans hb
  have keep : Below B u u' := (Below.refl _ _).grown hg hz (fun k hk => (row k hk).1)
  have keep2 : Below B u (u'.setCell ⟨sb, 3, none⟩ v') := keep.setCell hsb _
  obtain ⟨es, cl, hc⟩ := hF.isMap
  obtain ⟨es', cl', hc'⟩ := hE.isMap
  refine ⟨⟨o2 (o1 p2 (by simp)) (by simp), o2 (o1 p3 (by simp)) (by simp), heap_set qs 3 v'⟩, ⟨⟨F, hF.block ?_, fun col hc => (hR col hc).mov mv2⟩, hE.block ?_, h1, h2⟩, ?_, hb.trans keep2, Nat.le_trans hz keep2.size, hN, hsb, hne, htab.below keep2⟩
  · rw [o2 (o1 hc (by simp)) (by simp), hc]
  · rw [o2 (o1 hc' (by simp)) (by simp), hc']
  · refine ⟨xs', ho.1, ?_⟩
    rcases ho.2 with hn | ⟨g', cap, cur, hv, hB, hg', rest⟩
    · exact .inl hn
    · exact .inr ⟨g', cap, cur, hv, hB, o2 hg' (by simp), rest⟩

theorem Held.pushC {v' : Value} {M : Nat} {cs : Array Value} {T : TypeId} (h : Held w u B N sb cm em k kt tv st a) (hg : u.grownBy u' tv.ownBlock) (hM : u.heap[M]? = some (.cells cs T)) (h52 : T ≠ 52) (h36 : T ≠ 36) : (u'.setCell ⟨sb, 3, none⟩ v').heap[M]? = some (.cells cs T) := by
  obtain ⟨xs, hx⟩ := h.trail
  have row : ∀ k, tv.ownBlock = some k → ∃ cur, u.heap[k]? = some (.cells cur 52) := fun k hk => by
    rcases hx.2 with ⟨rfl, _⟩ | ⟨g, cap, cur, rfl, hb, hg, _⟩
    · simp [Value.ownBlock] at hk
    · simp [Value.ownBlock] at hk
      subst hk
      exact ⟨cur, hg⟩
  have o1 : ∀ {b : Nat} {o : Obj}, u.heap[b]? = some o → (∀ cur, o ≠ .cells cur 52) → u'.heap[b]? = some o := fun {b o} hb hne => (hg.block b (lt_of_blk hb) (fun e => by
    obtain ⟨cur, hc⟩ := row b e.symm
    rw [hc] at hb
    injection hb with hb
    exact hne cur hb.symm)).trans hb
  have qs := o1 h.fr.hs (by simp)
  have hM' := o1 hM (fun cur => by simp [h52])
  exact (Deep.blk_setCell_other _ _ _ _ (blk_ne hM' qs (by simp [h36]))).trans hM'

theorem Held.o1 (h : Held w u B N sb cm em k kt tv st a) (hg : u.grownBy u' tv.ownBlock) (b : Nat) (cs : Array Value) (T : TypeId) (h52 : T ≠ 52) (hb : u.heap[b]? = some (.cells cs T)) : u'.heap[b]? = some (.cells cs T) := by
  obtain ⟨xs, hx⟩ := h.trail
  have row : ∀ k, tv.ownBlock = some k → ∃ cur, u.heap[k]? = some (.cells cur 52) := fun k hk => by
    rcases hx.2 with ⟨rfl, _⟩ | ⟨g, cap, cur, rfl, hb, hg, _⟩
    · simp [Value.ownBlock] at hk
    · simp [Value.ownBlock] at hk
      subst hk
      exact ⟨cur, hg⟩
  refine (hg.block b (lt_of_blk hb) (fun e => ?_)).trans hb
  obtain ⟨cur, hc⟩ := row b e.symm
  rw [hc] at hb
  injection hb with hb
  injection hb with _ h2 _
  exact h52 h2.symm
theorem Held.pushM {v' : Value} (h : Held w u B N sb cm em k kt tv st a) (hg : u.grownBy u' tv.ownBlock) : Mov u (u'.setCell ⟨sb, 3, none⟩ v') :=
  Mov.setCell ⟨hg.size, fun b cs t ht hh => h.o1 hg b cs t (by rcases ht with rfl | rfl <;> decide) hh⟩ (h.o1 hg _ _ _ (by decide) h.fr.hs) (by decide) (by decide)
theorem own_form {v : Value} {n : Nat} {xs : List Value} (h : w.ownsRow B 52 9 v (n + 1) xs) : ∃ g cap, v = .slice (some ⟨g, 0, none⟩) (n + 1) cap := by
  rcases h.2 with ⟨_, h0⟩ | ⟨g, cap, cur, hv, _⟩
  · omega
  · exact ⟨g, cap, hv⟩

theorem info52 : (Tryd.prog.info? 52).map (fun i => (i.zero, i.size, i.bytes)) = some (some (.agg #[.int .i64 0, .pointer none, .pointer none, .pointer none, .bool false, .bool false, .int .i64 0, .string ByteArray.empty, .bool false]), 9, 72) := by kernel_rfl
/-- A change as the append takes it. -/
abbrev chg (col : Int) (xl xh xe : Option Addr) (nul nn : Bool) : List Value := [.int .i64 col, .pointer xl, .pointer xh, .pointer xe, .bool nul, .bool nn, .int .i64 0, .string ⟨#[]⟩, .bool false]
theorem chg_cells (u : World) (col : Int) (xl xh xe : Option Addr) (nul nn : Bool) : ∀ j x, (chg col xl xh xe nul nn)[j]? = some x → (u.alloc (.cells #[.int .i64 col, .pointer xl, .pointer xh, .pointer xe, .bool nul, .bool nn, .int .i64 0, .string ⟨#[]⟩, .bool false] 52)).cell? ((⟨u.heap.size, 0, none⟩ : Addr).add j) = some x := fun j x h => by
  have hadd : (⟨u.heap.size, 0, none⟩ : Addr).add j = ⟨u.heap.size, j, none⟩ := by unfold Addr.add; split <;> simp_all
  rw [hadd, Lib.cell_of_heap (Deep.blk_alloc_new u _), List.getElem?_toArray]
  exact h
theorem chg_one (col : Int) (xl xh xe : Option Addr) (nul nn : Bool) : ∀ x ∈ chg col xl xh xe nul nn, x.oneCell' = true := fun x h => by
  simp at h
  rcases h with rfl | rfl | rfl | rfl | rfl | rfl | rfl | rfl | rfl <;> rfl

/-- The column stored in its map. -/
theorem Held.cols {pl ph pe : Option Nat} {c : Col} (h : Held w u B N sb cm em k kt tv st a) (hc : I64 a.col) (hk : k < 1000000) (hC : ColAt u pl ph pe c) :
    ∃ u', (Instr.mapUpdate 32 (.map (some cm)) (.int .i64 a.col) (colV pl ph pe c)).run Tryd.prog u = .ok () u' ∧ Held w u' B N sb cm em (k + 1) kt tv ⟨fun k => if k = a.col then c else st.cols k, st.ex⟩ a ∧ Mov u u' ∧ ∀ (b : Nat) (cs : Array Value) (T : TypeId), u.heap[b]? = some (.cells cs T) → u'.heap[b]? = some (.cells cs T) := by
  obtain ⟨⟨p2, p3, ps⟩, ⟨⟨F, hF, hR⟩, hE, h1, h2⟩, ht, hb, hz, hN, hsb, hne, htab⟩ := h
  obtain ⟨u', hrun, hF', hg⟩ := hF.update hc hk (colV pl ph pe c)
  obtain ⟨es, cl, hcm⟩ := hF.isMap
  have o1 : ∀ (b : Nat) (cs : Array Value) (T : TypeId), u.heap[b]? = some (.cells cs T) → u'.heap[b]? = some (.cells cs T) := fun b cs T hb => (hg.block b (lt_of_blk hb) (fun e => by
    injection e with e
    subst e
    rw [hcm] at hb
    cases hb)).trans hb
  have mv : Mov u u' := ⟨hg.size, fun b cs t _ hh => o1 b cs t hh⟩
  have keep : Below B u u' := (Below.refl _ _).grown hg hz (fun k hk => by injection hk with hk; omega)
  refine ⟨u', hrun, ⟨⟨o1 _ _ _ p2, o1 _ _ _ p3, o1 _ _ _ ps⟩, ⟨⟨_, hF', fun col hcol => ?_⟩, (hE.kept hg (by simp; exact fun e => hne e.symm)).mono (Nat.le_succ _), h1, h2⟩, ?_, hb.trans keep, Nat.le_trans hz keep.size, hN, hsb, hne, htab.below keep⟩, mv, o1⟩
  · by_cases e : col = a.col
    · simp only [e, if_true]
      exact ⟨pl, ph, pe, rfl, hC.mov mv⟩
    · simp only [e, if_false]
      exact (hR col hcol).mov mv
  · obtain ⟨xs, hx, hy⟩ := ht
    refine ⟨xs, hx, ?_⟩
    rcases hy with hn | ⟨g', cap, cur, hv, hB, hg', rest⟩
    · exact .inl hn
    · exact .inr ⟨g', cap, cur, hv, hB, o1 _ _ _ hg', rest⟩

/-- The exclusion stored in its map. -/
theorem Held.excl (h : Held w u B N sb cm em k kt tv st a) (hc : I64 a.col) (hn : I64 a.n) (hk : k < 1000000) :
    ∃ u', (Instr.mapUpdate 33 (.map (some em)) (exV a.col a.n) (.bool true)).run Tryd.prog u = .ok () u' ∧ Held w u' B N sb cm em (k + 1) kt tv ⟨st.cols, fun c m => if c = a.col ∧ m = a.n then true else st.ex c m⟩ a ∧ Mov u u' ∧ ∀ (b : Nat) (cs : Array Value) (T : TypeId), u.heap[b]? = some (.cells cs T) → u'.heap[b]? = some (.cells cs T) := by
  obtain ⟨⟨p2, p3, ps⟩, ⟨⟨F, hF, hR⟩, hE, h1, h2⟩, ht, hb, hz, hN, hsb, hne, htab⟩ := h
  obtain ⟨u', hrun, hE', hg⟩ := hE.update hc hn hk
  obtain ⟨es, cl, hcm⟩ := hE.isMap
  have o1 : ∀ (b : Nat) (cs : Array Value) (T : TypeId), u.heap[b]? = some (.cells cs T) → u'.heap[b]? = some (.cells cs T) := fun b cs T hb => (hg.block b (lt_of_blk hb) (fun e => by
    injection e with e
    subst e
    rw [hcm] at hb
    cases hb)).trans hb
  have mv : Mov u u' := ⟨hg.size, fun b cs t _ hh => o1 b cs t hh⟩
  have keep : Below B u u' := (Below.refl _ _).grown hg hz (fun k hk => by injection hk with hk; omega)
  have hF1 := hF.kept hg (by simp; exact hne)
  obtain ⟨D, hD, hDF⟩ := hF1
  refine ⟨u', hrun, ⟨⟨o1 _ _ _ p2, o1 _ _ _ p3, o1 _ _ _ ps⟩, ⟨⟨F, ⟨D, hD.mono (Nat.le_succ _), hDF⟩, fun col hcol => (hR col hcol).mov mv⟩, hE', h1, h2⟩, ?_, hb.trans keep, Nat.le_trans hz keep.size, hN, hsb, hne, htab.below keep⟩, mv, o1⟩
  obtain ⟨xs, hx, hy⟩ := ht
  refine ⟨xs, hx, ?_⟩
  rcases hy with hn | ⟨g', cap, cur, hv, hB, hg', rest⟩
  · exact .inl hn
  · exact .inr ⟨g', cap, cur, hv, hB, o1 _ _ _ hg', rest⟩

/-- 'append' on a row of the call's own, as one step of a region that draws its order. -/
theorem step_append_own {P : Program} {ops : Array Oper} {o : Oper} {a : Act} {w : World} {K : Act → World → Prop} {Q : Exit → Act → World → Prop} {E : Prop}
    (hg : o.guard = none) (s x : Operand) (t : TypeId) (hop : o.op = Op.call { callee := Callee.builtin Builtin.append, args := #[s, x], argTypes := #[t, t] })
    (e : TypeId) (i : TypeInfo) (z : Value) (size bytes : Nat) (h1 : P.underlying t = some (.slice e)) (h2 : P.info? e = some i) (h3 : i.zero = some z) (h4 : i.size = size) (h5 : i.bytes = bytes) (h6 : z.cells.size = size) (h7 : 0 < size)
    (base : Nat) (v : Value) (n : Nat) (xs : List Value) (hs : a.eval s = v) (hown : w.ownsRow base e size v n xs)
    (ad : Addr) (m c : Nat) (news : List Value) (hx : a.eval x = .slice (some ad) m c) (hn : news.length = m * size) (hc : ∀ j u, news[j]? = some u → w.cell? (ad.add j) = some u) (h1c : ∀ u ∈ news, u.oneCell' = true)
    (b1 : n + m ≤ maxLen) (b2 : (n + m) * bytes ≤ 140737488355328) (hb : base ≤ w.heap.size)
    (hK : ∀ v' w', w'.ownsRow base e size v' (n + m) (xs ++ news) → w.grownBy w' v.ownBlock → K (a.put o.dst v') w') :
    if Region.wanted o (yielded ops a.tmps) = true then Oper.wp P o a w K Q else E := by
  have hw : Region.wanted o (yielded ops a.tmps) = true := by simp [Region.wanted, hg]
  rw [if_pos hw]
  subst hs
  obtain ⟨v', w', hrun, r1, r2, _⟩ := run_append_own (P := P) w base t o.type e i z size bytes h1 h2 h3 h4 h5 h6 h7 (a.eval s) n xs hown ad m c news hn hc h1c b1 b2 hb
  unfold Oper.wp
  simp [execOp, hop, resolve, invoke, builtin, hx, hrun, Result.andThen]
  exact hK v' w' r1 r2

end Go.Proofs.Qxb6623474aDoor
