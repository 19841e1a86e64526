/-
  localize's meet (10).
-/
import Derived.Test.Qxb6623474aDoorSea3
import Derived.Test.Qxb6623474aDoorExcl
import Derived.Deep.DeepCutAuto
import Derived.Deep.CutBlock
set_option linter.unusedVariables false
set_option linter.unusedSimpArgs false
namespace Go.Proofs.Qxb6623474aDoor
open Go.RowKit Go.Maps

def MeetPost (w : World) (B sb cm em k kt : Nat) (st : Sea) (a : Atom) (e : Ending) (w' : World) : Prop :=
  e = .returned (.bool (meetB st a)) ∧ Below B w w' ∧ (meetB st a = true → ∃ tv, SeaAt w' B cm em (k + 2) (next st a) ∧ SbAt w' sb cm em tv ∧ TrailAt w' B tv (kt + 1))

theorem held_start {w : World} {B sb cm em k kt : Nat} {tv : Value} {st : Sea} {a : Atom} (hS : SeaAt w B cm em k st) (hs : SbAt w sb cm em tv) (hT : TrailAt w B tv kt) (hsb : B ≤ sb) (hne : cm ≠ em) (hB : B ≤ w.heap.size) (htab : Tab B w) :
    Held w ((w.alloc (.cells #[.pointer (some ⟨sb, 0, none⟩)] 27)).alloc (.cells #[.int .i64 a.col, .int .u8 a.op, .int .u8 a.ty, .bool a.nul, .int .i64 a.n, .string a.str] 43)) B w.heap.size sb cm em k kt tv st a := by
  have b1 := new_below w (.cells #[.pointer (some ⟨sb, 0, none⟩)] 27)
  have b2 := b1.trans ((new_below (w.alloc (.cells #[.pointer (some ⟨sb, 0, none⟩)] 27)) (.cells #[.int .i64 a.col, .int .u8 a.op, .int .u8 a.ty, .bool a.nul, .int .i64 a.n, .string a.str] 43)).mono b1.size)
  exact ⟨⟨by rw [Deep.blk_alloc_lt _ _ _ (by rw [Deep.nblk_alloc]; omega)]; exact Deep.blk_alloc_new _ _, heap_two w _ _, (b2.block _ (lt_of_blk hs)).trans hs⟩, SeaAt.below (B' := 0) hS b2, hT.below b2, b2.mono hB, Nat.le_trans hB b2.size, hB, hsb, hne, htab.below (b2.mono hB)⟩

set_option maxHeartbeats 16000000 in
set_option maxRecDepth 100000 in
theorem meet_walk (B sb cm em k kt : Nat) (tv : Value) (st : Sea) (a : Atom) (w : World) (hS : SeaAt w B cm em k st) (hs : SbAt w sb cm em tv) (hT : TrailAt w B tv kt) (hsb : B ≤ sb) (hne : cm ≠ em) (hk : k < 100000) (hkt : kt < 100000) (hd : a.dom) (hc : I64 a.col) (hB : B ≤ w.heap.size) (htab : Tab B w) :
    Calls Tryd.prog 10 #[.pointer (some ⟨sb, 0, none⟩), a.val] w (MeetPost w B sb cm em k kt st a) := by
  have H0 := held_start (a := a) hS hs hT hsb hne hB htab
  obtain ⟨N, hN⟩ : ∃ N, N = w.heap.size := ⟨_, rfl⟩
  obtain ⟨U0, hU0⟩ : ∃ U0, U0 = ((w.alloc (.cells #[.pointer (some ⟨sb, 0, none⟩)] 27)).alloc (.cells #[.int .i64 a.col, .int .u8 a.op, .int .u8 a.ty, .bool a.nul, .int .i64 a.n, .string a.str] 43)) := ⟨_, rfl⟩
  have hN1 : w.heap.size + 1 = N + 1 := by rw [hN]
  rw [← hU0, ← hN] at H0
  obtain ⟨d2, ⟨d30, -⟩, ⟨-, ds1, -⟩⟩ := And.intro (cells1 H0.fr.h2) (And.intro (cells6 H0.fr.h3) (cells4 H0.fr.hs))
  obtain ⟨F, hF, hR⟩ := H0.sea.cols
  obtain ⟨pl, ph, pe, hFv, hC⟩ := hR a.col hc
  have L : ∀ u, Below U0.heap.size U0 u → (Instr.lookup 32 (.map (some cm)) (.int .i64 a.col) false).run Tryd.prog u = .ok (colV pl ph pe (st.cols a.col)) u := fun u hu => by
    rw [← hFv]; exact (hF.block (hu.block cm (lt_of_blk hF.isMap.choose_spec.choose_spec))).lookup hc
  obtain ⟨xl, hxl⟩ : ∃ x, ptrOf pl = .pointer x := ⟨_, rfl⟩
  obtain ⟨xh, hxh⟩ : ∃ x, ptrOf ph = .pointer x := ⟨_, rfl⟩
  obtain ⟨xe, hxe⟩ : ∃ x, ptrOf pe = .pointer x := ⟨_, rfl⟩
  simp only [colV, hxl, hxh, hxe] at L
  have L1 := L U0.drew (Below.refl _ _).drew
  have L2 := fun o => L (U0.alloc o).drew (new_drew U0 o)
  obtain ⟨M, hM⟩ : ∃ M, M = U0.heap.size := ⟨_, rfl⟩
  have hMB : B ≤ M := by rw [hM]; exact H0.size
  go_enter Tryd.func10, Tryd.ntmps10
  go_upto_region 1 with fail
  rw [← hU0]
  try rw [hN1]
  try rw [← hN]
  go_cut [5] (fun s5 wx => s5 = .pointer (some ⟨M, 0, none⟩) ∧ Held w wx B N sb cm em k kt tv st a ∧ CAt wx M pl ph pe (st.cols a.col) ∧ ColAt wx pl ph pe (st.cols a.col))
  case first => as_aux_lemma =>
    clear hN1 hU0 hN hR hFv
    go_region_held3 (fun w' => w'.cell? ⟨N, 0, none⟩ = some (.pointer (some ⟨sb, 0, none⟩)) ∧ w'.cell? ⟨sb, 1, none⟩ = some (.map (some cm)) ∧ w'.cell? ⟨N + 1, 0, none⟩ = some (.int .i64 a.col)) (go_keep) (fail)
    all_goals
      go_wp2_with fail
      go_meet
      refine ⟨by rw [hM], H0.grow (new_drew U0 _), ?_, hC.mov (.below (new_drew U0 _))⟩
      rw [CAt, hxl, hxh, hxe, hM]
      exact Deep.blk_alloc_new U0 _
  case rest =>
  obtain ⟨rfl, H1, hCA, hCC⟩ := hcut
  clear L L1 L2 hF hR hC hFv F d2 d30 ds1 H0 hS hs hT
  obtain ⟨U1, hU1⟩ : ∃ U, U = wc := ⟨_, rfl⟩
  rw [← hU1] at H1 hCA hCC ⊢
  clear hU1
  obtain ⟨xs, hown⟩ := H1.trail
  obtain ⟨i0, hi0, hz0, hz1, hz2⟩ : ∃ i, Tryd.prog.info? 52 = some i ∧ i.zero = some (.agg #[.int .i64 0, .pointer none, .pointer none, .pointer none, .bool false, .bool false, .int .i64 0, .string ByteArray.empty, .bool false]) ∧ i.size = 9 ∧ i.bytes = 72 := by
    have := info52
    cases h : Tryd.prog.info? 52 with
    | none => rw [h] at this; cases this
    | some i => rw [h] at this; simp at this; exact ⟨i, rfl, this.1, this.2.1, this.2.2⟩
  have bT := new_drew U1 (.cells #[.int .i64 a.col, .pointer xl, .pointer xh, .pointer xe, .bool (st.cols a.col).nul, .bool (st.cols a.col).nn, .int .i64 0, .string ⟨#[]⟩, .bool false] 52)
  have HT := H1.grow bT
  rw [CAt, hxl, hxh, hxe] at hCA
  have hCT := (bT.block M (lt_of_blk hCA)).trans hCA
  have hownT : (U1.alloc (.cells #[.int .i64 a.col, .pointer xl, .pointer xh, .pointer xe, .bool (st.cols a.col).nul, .bool (st.cols a.col).nn, .int .i64 0, .string ⟨#[]⟩, .bool false] 52)).drew.ownsRow B 52 9 tv kt xs := hown.alloc _
  have hnews := chg_cells U1 a.col xl xh xe (st.cols a.col).nul (st.cols a.col).nn
  have h1c := chg_one a.col xl xh xe (st.cols a.col).nul (st.cols a.col).nn
  have zT := HT.size
  have hn1 : kt + 1 ≤ maxLen := by unfold maxLen; omega
  have hn2 : (kt + 1) * 72 ≤ 140737488355328 := by omega
  obtain ⟨d2, ⟨d30, -⟩, ⟨-, -, -, ds3⟩⟩ := And.intro (cells1 H1.fr.h2) (And.intro (cells6 H1.fr.h3) (cells4 H1.fr.hs))
  obtain ⟨m0, m1, m2, m3, m4⟩ := cells5 hCA
  have dsT : ∀ o, (U1.alloc o).cell? ⟨sb, 3, none⟩ = some tv := fun o => ((new_below U1 o).cell (p := ⟨sb, 3, none⟩) (lt_of_blk H1.fr.hs)).trans ds3
  go_upto_region 2 with fail
  go_cut [] (fun wx => ∃ g cap, Held w wx B N sb cm em k (kt + 1) (.slice (some ⟨g, 0, none⟩) (kt + 1) cap) st a ∧ CAt wx M pl ph pe (st.cols a.col) ∧ ColAt wx pl ph pe (st.cols a.col))
  case first =>
    clear hU0 hN hN1 hM
    refine wp_region_noPanic ?_
    refine wp_region_held_drew (S := (fun w' => w'.cell? ⟨N, 0, none⟩ = some (.pointer (some ⟨sb, 0, none⟩)) ∧ w'.cell? ⟨N + 1, 0, none⟩ = some (.int .i64 a.col) ∧ w'.cell? ⟨M, 0, none⟩ = some (.pointer xl) ∧ w'.cell? ⟨M, 1, none⟩ = some (.pointer xh) ∧ w'.cell? ⟨M, 2, none⟩ = some (.pointer xe) ∧ w'.cell? ⟨M, 3, none⟩ = some (.bool (st.cols a.col).nul) ∧ w'.cell? ⟨M, 4, none⟩ = some (.bool (st.cols a.col).nn))) (by kernel_rfl) (by go_keep) (fun hHeld => ?_)
    refine wpAnyH_take (i := 0) (oi := Oper.mk (some 18) _ _ _ _ _) (v := ?_) rfl (by kernel_rfl) (by kernel_rfl) (by kernel_rfl) (fun _ _ _ h => h) (Or.inl ⟨by kernel_rfl, ?_⟩) (by assumption) ?_
    rotate_left
    focus ((intro w hSw; (try dsimp only at hSw); go_simp) <;> with_reducible rfl)
    try simp only [Act.put, List.setIfInBounds_toArray, List.set_cons_zero, List.set_cons_succ]
    refine wpAnyH_take (i := 1) (oi := Oper.mk (some 19) _ _ _ _ _) (v := ?_) rfl (by kernel_rfl) (by kernel_rfl) (by kernel_rfl) (fun _ _ _ h => h) (Or.inl ⟨by kernel_rfl, ?_⟩) (by assumption) ?_
    rotate_left
    focus ((intro w hSw; (try dsimp only at hSw); go_simp) <;> with_reducible rfl)
    try simp only [Act.put, List.setIfInBounds_toArray, List.set_cons_zero, List.set_cons_succ]
    refine wpAnyH_take (i := 2) (oi := Oper.mk (some 20) _ _ _ _ _) (v := ?_) rfl (by kernel_rfl) (by kernel_rfl) (by kernel_rfl) (fun _ _ _ h => h) (Or.inl ⟨by kernel_rfl, ?_⟩) (by assumption) ?_
    rotate_left
    focus ((intro w hSw; (try dsimp only at hSw); go_simp) <;> with_reducible rfl)
    try simp only [Act.put, List.setIfInBounds_toArray, List.set_cons_zero, List.set_cons_succ]
    refine wpAnyH_take (i := 3) (oi := Oper.mk (some 21) _ _ _ _ _) (v := ?_) rfl (by kernel_rfl) (by kernel_rfl) (by kernel_rfl) (fun _ _ _ h => h) (Or.inl ⟨by kernel_rfl, ?_⟩) (by assumption) ?_
    rotate_left
    focus ((intro w hSw; (try dsimp only at hSw); go_simp) <;> with_reducible rfl)
    try simp only [Act.put, List.setIfInBounds_toArray, List.set_cons_zero, List.set_cons_succ]
    refine wpAnyH_take (i := 5) (oi := Oper.mk (some 23) _ _ _ _ _) (v := ?_) rfl (by kernel_rfl) (by kernel_rfl) (by kernel_rfl) (fun _ _ _ h => h) (Or.inl ⟨by kernel_rfl, ?_⟩) (by assumption) ?_
    rotate_left
    focus ((intro w hSw; (try dsimp only at hSw); go_simp) <;> with_reducible rfl)
    try simp only [Act.put, List.setIfInBounds_toArray, List.set_cons_zero, List.set_cons_succ]
    refine wpAnyH_take (i := 6) (oi := Oper.mk (some 24) _ _ _ _ _) (v := ?_) rfl (by kernel_rfl) (by kernel_rfl) (by kernel_rfl) (fun _ _ _ h => h) (Or.inl ⟨by kernel_rfl, ?_⟩) (by assumption) ?_
    rotate_left
    focus ((intro w hSw; (try dsimp only at hSw); go_simp) <;> with_reducible rfl)
    try simp only [Act.put, List.setIfInBounds_toArray, List.set_cons_zero, List.set_cons_succ]
    refine wpAnyH_take (i := 7) (oi := Oper.mk (some 25) _ _ _ _ _) (v := ?_) rfl (by kernel_rfl) (by kernel_rfl) (by kernel_rfl) (fun _ _ _ h => h) (Or.inl ⟨by kernel_rfl, ?_⟩) (by assumption) ?_
    rotate_left
    focus ((intro w hSw; (try dsimp only at hSw); go_simp) <;> with_reducible rfl)
    try simp only [Act.put, List.setIfInBounds_toArray, List.set_cons_zero, List.set_cons_succ]
    refine wpAnyH_take (i := 8) (oi := Oper.mk (some 26) _ _ _ _ _) (v := ?_) rfl (by kernel_rfl) (by kernel_rfl) (by kernel_rfl) (fun _ _ _ h => h) (Or.inl ⟨by kernel_rfl, ?_⟩) (by assumption) ?_
    rotate_left
    focus ((intro w hSw; (try dsimp only at hSw); go_simp) <;> with_reducible rfl)
    try simp only [Act.put, List.setIfInBounds_toArray, List.set_cons_zero, List.set_cons_succ]
    refine wpAnyH_ready (rs := [4, 9]) (by kernel_rfl) (by simp) ?_
    refine AllReadyH.cons (o := Oper.mk (some 22) _ _ _ _ _) rfl (fun K hK => ?_) (AllReadyH.cons (o := Oper.mk (some 27) _ _ _ _ _) rfl (fun K hK => ?_) AllReadyH.nil)
    · go_simp
      refine hK.out _ _ (by assumption) (fun hHeld => ?_)
      clear hK K
      try simp only [Act.put, List.setIfInBounds_toArray, List.set_cons_zero, List.set_cons_succ]
      refine wpAnyH_ready (rs := [9]) (by kernel_rfl) (by simp) ?_
      refine AllReadyH.cons (o := Oper.mk (some 27) _ _ _ _ _) rfl (fun K hK => ?_) AllReadyH.nil
      go_simp
      refine hK.out _ _ (by go_keep) (fun hHeld => ?_)
      clear hK K
      try simp only [Act.put, List.setIfInBounds_toArray, List.set_cons_zero, List.set_cons_succ]
      refine wpAnyH_ready (rs := [10]) (by kernel_rfl) (by simp) ?_
      refine AllReadyH.cons (o := Oper.mk (some 28) _ _ _ _ _) rfl (fun K hK => ?_) AllReadyH.nil
      (refine step_append_own rfl (.tmp 22) (.tmp 27) 34 rfl 52 i0 _ 9 72 Tryd.underlying34 hi0 hz0 hz1 hz2 rfl (by decide) B tv kt xs (by simp [Act.eval, Act.put]) hownT ⟨U1.heap.size, 0, none⟩ 1 1 _ (by simp [Act.eval, Act.put]) rfl hnews h1c hn1 hn2 zT ?_; intro v' w' hown' hgrow; obtain ⟨g, cap, rfl⟩ := own_form hown'; have e2 := cells1 (HT.o1 hgrow _ _ _ (by decide) HT.fr.h2); have e3 := (cells6 (HT.o1 hgrow _ _ _ (by decide) HT.fr.h3)).1; have es := (cells4 (HT.o1 hgrow _ _ _ (by decide) HT.fr.hs)).2.2.2; have ef := Lib.frozen_of_heap (HT.o1 hgrow _ _ _ (by decide) HT.fr.hs) 3; obtain ⟨n0, n1, n2, n3, n4⟩ := cells5 (HT.o1 hgrow _ _ _ (by decide) hCT))
      refine hK.out _ _ (by exact ⟨e2, e3, n0, n1, n2, n3, n4⟩) (fun hHeld => ?_)
      clear hK K
      try simp only [Act.put, List.setIfInBounds_toArray, List.set_cons_zero, List.set_cons_succ]
      refine wpAnyH_take (i := 11) (oi := Oper.mk (some 29) _ _ _ _ _) (v := ?_) rfl (by kernel_rfl) (by kernel_rfl) (by kernel_rfl) (fun _ _ _ h => h) (Or.inl ⟨by kernel_rfl, ?_⟩) (by assumption) ?_
      rotate_left
      focus ((intro w hSw; (try dsimp only at hSw); go_simp) <;> with_reducible rfl)
      try simp only [Act.put, List.setIfInBounds_toArray, List.set_cons_zero, List.set_cons_succ]
      refine wpAnyH_take (i := 12) (oi := Oper.mk (some 30) _ _ _ _ _) (v := ?_) rfl (by kernel_rfl) (by kernel_rfl) (by kernel_rfl) (fun _ _ _ h => h) (Or.inl ⟨by kernel_rfl, ?_⟩) (by assumption) ?_
      rotate_left
      focus ((intro w hSw; (try dsimp only at hSw); go_simp) <;> with_reducible rfl)
      try simp only [Act.put, List.setIfInBounds_toArray, List.set_cons_zero, List.set_cons_succ]
      have HP := HT.push hgrow hown'
      have HPC := HT.pushC (v' := .slice (some ⟨g, 0, none⟩) (kt + 1) cap) hgrow hCT (by decide) (by decide)
      have HPM := (Mov.below bT).trans (HT.pushM (v' := .slice (some ⟨g, 0, none⟩) (kt + 1) cap) hgrow)
      refine wpAnyH_ready (rs := [13]) (by kernel_rfl) (by simp) ?_
      refine AllReadyH.cons (o := Oper.mk none _ _ _ _ _) rfl (fun K hK => ?_) AllReadyH.nil
      go_simp
      refine hK.out _ _ (by exact ⟨cells1 HP.fr.h2, (cells6 HP.fr.h3).1, cells5 HPC⟩) (fun hHeld => ?_)
      clear hK K
      try simp only [Act.put, List.setIfInBounds_toArray, List.set_cons_zero, List.set_cons_succ]
      refine wpAnyH_done (by kernel_rfl) (NoPanic.normal ?_) _
      go_wp2_with fail
      go_meet
      exact ⟨g, cap, HP, by rw [CAt, hxl, hxh, hxe]; exact HPC, hCC.mov HPM⟩
    · go_simp
      refine hK.out _ _ (by go_keep) (fun hHeld => ?_)
      clear hK K
      try simp only [Act.put, List.setIfInBounds_toArray, List.set_cons_zero, List.set_cons_succ]
      refine wpAnyH_ready (rs := [4]) (by kernel_rfl) (by simp) ?_
      refine AllReadyH.cons (o := Oper.mk (some 22) _ _ _ _ _) rfl (fun K hK => ?_) AllReadyH.nil
      go_simp
      refine hK.out _ _ (by assumption) (fun hHeld => ?_)
      clear hK K
      try simp only [Act.put, List.setIfInBounds_toArray, List.set_cons_zero, List.set_cons_succ]
      refine wpAnyH_ready (rs := [10]) (by kernel_rfl) (by simp) ?_
      refine AllReadyH.cons (o := Oper.mk (some 28) _ _ _ _ _) rfl (fun K hK => ?_) AllReadyH.nil
      (refine step_append_own rfl (.tmp 22) (.tmp 27) 34 rfl 52 i0 _ 9 72 Tryd.underlying34 hi0 hz0 hz1 hz2 rfl (by decide) B tv kt xs (by simp [Act.eval, Act.put]) hownT ⟨U1.heap.size, 0, none⟩ 1 1 _ (by simp [Act.eval, Act.put]) rfl hnews h1c hn1 hn2 zT ?_; intro v' w' hown' hgrow; obtain ⟨g, cap, rfl⟩ := own_form hown'; have e2 := cells1 (HT.o1 hgrow _ _ _ (by decide) HT.fr.h2); have e3 := (cells6 (HT.o1 hgrow _ _ _ (by decide) HT.fr.h3)).1; have es := (cells4 (HT.o1 hgrow _ _ _ (by decide) HT.fr.hs)).2.2.2; have ef := Lib.frozen_of_heap (HT.o1 hgrow _ _ _ (by decide) HT.fr.hs) 3; obtain ⟨n0, n1, n2, n3, n4⟩ := cells5 (HT.o1 hgrow _ _ _ (by decide) hCT))
      refine hK.out _ _ (by exact ⟨e2, e3, n0, n1, n2, n3, n4⟩) (fun hHeld => ?_)
      clear hK K
      try simp only [Act.put, List.setIfInBounds_toArray, List.set_cons_zero, List.set_cons_succ]
      refine wpAnyH_take (i := 11) (oi := Oper.mk (some 29) _ _ _ _ _) (v := ?_) rfl (by kernel_rfl) (by kernel_rfl) (by kernel_rfl) (fun _ _ _ h => h) (Or.inl ⟨by kernel_rfl, ?_⟩) (by assumption) ?_
      rotate_left
      focus ((intro w hSw; (try dsimp only at hSw); go_simp) <;> with_reducible rfl)
      try simp only [Act.put, List.setIfInBounds_toArray, List.set_cons_zero, List.set_cons_succ]
      refine wpAnyH_take (i := 12) (oi := Oper.mk (some 30) _ _ _ _ _) (v := ?_) rfl (by kernel_rfl) (by kernel_rfl) (by kernel_rfl) (fun _ _ _ h => h) (Or.inl ⟨by kernel_rfl, ?_⟩) (by assumption) ?_
      rotate_left
      focus ((intro w hSw; (try dsimp only at hSw); go_simp) <;> with_reducible rfl)
      try simp only [Act.put, List.setIfInBounds_toArray, List.set_cons_zero, List.set_cons_succ]
      have HP := HT.push hgrow hown'
      have HPC := HT.pushC (v' := .slice (some ⟨g, 0, none⟩) (kt + 1) cap) hgrow hCT (by decide) (by decide)
      have HPM := (Mov.below bT).trans (HT.pushM (v' := .slice (some ⟨g, 0, none⟩) (kt + 1) cap) hgrow)
      refine wpAnyH_ready (rs := [13]) (by kernel_rfl) (by simp) ?_
      refine AllReadyH.cons (o := Oper.mk none _ _ _ _ _) rfl (fun K hK => ?_) AllReadyH.nil
      go_simp
      refine hK.out _ _ (by exact ⟨cells1 HP.fr.h2, (cells6 HP.fr.h3).1, cells5 HPC⟩) (fun hHeld => ?_)
      clear hK K
      try simp only [Act.put, List.setIfInBounds_toArray, List.set_cons_zero, List.set_cons_succ]
      refine wpAnyH_done (by kernel_rfl) (NoPanic.normal ?_) _
      go_wp2_with fail
      go_meet
      exact ⟨g, cap, HP, by rw [CAt, hxl, hxh, hxe]; exact HPC, hCC.mov HPM⟩
  case rest =>
  obtain ⟨g, cap, H2, hCA2, hCC2⟩ := hcut
  clear HT hCT hownT hnews h1c zT hn1 hn2 d2 d30 ds3 m0 m1 m2 m3 m4 dsT hCA hCC H1 hown hi0 hz0 hz1 hz2 xs bT i0 hU0 hN hN1 hM
  obtain ⟨U2, hU2⟩ : ∃ U, U = wc := ⟨_, rfl⟩
  rw [← hU2] at H2 hCA2 hCC2 ⊢
  clear hU2
  rw [CAt, hxl, hxh, hxe] at hCA2
  obtain ⟨c, hcc⟩ : ∃ c, Hid (c = st.cols a.col) := ⟨_, hide rfl⟩
  rw [← unhide hcc] at hCA2 hCC2
  go_upto_block 0 with fail
  go_cut [] (fun wx => Out w wx B N M sb cm em k (kt + 1) (.slice (some ⟨g, 0, none⟩) (kt + 1) cap) st a)
  case first =>
    rename_i K0 hK0 J0 K1 hJ0 hJ1
    clear hK0
    obtain ⟨-, d31, d32, d33, d34, d35⟩ := cells6 H2.fr.h3
    obtain ⟨m0, m1, m2, m3, m4⟩ := cells5 hCA2
    have fM := Lib.frozen_of_heap hCA2
    rcases hd with hop | hop | ⟨hop, hd⟩
    · as_aux_lemma =>
      rw [hop] at d31
      go_wp2
      go_meet
      exact Out.of (c' := { c with nul := true }) (unhide hcc) (by simp [stepCol, hop]) (H2.set hCA2 rfl hMB) (by simp [isNe, hop]) hxl hxh hxe (CAt.set hCA2 3 _) (hCC2.lo.mov ((Mov.refl _).setCell hCA2 (by decide) (by decide))) (hCC2.hi.mov ((Mov.refl _).setCell hCA2 (by decide) (by decide))) (hCC2.eq.mov ((Mov.refl _).setCell hCA2 (by decide) (by decide))) hCC2.fit
    · as_aux_lemma =>
      rw [hop] at d31
      go_wp2
      go_meet
      exact Out.of (c' := { c with nn := true }) (unhide hcc) (by simp [stepCol, hop]) (H2.set hCA2 rfl hMB) (by simp [isNe, hop]) hxl hxh hxe (CAt.set hCA2 4 _) (hCC2.lo.mov ((Mov.refl _).setCell hCA2 (by decide) (by decide))) (hCC2.hi.mov ((Mov.refl _).setCell hCA2 (by decide) (by decide))) (hCC2.eq.mov ((Mov.refl _).setCell hCA2 (by decide) (by decide))) hCC2.fit
    · cases hnul : a.nul with
      | true => as_aux_lemma =>
        have o11 : a.op ≠ 11 := by omega
        have o12 : a.op ≠ 12 := by omega
        have b11 : (a.op == 11) = false := by simp [o11]
        have b12 : (a.op == 12) = false := by simp [o12]
        rw [hnul] at d33
        go_wp2
        go_ret
        have hm : meetB st a = false := by simp [meetB, stepCol, o11, o12, hnul]
        exact ⟨by rw [hm]; rfl, H2.below, fun h => by rw [hm] at h; cases h⟩
      | false =>
        obtain ⟨hty, hn0, hn1⟩ : (a.ty = 2 ∨ a.ty = 3) ∧ -9223372036854775806 ≤ a.n ∧ a.n ≤ 9223372036854775805 := hd.resolve_left (by rw [hnul]; decide)
        have hI : I64 a.n := I64.mk (by omega) (by omega)
        rw [hnul] at d33
        rcases hop with hop | hop | hop | hop | hop | hop <;> rw [hop] at d31
        · as_aux_lemma =>
          go_upto_region 7 with fail
          obtain ⟨U3, hU3⟩ : ∃ U, U = U2.setCell ⟨M, 4, none⟩ (.bool true) := ⟨_, rfl⟩
          have H3 := H2.set (j := 4) (v := .bool true) hCA2 rfl hMB
          have hCA3 := CAt.set hCA2 4 (.bool true)
          have hCC3 := hCC2.mov ((Mov.refl _).setCell (j := 4) (v := .bool true) hCA2 (by decide) (by decide))
          rw [← hU3] at H3 hCA3 hCC3 ⊢
          clear hU3 d31 d32 d33 d34 d35 m0 m1 m2 m3 m4 fM hCA2 hCC2 H2
          replace hCA3 : U3.heap[M]? = some (.cells #[.pointer xl, .pointer xh, .pointer xe, .bool c.nul, .bool true] 48) := hCA3
          obtain ⟨-, d31, d32, d33, d34, d35⟩ := cells6 H3.fr.h3
          rw [hnul] at d33
          obtain ⟨m0, m1, m2, m3, m4⟩ := cells5 hCA3
          have fM := Lib.frozen_of_heap hCA3
          have heq := hCC3.eq
          obtain ⟨q, hq⟩ : ∃ q, Hid (q = c.eq) := ⟨_, hide rfl⟩
          rw [← unhide hq] at heq
          match pe, q, heq with
          | none, none, _ => as_aux_lemma =>
            obtain rfl : none = xe := by simpa [ptrOf] using hxe
            go_quiet (fail)
            generalize hU4 : World.drewN U3 _ = U4
            have b4 : Below U3.heap.size U3 U4 := hU4 ▸ ⟨rfl, rfl, rfl, Nat.le_refl _, fun _ _ => rfl⟩
            have H4 := H3.grow b4
            have hCA4 := (b4.block M (lt_of_blk hCA3)).trans hCA3
            have hCC4 := hCC3.mov (.below b4)
            clear hU4 b4 d31 d32 d33 d34 d35 m0 m1 m2 m3 m4 fM hCA3 hCC3 H3
            obtain ⟨-, d31, d32, d33, d34, d35⟩ := cells6 H4.fr.h3
            rw [hnul] at d33
            obtain ⟨m0, m1, m2, m3, m4⟩ := cells5 hCA4
            have fM := Lib.frozen_of_heap hCA4
            have zM := lt_of_blk hCA4
            have zM2 : U4.heap.size ≠ M := by omega
            go_wp2
            go_meet
            have mv := set_num (cs' := #[.int .u8 a.ty, .bool false, .int .i64 a.n, .string a.str]) (v := .pointer (some ⟨U4.heap.size, 0, none⟩)) hCA4 2
            exact Out.of (c' := { c with nn := true, eq := some a.n }) (pe := some U4.heap.size) (unhide hcc) (by simp [stepCol, hop, hnul, ← unhide hq]) ((H4.set hCA4 rfl hMB).grow (new_below _ _)) (by simp [isNe, hop]) hxl hxh rfl (((new_below _ _).block M (by rw [Deep.nblk_setCell]; exact zM)).trans (CAt.set hCA4 2 _)) (hCC4.lo.mov mv) (hCC4.hi.mov mv) ⟨a.ty, a.str, hty, new_at _ _ _ _⟩ ⟨hCC4.fit.1, hCC4.fit.2.1, fun n h => by injection h with h; rw [← h]; exact hI⟩
          | some b, some m, hnum => as_aux_lemma =>
            obtain rfl : some ⟨b, 0, none⟩ = xe := by simpa [ptrOf] using hxe
            have hnum0 := hnum
            obtain ⟨ty', s', ht', hb⟩ := hnum
            obtain ⟨q0, q1, q2, q3⟩ := cells4 hb
            have hcs := cmp_cases m a.n
            have CW := fun w' => compare_walk ty' m s' a.ty a.n a.str w' ht'
            obtain ⟨v, hv⟩ : ∃ v, v = cmp m a.n := ⟨_, rfl⟩
            simp only [← hv] at CW hcs
            replace hv := hide hv
            rcases hcs with rfl | rfl | rfl
            all_goals
              go_region_held3 (fun w' => w'.cell? ⟨M, 2, none⟩ = some (.pointer (some ⟨b, 0, none⟩)) ∧ (w'.cell? ⟨b, 0, none⟩ = some (.int .u8 ty') ∧ w'.cell? ⟨b, 1, none⟩ = some (.bool false) ∧ w'.cell? ⟨b, 2, none⟩ = some (.int .i64 m) ∧ w'.cell? ⟨b, 3, none⟩ = some (.string s')) ∧ w'.cell? ⟨N + 1, 2, none⟩ = some (.int .u8 a.ty) ∧ w'.cell? ⟨N + 1, 3, none⟩ = some (.bool false) ∧ w'.cell? ⟨N + 1, 4, none⟩ = some (.int .i64 a.n) ∧ w'.cell? ⟨N + 1, 5, none⟩ = some (.string a.str)) (go_keep)
                (first
                  | (go_at_call 12; refine (CW _).mono ?_; rintro e w1 ⟨rfl, b1⟩; have b1' : Below U3.heap.size U3 w1 := below_of (by first | exact Below.refl _ _ | exact (Below.refl _ _).drew) b1; have H4 := H3.grow b1'; have hCA4 := (b1'.block M (lt_of_blk hCA3)).trans hCA3; have e2 := (cells5 hCA4).2.2.1; have f2 := cells4 ((b1'.block b (lt_of_blk hb)).trans hb); have f3 := (cells6 H4.fr.h3).2.2; rw [hnul] at f3; obtain ⟨f20, f21, f22, f23⟩ := f2; obtain ⟨f30, f31, f32, f33⟩ := f3))
              go_wp2
              first
                | (go_meet
                   exact Out.of (c' := { c with nn := true }) (unhide hcc) (by simp [stepCol, hop, hnul, ← unhide hq, ← unhide hv]) H4 (by simp [isNe, hop]) hxl hxh hxe hCA4 (hCC3.lo.mov (.below b1')) (hCC3.hi.mov (.below b1')) (by rw [show ({ c with nn := true } : Col).eq = some m from (unhide hq).symm]; exact hnum0.mov (.below b1')) hCC3.fit)
                | (go_ret
                   have hm : meetB st a = false := by simp [meetB, ← unhide hcc, stepCol, hop, hnul, ← unhide hq, ← unhide hv]
                   exact ⟨by rw [hm]; rfl, H4.below, fun h => by rw [hm] at h; cases h⟩)
        · as_aux_lemma =>
          go_upto_region 13 with fail
          obtain ⟨U3, hU3⟩ : ∃ U, U = U2.setCell ⟨M, 4, none⟩ (.bool true) := ⟨_, rfl⟩
          have H3 := H2.set (j := 4) (v := .bool true) hCA2 rfl hMB
          have hCA3 := CAt.set hCA2 4 (.bool true)
          have hCC3 := hCC2.mov ((Mov.refl _).setCell (j := 4) (v := .bool true) hCA2 (by decide) (by decide))
          rw [← hU3] at H3 hCA3 hCC3 ⊢
          clear hU3 d31 d32 d33 d34 d35 m0 m1 m2 m3 m4 fM hCA2 hCC2 H2
          replace hCA3 : U3.heap[M]? = some (.cells #[.pointer xl, .pointer xh, .pointer xe, .bool c.nul, .bool true] 48) := hCA3
          obtain ⟨d30, d31, d32, d33, d34, d35⟩ := cells6 H3.fr.h3
          rw [hnul] at d33
          have KW := fun (rb : Nat) (w' : World) (hv : ValAt w' rb 0 a.ty a.n a.str) (hb : Below U3.heap.size U3 w') => key_walk B rb a.ty a.n a.str w' hv hty hI.bounds.1 hI.bounds.2 (Nat.le_trans H3.size hb.size) (H3.tab.below (hb.mono H3.size))
          have bb1 := new_drew U3 (.cells #[.int .u8 a.ty, .bool false, .int .i64 a.n, .string a.str] 41)
          have bb2 := (new_below U3 (.cells #[.int .u8 a.ty, .bool false, .int .i64 a.n, .string a.str] 41)).trans ((new_drew (U3.alloc (.cells #[.int .u8 a.ty, .bool false, .int .i64 a.n, .string a.str] 41)) (.cells #[.int .i64 0, .string ⟨#[]⟩] 50)).mono bb1.size)
          have bb0 := new_drew U3 (.cells #[.int .i64 0, .string ⟨#[]⟩] 50)
          have bb3 := (new_below U3 (.cells #[.int .i64 0, .string ⟨#[]⟩] 50)).trans ((new_drew (U3.alloc (.cells #[.int .i64 0, .string ⟨#[]⟩] 50)) (.cells #[.int .u8 a.ty, .bool false, .int .i64 a.n, .string a.str] 41)).mono bb0.size)
          have v1 := val_new U3 a.ty a.n a.str
          have v2 : ValAt ((U3.alloc (.cells #[.int .u8 a.ty, .bool false, .int .i64 a.n, .string a.str] 41)).alloc (.cells #[.int .i64 0, .string ⟨#[]⟩] 50)) U3.heap.size 0 a.ty a.n a.str := cells4 (by rw [Deep.blk_alloc_lt _ _ _ (by rw [Deep.nblk_alloc]; omega)]; exact Deep.blk_alloc_new _ _)
          have v3 : ValAt ((U3.alloc (.cells #[.int .i64 0, .string ⟨#[]⟩] 50)).alloc (.cells #[.int .u8 a.ty, .bool false, .int .i64 a.n, .string a.str] 41)) (U3.heap.size + 1) 0 a.ty a.n a.str := cells4 (heap_two U3 _ _)
          have K1 := (KW U3.heap.size (U3.alloc (.cells #[.int .u8 a.ty, .bool false, .int .i64 a.n, .string a.str] 41)).drew v1 bb1).mono (fun (e : Ending) (w' : World) (h : e = .returned (.string (keyS a.n)) ∧ Below (U3.alloc (.cells #[.int .u8 a.ty, .bool false, .int .i64 a.n, .string a.str] 41)).drew.heap.size (U3.alloc (.cells #[.int .u8 a.ty, .bool false, .int .i64 a.n, .string a.str] 41)).drew w') => (⟨h.1, bb1.trans (h.2.mono bb1.size)⟩ : e = .returned (.string (keyS a.n)) ∧ Below U3.heap.size U3 w'))
          have K2 := (KW U3.heap.size ((U3.alloc (.cells #[.int .u8 a.ty, .bool false, .int .i64 a.n, .string a.str] 41)).alloc (.cells #[.int .i64 0, .string ⟨#[]⟩] 50)).drew v2 bb2).mono (fun (e : Ending) (w' : World) (h : e = .returned (.string (keyS a.n)) ∧ Below ((U3.alloc (.cells #[.int .u8 a.ty, .bool false, .int .i64 a.n, .string a.str] 41)).alloc (.cells #[.int .i64 0, .string ⟨#[]⟩] 50)).drew.heap.size ((U3.alloc (.cells #[.int .u8 a.ty, .bool false, .int .i64 a.n, .string a.str] 41)).alloc (.cells #[.int .i64 0, .string ⟨#[]⟩] 50)).drew w') => (⟨h.1, bb2.trans (h.2.mono bb2.size), (h.2.block _ (lt_of_blk (heap_two U3 _ _))).trans (heap_two U3 _ _)⟩ : e = .returned (.string (keyS a.n)) ∧ Below U3.heap.size U3 w' ∧ w'.heap[U3.heap.size + 1]? = some (.cells #[.int .i64 0, .string ⟨#[]⟩] 50)))
          have z3 : ((U3.alloc (.cells #[.int .i64 0, .string ⟨#[]⟩] 50)).alloc (.cells #[.int .u8 a.ty, .bool false, .int .i64 a.n, .string a.str] 41)).drew.heap[U3.heap.size]? = some (.cells #[.int .i64 0, .string ⟨#[]⟩] 50) := (Deep.blk_alloc_lt _ _ _ (by rw [Deep.nblk_alloc]; omega)).trans (Deep.blk_alloc_new _ _)
          have K3 := (KW (U3.heap.size + 1) ((U3.alloc (.cells #[.int .i64 0, .string ⟨#[]⟩] 50)).alloc (.cells #[.int .u8 a.ty, .bool false, .int .i64 a.n, .string a.str] 41)).drew v3 bb3).mono (fun (e : Ending) (w' : World) (h : e = .returned (.string (keyS a.n)) ∧ Below ((U3.alloc (.cells #[.int .i64 0, .string ⟨#[]⟩] 50)).alloc (.cells #[.int .u8 a.ty, .bool false, .int .i64 a.n, .string a.str] 41)).drew.heap.size ((U3.alloc (.cells #[.int .i64 0, .string ⟨#[]⟩] 50)).alloc (.cells #[.int .u8 a.ty, .bool false, .int .i64 a.n, .string a.str] 41)).drew w') => (⟨h.1, bb3.trans (h.2.mono bb3.size), (h.2.block _ (lt_of_blk z3)).trans z3⟩ : e = .returned (.string (keyS a.n)) ∧ Below U3.heap.size U3 w' ∧ w'.heap[U3.heap.size]? = some (.cells #[.int .i64 0, .string ⟨#[]⟩] 50)))
          clear KW v1 v2 v3 bb1 bb2 bb3 bb0 z3
          have zN := lt_of_blk H3.fr.h3
          have zN1 : ¬ N = U3.heap.size := by omega
          have zN2 : ¬ N + 1 = U3.heap.size := by omega
          have zN3 : ¬ U3.heap.size = N + 1 := by omega
          have zN4 : ¬ U3.heap.size = N := by omega
          go_cut [7] (fun s7 wx => ∃ b7, s7 = .pointer (some ⟨b7, 0, none⟩) ∧ Held w wx B N sb cm em k (kt + 1) (.slice (some ⟨g, 0, none⟩) (kt + 1) cap) st a ∧ wx.heap[M]? = some (.cells #[.pointer xl, .pointer xh, .pointer xe, .bool c.nul, .bool true] 48) ∧ ColAt wx pl ph pe c ∧ wx.heap[b7]? = some (.cells #[.int .i64 a.col, .string (keyS a.n)] 50))
          case first => as_aux_lemma =>
            go_region_held3 (fun w' => w'.cell? ⟨N + 1, 0, none⟩ = some (.int .i64 a.col) ∧ w'.cell? ⟨N + 1, 2, none⟩ = some (.int .u8 a.ty) ∧ w'.cell? ⟨N + 1, 3, none⟩ = some (.bool false) ∧ w'.cell? ⟨N + 1, 4, none⟩ = some (.int .i64 a.n) ∧ w'.cell? ⟨N + 1, 5, none⟩ = some (.string a.str)) (go_keep)
              (first
                | (go_at_call 13; with_reducible refine K1.mono ?_; rintro e w1 ⟨rfl, b1'⟩; have H4 := H3.grow b1'; have hCA4 := (b1'.block M (lt_of_blk hCA3)).trans hCA3; have hCC4 := hCC3.mov (.below b1'); obtain ⟨e30, -, e32, e33, e34, e35⟩ := cells6 H4.fr.h3; rw [hnul] at e33)
                | (go_at_call 13; with_reducible refine K2.mono ?_; rintro e w1 ⟨rfl, b1', hz⟩; have H4 := H3.grow b1'; have hCA4 := (b1'.block M (lt_of_blk hCA3)).trans hCA3; have hCC4 := hCC3.mov (.below b1'); obtain ⟨e30, -, e32, e33, e34, e35⟩ := cells6 H4.fr.h3; rw [hnul] at e33; obtain ⟨z0, z1⟩ := cells2 hz; have zf := Lib.frozen_of_heap hz)
                | (go_at_call 13; with_reducible refine K3.mono ?_; rintro e w1 ⟨rfl, b1', hz⟩; have H4 := H3.grow b1'; have hCA4 := (b1'.block M (lt_of_blk hCA3)).trans hCA3; have hCC4 := hCC3.mov (.below b1'); obtain ⟨e30, -, e32, e33, e34, e35⟩ := cells6 H4.fr.h3; rw [hnul] at e33; obtain ⟨z0, z1⟩ := cells2 hz; have zf := Lib.frozen_of_heap hz))
            all_goals
              go_wp2_with fail
              go_meet
              first
                | exact ⟨_, rfl, H4.grow (new_below w1 _), ((new_below w1 _).block M (lt_of_blk hCA4)).trans hCA4, hCC4.mov (.below (new_below w1 _)), Deep.blk_alloc_new _ _⟩
                | (have hl := H4.lay50 (x' := .int .i64 a.col) (y' := .string (keyS a.n)) hz (by have := H3.size; omega) hCA4
                   exact ⟨_, rfl, hl.1, hl.2.1, hCC4.mov hl.2.2.1, hl.2.2.2⟩)
          case rest =>
          obtain ⟨b7, rfl, H4, hCA4, hCC4, h7⟩ := hcut
          clear K1 K2 K3 zN zN1 zN2 zN3 zN4 d30 d31 d32 d33 d34 d35 hCA3 hCC3 H3
          obtain ⟨U4, hU4⟩ : ∃ U, U = wc := ⟨_, rfl⟩
          rw [← hU4] at H4 hCA4 hCC4 h7 ⊢
          clear hU4
          have b45 : Below U4.heap.size U4 U4.drew := (Below.refl _ _).drew
          obtain ⟨U5, hU5⟩ : ∃ U, U = U4.drew := ⟨_, rfl⟩
          rw [← hU5] at b45
          have H5 := H4.grow b45
          have hCA5 := (b45.block M (lt_of_blk hCA4)).trans hCA4
          have hCC5 := hCC4.mov (.below b45)
          have h75 := (b45.block b7 (lt_of_blk h7)).trans h7
          obtain ⟨p0, p1⟩ := cells2 h7
          have d2 := cells1 H4.fr.h2
          obtain ⟨-, -, ds2, -⟩ := cells4 H4.fr.hs
          have hL := H5.sea.ex.lookup hc hI
          rw [exV] at hL
          obtain ⟨x, hx⟩ : ∃ x, Hid (x = st.ex a.col a.n) := ⟨_, hide rfl⟩
          rw [← unhide hx, hU5] at hL
          go_upto_region 14 with fail
          cases x with
          | true => as_aux_lemma =>
            go_region_held3 (fun w' => w'.cell? ⟨N, 0, none⟩ = some (.pointer (some ⟨sb, 0, none⟩)) ∧ w'.cell? ⟨sb, 2, none⟩ = some (.map (some em)) ∧ w'.cell? ⟨b7, 0, none⟩ = some (.int .i64 a.col) ∧ w'.cell? ⟨b7, 1, none⟩ = some (.string (keyS a.n))) (go_keep) (fail)
            go_wp2
            go_meet
            rw [← hU5]
            exact Out.ofEx (c' := { c with nn := true }) (unhide hcc) (by simp [stepCol, hop, hnul]) (H5.old (unhide hx).symm) hxl hxh hxe hCA5 ⟨hCC5.lo, hCC5.hi, hCC5.eq, hCC5.fit⟩
          | false => as_aux_lemma =>
            go_region_held3 (fun w' => w'.cell? ⟨N, 0, none⟩ = some (.pointer (some ⟨sb, 0, none⟩)) ∧ w'.cell? ⟨sb, 2, none⟩ = some (.map (some em)) ∧ w'.cell? ⟨b7, 0, none⟩ = some (.int .i64 a.col) ∧ w'.cell? ⟨b7, 1, none⟩ = some (.string (keyS a.n))) (go_keep) (fail)
            go_upto_region 15 with fail
            rw [← hU5]
            clear hL d2 ds2 p0 p1 hU5 H4 hCA4 hCC4 h7
            have b56 : Below U5.heap.size U5 U5.drew := (Below.refl _ _).drew
            obtain ⟨U6, hrun, H6, mv6, o6⟩ := (H5.grow b56).exclS (by simp [isNe, hop, hnul]) hc hI (by omega)
            have mv56 := (Mov.below b56).trans mv6
            have hCA6 := o6 _ _ _ ((b56.block M (lt_of_blk hCA5)).trans hCA5)
            have hCC6 := hCC5.mov mv56
            have h76 := o6 _ _ _ ((b56.block b7 (lt_of_blk h75)).trans h75)
            obtain ⟨p0, p1⟩ := cells2 h75
            have d2 := cells1 H5.fr.h2
            obtain ⟨-, -, ds2, -⟩ := cells4 H5.fr.hs
            obtain ⟨q0, q1⟩ := cells2 h76
            have e2 := cells1 H6.fr.h2
            obtain ⟨-, -, es2, es3⟩ := cells4 H6.fr.hs
            go_region_held3 (fun w' => w'.cell? ⟨N, 0, none⟩ = some (.pointer (some ⟨sb, 0, none⟩)) ∧ w'.cell? ⟨sb, 2, none⟩ = some (.map (some em)) ∧ w'.cell? ⟨b7, 0, none⟩ = some (.int .i64 a.col) ∧ w'.cell? ⟨b7, 1, none⟩ = some (.string (keyS a.n))) (go_keep) (fail)
            go_upto_region 16 with fail
            obtain ⟨l1, l2, ⟨y6, l6⟩, ⟨y7, l7⟩, ⟨y8, l8⟩, lf⟩ := H6.last
            have hw2 : IntKind.i64.wrap (kt : Int) = kt := by rw [IntKind.wrap_i64]; omega
            have hb0 : (0 : Int) ≤ kt := by omega
            have hb1 : (kt : Int) < kt + 1 := by omega
            have hb2 : ¬ (kt : Int) < 0 := by omega
            have hb3 : ¬ ((kt : Int) + 1 ≤ kt) := by omega
            clear hrun d2 ds2 p0 p1 H5 hCA5 hCC5 h75 b56 mv6 o6 mv56
            go_region_held3 (fun w' => w'.cell? ⟨N, 0, none⟩ = some (.pointer (some ⟨sb, 0, none⟩)) ∧ w'.cell? ⟨sb, 3, none⟩ = some (.slice (some ⟨g, 0, none⟩) (kt + 1) cap)) (go_keep) (fail)
            go_wp2
            go_meet
            obtain ⟨H7, hCA7, mv7⟩ := H6.trail3 (i := kt * 9 + 6) (j := kt * 9 + 6 + 1) (l := kt * 9 + 8) (x := .int .i64 a.col) (y := .string (keyS a.n)) (z := .bool true) hCA6
            have b7' : Below _ _ (((U6.setCell ⟨g, kt * 9 + 6, none⟩ (.int .i64 a.col)).setCell ⟨g, kt * 9 + 6 + 1, none⟩ (.string (keyS a.n))).setCell ⟨g, kt * 9 + 8, none⟩ (.bool true)).drew := (Below.refl (((U6.setCell ⟨g, kt * 9 + 6, none⟩ (.int .i64 a.col)).setCell ⟨g, kt * 9 + 6 + 1, none⟩ (.string (keyS a.n))).setCell ⟨g, kt * 9 + 8, none⟩ (.bool true)).heap.size _).drew
            exact Out.ofEx (c' := { c with nn := true }) (unhide hcc) (by simp [stepCol, hop, hnul]) (H7.grow b7') hxl hxh hxe hCA7 ⟨(hCC6.mov mv7).lo, (hCC6.mov mv7).hi, (hCC6.mov mv7).eq, hCC6.fit⟩
        · as_aux_lemma =>
          go_upto_region 20 with fail
          obtain ⟨U3, hU3⟩ : ∃ U, U = U2.setCell ⟨M, 4, none⟩ (.bool true) := ⟨_, rfl⟩
          have H3 := H2.set (j := 4) (v := .bool true) hCA2 rfl hMB
          have hCA3 := CAt.set hCA2 4 (.bool true)
          have hCC3 := hCC2.mov ((Mov.refl _).setCell (j := 4) (v := .bool true) hCA2 (by decide) (by decide))
          rw [← hU3] at H3 hCA3 hCC3 ⊢
          clear hU3 d31 d32 d33 d34 d35 m0 m1 m2 m3 m4 fM hCA2 hCC2 H2
          replace hCA3 : U3.heap[M]? = some (.cells #[.pointer xl, .pointer xh, .pointer xe, .bool c.nul, .bool true] 48) := hCA3
          obtain ⟨d30, d31, d32, d33, d34, d35⟩ := cells6 H3.fr.h3
          rw [hnul] at d33
          rw [hop] at d31
          obtain ⟨m0, m1, m2, m3, m4⟩ := cells5 hCA3
          have fM := Lib.frozen_of_heap hCA3
          have CW := fun w' => closed_walk a.col 4 a.ty a.n a.str w' (by decide) hty hn0 hn1
          have TW := fun (w' : World) (ty' : Int) (ht' : ty' = 2 ∨ ty' = 3) (hp : OptBound w' ph c.hi) => tighter_walk ph c.hi ty' (closedAt 4 a.n) a.str (-1) w' ht' (.inr rfl) hp
          simp only [hxh] at TW
          go_region_with (first
            | (go_at_call 15; refine (CW _).mono ?_; rintro e w1 ⟨⟨ty', ht', rfl⟩, b1⟩; have b1' : Below U3.heap.size U3 w1 := below_of (by first | exact Below.refl _ _ | exact (Below.refl _ _).drew) b1; have H4 := H3.grow b1'; have hCA4 := (b1'.block M (lt_of_blk hCA3)).trans hCA3; have hb4 := hCC3.hi.mov (.below b1'); have e1 := (cells5 hCA4).2.1)
            | (go_at_call 14; refine (TW _ ty' ht' hb4).mono ?_; rintro e w2 ⟨q, rfl, hq, b2⟩; have b2' : Below w1.heap.size w1 w2 := b2; have H5 := H4.grow b2'; have hCA5 := (b2'.block M (lt_of_blk hCA4)).trans hCA4; have e2 := (cells5 hCA5).2.1; have e3 := Lib.frozen_of_heap hCA5))
          all_goals
            go_wp2_with fail
            go_meet
            have mv := ((Mov.below b1').call b2').setCell (j := 1) (v := .pointer (some ⟨q, 0, none⟩)) hCA5 (by decide) (by decide)
            exact Out.of (c' := { c with nn := true, hi := some (tightF (-1) (closedAt 4 a.n) c.hi) }) (ph := some q) (unhide hcc) (by simp [stepCol, hop, hnul]) (H5.set hCA5 rfl hMB) (by simp [isNe, hop]) hxl rfl hxe (CAt.set hCA5 1 _) (hCC3.lo.mov mv) (hq.mov ((Mov.refl _).setCell hCA5 (by decide) (by decide))) (hCC3.eq.mov mv) ⟨hCC3.fit.1, fun n h => by injection h with h; rw [← h]; exact tightF_fit (closedAt_fit hn0 hn1) hCC3.fit.2.1, hCC3.fit.2.2⟩
        · as_aux_lemma =>
          go_upto_region 20 with fail
          obtain ⟨U3, hU3⟩ : ∃ U, U = U2.setCell ⟨M, 4, none⟩ (.bool true) := ⟨_, rfl⟩
          have H3 := H2.set (j := 4) (v := .bool true) hCA2 rfl hMB
          have hCA3 := CAt.set hCA2 4 (.bool true)
          have hCC3 := hCC2.mov ((Mov.refl _).setCell (j := 4) (v := .bool true) hCA2 (by decide) (by decide))
          rw [← hU3] at H3 hCA3 hCC3 ⊢
          clear hU3 d31 d32 d33 d34 d35 m0 m1 m2 m3 m4 fM hCA2 hCC2 H2
          replace hCA3 : U3.heap[M]? = some (.cells #[.pointer xl, .pointer xh, .pointer xe, .bool c.nul, .bool true] 48) := hCA3
          obtain ⟨d30, d31, d32, d33, d34, d35⟩ := cells6 H3.fr.h3
          rw [hnul] at d33
          rw [hop] at d31
          obtain ⟨m0, m1, m2, m3, m4⟩ := cells5 hCA3
          have fM := Lib.frozen_of_heap hCA3
          have CW := fun w' => closed_walk a.col 5 a.ty a.n a.str w' (by decide) hty hn0 hn1
          have TW := fun (w' : World) (ty' : Int) (ht' : ty' = 2 ∨ ty' = 3) (hp : OptBound w' ph c.hi) => tighter_walk ph c.hi ty' (closedAt 5 a.n) a.str (-1) w' ht' (.inr rfl) hp
          simp only [hxh] at TW
          go_region_with (first
            | (go_at_call 15; refine (CW _).mono ?_; rintro e w1 ⟨⟨ty', ht', rfl⟩, b1⟩; have b1' : Below U3.heap.size U3 w1 := below_of (by first | exact Below.refl _ _ | exact (Below.refl _ _).drew) b1; have H4 := H3.grow b1'; have hCA4 := (b1'.block M (lt_of_blk hCA3)).trans hCA3; have hb4 := hCC3.hi.mov (.below b1'); have e1 := (cells5 hCA4).2.1)
            | (go_at_call 14; refine (TW _ ty' ht' hb4).mono ?_; rintro e w2 ⟨q, rfl, hq, b2⟩; have b2' : Below w1.heap.size w1 w2 := b2; have H5 := H4.grow b2'; have hCA5 := (b2'.block M (lt_of_blk hCA4)).trans hCA4; have e2 := (cells5 hCA5).2.1; have e3 := Lib.frozen_of_heap hCA5))
          all_goals
            go_wp2_with fail
            go_meet
            have mv := ((Mov.below b1').call b2').setCell (j := 1) (v := .pointer (some ⟨q, 0, none⟩)) hCA5 (by decide) (by decide)
            exact Out.of (c' := { c with nn := true, hi := some (tightF (-1) (closedAt 5 a.n) c.hi) }) (ph := some q) (unhide hcc) (by simp [stepCol, hop, hnul]) (H5.set hCA5 rfl hMB) (by simp [isNe, hop]) hxl rfl hxe (CAt.set hCA5 1 _) (hCC3.lo.mov mv) (hq.mov ((Mov.refl _).setCell hCA5 (by decide) (by decide))) (hCC3.eq.mov mv) ⟨hCC3.fit.1, fun n h => by injection h with h; rw [← h]; exact tightF_fit (closedAt_fit hn0 hn1) hCC3.fit.2.1, hCC3.fit.2.2⟩
        · as_aux_lemma =>
          go_upto_region 5 with fail
          obtain ⟨U3, hU3⟩ : ∃ U, U = U2.setCell ⟨M, 4, none⟩ (.bool true) := ⟨_, rfl⟩
          have H3 := H2.set (j := 4) (v := .bool true) hCA2 rfl hMB
          have hCA3 := CAt.set hCA2 4 (.bool true)
          have hCC3 := hCC2.mov ((Mov.refl _).setCell (j := 4) (v := .bool true) hCA2 (by decide) (by decide))
          rw [← hU3] at H3 hCA3 hCC3 ⊢
          clear hU3 d31 d32 d33 d34 d35 m0 m1 m2 m3 m4 fM hCA2 hCC2 H2
          replace hCA3 : U3.heap[M]? = some (.cells #[.pointer xl, .pointer xh, .pointer xe, .bool c.nul, .bool true] 48) := hCA3
          obtain ⟨d30, d31, d32, d33, d34, d35⟩ := cells6 H3.fr.h3
          rw [hnul] at d33
          rw [hop] at d31
          obtain ⟨m0, m1, m2, m3, m4⟩ := cells5 hCA3
          have fM := Lib.frozen_of_heap hCA3
          have CW := fun w' => closed_walk a.col 6 a.ty a.n a.str w' (by decide) hty hn0 hn1
          have TW := fun (w' : World) (ty' : Int) (ht' : ty' = 2 ∨ ty' = 3) (hp : OptBound w' pl c.lo) => tighter_walk pl c.lo ty' (closedAt 6 a.n) a.str (1) w' ht' (.inl rfl) hp
          simp only [hxl] at TW
          go_region_with (first
            | (go_at_call 15; refine (CW _).mono ?_; rintro e w1 ⟨⟨ty', ht', rfl⟩, b1⟩; have b1' : Below U3.heap.size U3 w1 := below_of (by first | exact Below.refl _ _ | exact (Below.refl _ _).drew) b1; have H4 := H3.grow b1'; have hCA4 := (b1'.block M (lt_of_blk hCA3)).trans hCA3; have hb4 := hCC3.lo.mov (.below b1'); have e1 := (cells5 hCA4).1)
            | (go_at_call 14; refine (TW _ ty' ht' hb4).mono ?_; rintro e w2 ⟨q, rfl, hq, b2⟩; have b2' : Below w1.heap.size w1 w2 := b2; have H5 := H4.grow b2'; have hCA5 := (b2'.block M (lt_of_blk hCA4)).trans hCA4; have e2 := (cells5 hCA5).1; have e3 := Lib.frozen_of_heap hCA5))
          all_goals
            go_wp2_with fail
            go_meet
            have mv := ((Mov.below b1').call b2').setCell (j := 0) (v := .pointer (some ⟨q, 0, none⟩)) hCA5 (by decide) (by decide)
            exact Out.of (c' := { c with nn := true, lo := some (tightF 1 (closedAt 6 a.n) c.lo) }) (pl := some q) (unhide hcc) (by simp [stepCol, hop, hnul]) (H5.set hCA5 rfl hMB) (by simp [isNe, hop]) rfl hxh hxe (CAt.set hCA5 0 _) (hq.mov ((Mov.refl _).setCell hCA5 (by decide) (by decide))) (hCC3.hi.mov mv) (hCC3.eq.mov mv) ⟨fun n h => by injection h with h; rw [← h]; exact tightF_fit (closedAt_fit hn0 hn1) hCC3.fit.1, hCC3.fit.2.1, hCC3.fit.2.2⟩
        · as_aux_lemma =>
          go_upto_region 5 with fail
          obtain ⟨U3, hU3⟩ : ∃ U, U = U2.setCell ⟨M, 4, none⟩ (.bool true) := ⟨_, rfl⟩
          have H3 := H2.set (j := 4) (v := .bool true) hCA2 rfl hMB
          have hCA3 := CAt.set hCA2 4 (.bool true)
          have hCC3 := hCC2.mov ((Mov.refl _).setCell (j := 4) (v := .bool true) hCA2 (by decide) (by decide))
          rw [← hU3] at H3 hCA3 hCC3 ⊢
          clear hU3 d31 d32 d33 d34 d35 m0 m1 m2 m3 m4 fM hCA2 hCC2 H2
          replace hCA3 : U3.heap[M]? = some (.cells #[.pointer xl, .pointer xh, .pointer xe, .bool c.nul, .bool true] 48) := hCA3
          obtain ⟨d30, d31, d32, d33, d34, d35⟩ := cells6 H3.fr.h3
          rw [hnul] at d33
          rw [hop] at d31
          obtain ⟨m0, m1, m2, m3, m4⟩ := cells5 hCA3
          have fM := Lib.frozen_of_heap hCA3
          have CW := fun w' => closed_walk a.col 7 a.ty a.n a.str w' (by decide) hty hn0 hn1
          have TW := fun (w' : World) (ty' : Int) (ht' : ty' = 2 ∨ ty' = 3) (hp : OptBound w' pl c.lo) => tighter_walk pl c.lo ty' (closedAt 7 a.n) a.str (1) w' ht' (.inl rfl) hp
          simp only [hxl] at TW
          go_region_with (first
            | (go_at_call 15; refine (CW _).mono ?_; rintro e w1 ⟨⟨ty', ht', rfl⟩, b1⟩; have b1' : Below U3.heap.size U3 w1 := below_of (by first | exact Below.refl _ _ | exact (Below.refl _ _).drew) b1; have H4 := H3.grow b1'; have hCA4 := (b1'.block M (lt_of_blk hCA3)).trans hCA3; have hb4 := hCC3.lo.mov (.below b1'); have e1 := (cells5 hCA4).1)
            | (go_at_call 14; refine (TW _ ty' ht' hb4).mono ?_; rintro e w2 ⟨q, rfl, hq, b2⟩; have b2' : Below w1.heap.size w1 w2 := b2; have H5 := H4.grow b2'; have hCA5 := (b2'.block M (lt_of_blk hCA4)).trans hCA4; have e2 := (cells5 hCA5).1; have e3 := Lib.frozen_of_heap hCA5))
          all_goals
            go_wp2_with fail
            go_meet
            have mv := ((Mov.below b1').call b2').setCell (j := 0) (v := .pointer (some ⟨q, 0, none⟩)) hCA5 (by decide) (by decide)
            exact Out.of (c' := { c with nn := true, lo := some (tightF 1 (closedAt 7 a.n) c.lo) }) (pl := some q) (unhide hcc) (by simp [stepCol, hop, hnul]) (H5.set hCA5 rfl hMB) (by simp [isNe, hop]) rfl hxh hxe (CAt.set hCA5 0 _) (hq.mov ((Mov.refl _).setCell hCA5 (by decide) (by decide))) (hCC3.hi.mov mv) (hCC3.eq.mov mv) ⟨fun n h => by injection h with h; rw [← h]; exact tightF_fit (closedAt_fit hn0 hn1) hCC3.fit.1, hCC3.fit.2.1, hCC3.fit.2.2⟩
  case rest =>
  obtain ⟨c', pl', ph', pe', hs', H3, hCA3, hCC3⟩ := hcut
  clear hCA2 hCC2 H2 hcc hxl hxh hxe
  obtain ⟨U3, hU3⟩ : ∃ U, U = wc := ⟨_, rfl⟩
  rw [← hU3] at H3 hCA3 hCC3 ⊢
  clear hU3
  obtain ⟨yl, hyl⟩ : ∃ x, ptrOf pl' = .pointer x := ⟨_, rfl⟩
  obtain ⟨yh, hyh⟩ : ∃ x, ptrOf ph' = .pointer x := ⟨_, rfl⟩
  obtain ⟨ye, hye⟩ : ∃ x, ptrOf pe' = .pointer x := ⟨_, rfl⟩
  rw [CAt, hyl, hyh, hye] at hCA3
  have b34 : Below U3.heap.size U3 U3.drew := (Below.refl _ _).drew
  obtain ⟨U4, hrun, H4, mv4, o4⟩ := (H3.grow b34).cols hc (by omega) (hCC3.mov (.below b34))
  simp only [colV, hyl, hyh, hye] at hrun
  have hCC4 := (hCC3.mov (.below b34)).mov mv4
  have hCA4 := o4 _ _ _ ((b34.block M (lt_of_blk hCA3)).trans hCA3)
  have hnext : (⟨fun j => if j = a.col then c' else st.cols j, stepEx st.ex a⟩ : Sea) = next st a := by simp [next, hs']
  rw [hnext] at H4
  have hmB : meetB st a = answer c' (stepEx st.ex a a.col) := by simp [meetB, hs']
  have FIN : ∀ (r : Bool) (X : World), answer c' (stepEx st.ex a a.col) = r → Below U4.heap.size U4 X → MeetPost w B sb cm em k kt st a (.returned (.bool r)) X := fun r X hr hX => ⟨by rw [hmB, hr], (H4.grow hX).below, fun _ => ⟨_, (H4.grow hX).sea, (H4.grow hX).fr.hs, (H4.grow hX).trail⟩⟩
  obtain ⟨d2, ⟨d30, -⟩, ⟨-, ds1, -⟩⟩ := And.intro (cells1 H3.fr.h2) (And.intro (cells6 H3.fr.h3) (cells4 H3.fr.hs))
  obtain ⟨m0, m1, m2, m3, m4⟩ := cells5 hCA3
  obtain ⟨e2, ⟨e30, -⟩, ⟨-, es1, -⟩⟩ := And.intro (cells1 H4.fr.h2) (And.intro (cells6 H4.fr.h3) (cells4 H4.fr.hs))
  obtain ⟨n0, n1, n2, n3, n4⟩ := cells5 hCA4
  clear b34 mv4 o4 hnext hmB hs'
  obtain ⟨x, hx⟩ : ∃ x, Hid (x = c'.nul) := ⟨_, hide rfl⟩
  rw [← unhide hx] at m3 n3 hrun
  go_upto_region 27 with fail
  go_region_held3 (fun w' => (w'.cell? ⟨N, 0, none⟩ = some (.pointer (some ⟨sb, 0, none⟩)) ∧ w'.cell? ⟨sb, 1, none⟩ = some (.map (some cm)) ∧ w'.cell? ⟨N + 1, 0, none⟩ = some (.int .i64 a.col)) ∧ w'.cell? ⟨M, 0, none⟩ = some (.pointer yl) ∧ w'.cell? ⟨M, 1, none⟩ = some (.pointer yh) ∧ w'.cell? ⟨M, 2, none⟩ = some (.pointer ye) ∧ w'.cell? ⟨M, 3, none⟩ = some (.bool x) ∧ w'.cell? ⟨M, 4, none⟩ = some (.bool c'.nn)) (go_keep) (fail)
  clear hrun d2 d30 ds1 m0 m1 m2 m3 m4 hCA3 hCC3 H3
  have hmf : ∀ (fn : Fn) (first cap : Array Value) (w : World), (Instr.makeFunc fn first cap).run Tryd.prog w = .ok (.func fn first cap) w := fun _ _ _ _ => rfl
  cases x with
  | true => as_aux_lemma =>
    go_wp2
    go_ret
    exact FIN _ _ (by simp [answer, ← unhide hx]) (Below.refl _ _)
  | false =>
    obtain ⟨q, hq⟩ : ∃ q, Hid (q = c'.eq) := ⟨_, hide rfl⟩
    have heq := hCC4.eq
    rw [← unhide hq] at heq
    match pe', q, heq with
    | some b, some m, hnum =>
      obtain rfl : some ⟨b, 0, none⟩ = ye := by simpa [ptrOf] using hye
      obtain ⟨ty', s', ht', hb⟩ := hnum
      obtain ⟨q0, q1, q2, q3⟩ := cells4 hb
      have hIm : I64 m := hCC4.fit.2.2 m (unhide hq).symm
      obtain ⟨r1, hr1⟩ : ∃ r, Hid (r = inB 1 m c'.lo) := ⟨_, hide rfl⟩
      obtain ⟨r2, hr2⟩ : ∃ r, Hid (r = inB (-1) m c'.hi) := ⟨_, hide rfl⟩
      obtain ⟨r3, hr3⟩ : ∃ r, Hid (r = stepEx st.ex a a.col m) := ⟨_, hide rfl⟩
      have M1 := fun (w' : World) (hb' : Below U4.heap.size U4 w') => meets_walk ty' m s' pl' c'.lo 1 w' ht' (.inl rfl) (hCC4.lo.mov (.below hb'))
      have M2 := fun (w' : World) (hb' : Below U4.heap.size U4 w') => meets_walk ty' m s' ph' c'.hi (-1) w' ht' (.inr rfl) (hCC4.hi.mov (.below hb'))
      have E := fun (w' : World) (hb' : Below U4.heap.size U4 w') => excl_walk B N sb cm em (k + 1 + 1) _ (stepEx st.ex a) a ty' m s' w' (H4.grow hb').fr (H4.grow hb').sea.ex ht' hIm hc (Nat.le_trans H4.size hb'.size) (H4.tab.below (hb'.mono H4.size))
      simp only [hyl, ← unhide hr1] at M1
      simp only [hyh, ← unhide hr2] at M2
      simp only [← unhide hr3] at E
      have bd : Below U4.heap.size U4 U4.drew := (Below.refl _ _).drew
      have hans : answer c' (stepEx st.ex a a.col) = (r1 && r2 && !r3) := by simp [answer, ← unhide hx, ← unhide hq, unhide hr1, unhide hr2, unhide hr3]
      replace FIN := fun (r : Bool) (X : World) (h : (r1 && r2 && !r3) = r) => FIN r X (hans.trans h)
      have ZM := lt_of_blk hCA4
      have Zb := lt_of_blk hb
      clear hans hr1 hr2 hr3 hb hq hx hyl hyh
      go_upto_region 32 with fail
      have HS : Hid (∀ X : World, Below U4.heap.size U4 X → (fun w' => (w'.cell? ⟨M, 0, none⟩ = some (.pointer yl) ∧ w'.cell? ⟨M, 1, none⟩ = some (.pointer yh) ∧ w'.cell? ⟨M, 2, none⟩ = some (.pointer (some ⟨b, 0, none⟩))) ∧ w'.cell? ⟨b, 0, none⟩ = some (.int .u8 ty') ∧ w'.cell? ⟨b, 1, none⟩ = some (.bool false) ∧ w'.cell? ⟨b, 2, none⟩ = some (.int .i64 m) ∧ w'.cell? ⟨b, 3, none⟩ = some (.string s')) X) := fun X hX => ⟨⟨(hX.cell (p := ⟨M, 0, none⟩) ZM).trans n0, (hX.cell (p := ⟨M, 1, none⟩) ZM).trans n1, (hX.cell (p := ⟨M, 2, none⟩) ZM).trans n2⟩, (hX.cell (p := ⟨b, 0, none⟩) Zb).trans q0, (hX.cell (p := ⟨b, 1, none⟩) Zb).trans q1, (hX.cell (p := ⟨b, 2, none⟩) Zb).trans q2, (hX.cell (p := ⟨b, 3, none⟩) Zb).trans q3⟩
      cases r1 with
      | false => as_aux_lemma =>
        refine wp_region_noPanic ?_
        refine wp_region_held_drew (S := (fun w' => (w'.cell? ⟨M, 0, none⟩ = some (.pointer yl) ∧ w'.cell? ⟨M, 1, none⟩ = some (.pointer yh) ∧ w'.cell? ⟨M, 2, none⟩ = some (.pointer (some ⟨b, 0, none⟩))) ∧ w'.cell? ⟨b, 0, none⟩ = some (.int .u8 ty') ∧ w'.cell? ⟨b, 1, none⟩ = some (.bool false) ∧ w'.cell? ⟨b, 2, none⟩ = some (.int .i64 m) ∧ w'.cell? ⟨b, 3, none⟩ = some (.string s'))) (by kernel_rfl) (unhide HS _ bd) (fun hHeld => ?_)
        refine wpAnyH_take (i := 0) (oi := Oper.mk (some 141) _ _ _ _ _) (v := ?_) rfl (by kernel_rfl) (by kernel_rfl) (by kernel_rfl) (fun _ _ _ h => h) (Or.inl ⟨by kernel_rfl, ?_⟩) (by assumption) ?_
        rotate_left
        focus ((intro w hSw; (try dsimp only at hSw); go_simp) <;> with_reducible rfl)
        try simp only [Act.put, List.setIfInBounds_toArray, List.set_cons_zero, List.set_cons_succ]
        refine wpAnyH_take (i := 1) (oi := Oper.mk (some 142) _ _ _ _ _) (v := ?_) rfl (by kernel_rfl) (by kernel_rfl) (by kernel_rfl) (fun _ _ _ h => h) (Or.inl ⟨by kernel_rfl, ?_⟩) (by assumption) ?_
        rotate_left
        focus ((intro w hSw; (try dsimp only at hSw); go_simp) <;> with_reducible rfl)
        try simp only [Act.put, List.setIfInBounds_toArray, List.set_cons_zero, List.set_cons_succ]
        refine wpAnyH_take (i := 2) (oi := Oper.mk (some 143) _ _ _ _ _) (v := ?_) rfl (by kernel_rfl) (by kernel_rfl) (by kernel_rfl) (fun _ _ _ h => h) (Or.inl ⟨by kernel_rfl, ?_⟩) (by assumption) ?_
        rotate_left
        focus ((intro w hSw; (try dsimp only at hSw); go_simp) <;> with_reducible rfl)
        try simp only [Act.put, List.setIfInBounds_toArray, List.set_cons_zero, List.set_cons_succ]
        refine wpAnyH_take (i := 3) (oi := Oper.mk (some 144) _ _ _ _ _) (v := ?_) rfl (by kernel_rfl) (by kernel_rfl) (by kernel_rfl) (fun _ _ _ h => h) (Or.inl ⟨by kernel_rfl, ?_⟩) (by assumption) ?_
        rotate_left
        focus ((intro w hSw; (try dsimp only at hSw); go_simp) <;> with_reducible rfl)
        try simp only [Act.put, List.setIfInBounds_toArray, List.set_cons_zero, List.set_cons_succ]
        refine wpAnyH_take (i := 4) (oi := Oper.mk (some 145) _ _ _ _ _) (v := ?_) rfl (by kernel_rfl) (by kernel_rfl) (by kernel_rfl) (fun _ _ _ h => h) (Or.inl ⟨by kernel_rfl, ?_⟩) (by assumption) ?_
        rotate_left
        focus ((intro w hSw; (try dsimp only at hSw); go_simp) <;> with_reducible rfl)
        try simp only [Act.put, List.setIfInBounds_toArray, List.set_cons_zero, List.set_cons_succ]
        refine wpAnyH_take (i := 5) (oi := Oper.mk (some 146) _ _ _ _ _) (v := ?_) rfl (by kernel_rfl) (by kernel_rfl) (by kernel_rfl) (fun _ _ _ h => h) (Or.inl ⟨by kernel_rfl, ?_⟩) (by assumption) ?_
        rotate_left
        focus ((intro w hSw; (try dsimp only at hSw); go_simp) <;> with_reducible rfl)
        try simp only [Act.put, List.setIfInBounds_toArray, List.set_cons_zero, List.set_cons_succ]
        refine wpAnyH_ready (rs := [6]) (by kernel_rfl) (by simp) ?_
        refine AllReadyH.cons rfl (fun K hK => ?_) AllReadyH.nil
        go_simp
        go_at_call 17
        refine (M1 U4.drew bd).mono ?_
        rintro e w1 ⟨rfl, b10⟩
        have b1 : Below U4.heap.size U4 w1 := bd.trans (b10.mono bd.size)
        go_wp2_with fail
        refine hK.out _ _ (unhide HS _ b1) (fun hHeld => ?_)
        clear hK K
        try simp only [Act.put, List.setIfInBounds_toArray, List.set_cons_zero, List.set_cons_succ]
        refine wpAnyH_take (i := 7) (oi := Oper.mk (some 148) _ _ _ _ _) (v := ?_) rfl (by kernel_rfl) (by kernel_rfl) (by kernel_rfl) (fun _ _ _ h => h) (Or.inl ⟨by kernel_rfl, ?_⟩) (by assumption) ?_
        rotate_left
        focus ((intro w hSw; (try dsimp only at hSw); go_simp) <;> with_reducible rfl)
        try simp only [Act.put, List.setIfInBounds_toArray, List.set_cons_zero, List.set_cons_succ]
        refine wpAnyH_take (i := 8) (oi := Oper.mk (some 149) _ _ _ _ _) (v := undef) rfl (by kernel_rfl) (by kernel_rfl) (by kernel_rfl) (fun _ _ _ h => h) (Or.inr ⟨by kernel_rfl, rfl⟩) (by assumption) ?_
        try simp only [Act.put, List.setIfInBounds_toArray, List.set_cons_zero, List.set_cons_succ]
        refine wpAnyH_take (i := 9) (oi := Oper.mk (some 150) _ _ _ _ _) (v := undef) rfl (by kernel_rfl) (by kernel_rfl) (by kernel_rfl) (fun _ _ _ h => h) (Or.inr ⟨by kernel_rfl, rfl⟩) (by assumption) ?_
        try simp only [Act.put, List.setIfInBounds_toArray, List.set_cons_zero, List.set_cons_succ]
        refine wpAnyH_take (i := 10) (oi := Oper.mk (some 151) _ _ _ _ _) (v := undef) rfl (by kernel_rfl) (by kernel_rfl) (by kernel_rfl) (fun _ _ _ h => h) (Or.inr ⟨by kernel_rfl, rfl⟩) (by assumption) ?_
        try simp only [Act.put, List.setIfInBounds_toArray, List.set_cons_zero, List.set_cons_succ]
        refine wpAnyH_take (i := 11) (oi := Oper.mk (some 152) _ _ _ _ _) (v := undef) rfl (by kernel_rfl) (by kernel_rfl) (by kernel_rfl) (fun _ _ _ h => h) (Or.inr ⟨by kernel_rfl, rfl⟩) (by assumption) ?_
        try simp only [Act.put, List.setIfInBounds_toArray, List.set_cons_zero, List.set_cons_succ]
        refine wpAnyH_take (i := 12) (oi := Oper.mk (some 153) _ _ _ _ _) (v := undef) rfl (by kernel_rfl) (by kernel_rfl) (by kernel_rfl) (fun _ _ _ h => h) (Or.inr ⟨by kernel_rfl, rfl⟩) (by assumption) ?_
        try simp only [Act.put, List.setIfInBounds_toArray, List.set_cons_zero, List.set_cons_succ]
        refine wpAnyH_take (i := 13) (oi := Oper.mk (some 154) _ _ _ _ _) (v := undef) rfl (by kernel_rfl) (by kernel_rfl) (by kernel_rfl) (fun _ _ _ h => h) (Or.inr ⟨by kernel_rfl, rfl⟩) (by assumption) ?_
        try simp only [Act.put, List.setIfInBounds_toArray, List.set_cons_zero, List.set_cons_succ]
        refine wpAnyH_take (i := 14) (oi := Oper.mk (some 155) _ _ _ _ _) (v := undef) rfl (by kernel_rfl) (by kernel_rfl) (by kernel_rfl) (fun _ _ _ h => h) (Or.inr ⟨by kernel_rfl, rfl⟩) (by assumption) ?_
        try simp only [Act.put, List.setIfInBounds_toArray, List.set_cons_zero, List.set_cons_succ]
        refine wpAnyH_take (i := 15) (oi := Oper.mk (some 156) _ _ _ _ _) (v := ?_) rfl (by kernel_rfl) (by kernel_rfl) (by kernel_rfl) (fun _ _ _ h => h) (Or.inl ⟨by kernel_rfl, ?_⟩) (by assumption) ?_
        rotate_left
        focus ((intro w hSw; (try dsimp only at hSw); go_simp) <;> with_reducible rfl)
        try simp only [Act.put, List.setIfInBounds_toArray, List.set_cons_zero, List.set_cons_succ]
        refine wpAnyH_take (i := 16) (oi := Oper.mk (some 157) _ _ _ _ _) (v := ?_) rfl (by kernel_rfl) (by kernel_rfl) (by kernel_rfl) (fun _ _ _ h => h) (Or.inl ⟨by kernel_rfl, ?_⟩) (by assumption) ?_
        rotate_left
        focus ((intro w hSw; (try dsimp only at hSw); go_simp) <;> with_reducible rfl)
        try simp only [Act.put, List.setIfInBounds_toArray, List.set_cons_zero, List.set_cons_succ]
        refine wpAnyH_take (i := 17) (oi := Oper.mk (some 158) _ _ _ _ _) (v := undef) rfl (by kernel_rfl) (by kernel_rfl) (by kernel_rfl) (fun _ _ _ h => h) (Or.inr ⟨by kernel_rfl, rfl⟩) (by assumption) ?_
        try simp only [Act.put, List.setIfInBounds_toArray, List.set_cons_zero, List.set_cons_succ]
        refine wpAnyH_take (i := 18) (oi := Oper.mk (some 159) _ _ _ _ _) (v := undef) rfl (by kernel_rfl) (by kernel_rfl) (by kernel_rfl) (fun _ _ _ h => h) (Or.inr ⟨by kernel_rfl, rfl⟩) (by assumption) ?_
        try simp only [Act.put, List.setIfInBounds_toArray, List.set_cons_zero, List.set_cons_succ]
        refine wpAnyH_take (i := 19) (oi := Oper.mk (some 160) _ _ _ _ _) (v := undef) rfl (by kernel_rfl) (by kernel_rfl) (by kernel_rfl) (fun _ _ _ h => h) (Or.inr ⟨by kernel_rfl, rfl⟩) (by assumption) ?_
        try simp only [Act.put, List.setIfInBounds_toArray, List.set_cons_zero, List.set_cons_succ]
        refine wpAnyH_take (i := 20) (oi := Oper.mk (some 161) _ _ _ _ _) (v := undef) rfl (by kernel_rfl) (by kernel_rfl) (by kernel_rfl) (fun _ _ _ h => h) (Or.inr ⟨by kernel_rfl, rfl⟩) (by assumption) ?_
        try simp only [Act.put, List.setIfInBounds_toArray, List.set_cons_zero, List.set_cons_succ]
        refine wpAnyH_take (i := 21) (oi := Oper.mk (some 162) _ _ _ _ _) (v := undef) rfl (by kernel_rfl) (by kernel_rfl) (by kernel_rfl) (fun _ _ _ h => h) (Or.inr ⟨by kernel_rfl, rfl⟩) (by assumption) ?_
        try simp only [Act.put, List.setIfInBounds_toArray, List.set_cons_zero, List.set_cons_succ]
        refine wpAnyH_take (i := 22) (oi := Oper.mk (some 163) _ _ _ _ _) (v := undef) rfl (by kernel_rfl) (by kernel_rfl) (by kernel_rfl) (fun _ _ _ h => h) (Or.inr ⟨by kernel_rfl, rfl⟩) (by assumption) ?_
        try simp only [Act.put, List.setIfInBounds_toArray, List.set_cons_zero, List.set_cons_succ]
        refine wpAnyH_take (i := 23) (oi := Oper.mk (some 164) _ _ _ _ _) (v := undef) rfl (by kernel_rfl) (by kernel_rfl) (by kernel_rfl) (fun _ _ _ h => h) (Or.inr ⟨by kernel_rfl, rfl⟩) (by assumption) ?_
        try simp only [Act.put, List.setIfInBounds_toArray, List.set_cons_zero, List.set_cons_succ]
        refine wpAnyH_take (i := 24) (oi := Oper.mk (some 165) _ _ _ _ _) (v := ?_) rfl (by kernel_rfl) (by kernel_rfl) (by kernel_rfl) (fun _ _ _ h => h) (Or.inl ⟨by kernel_rfl, ?_⟩) (by assumption) ?_
        rotate_left
        focus ((intro w hSw; (try dsimp only at hSw); go_simp) <;> with_reducible rfl)
        try simp only [Act.put, List.setIfInBounds_toArray, List.set_cons_zero, List.set_cons_succ]
        refine wpAnyH_take (i := 25) (oi := Oper.mk (some 4) _ _ _ _ _) (v := ?_) rfl (by kernel_rfl) (by kernel_rfl) (by kernel_rfl) (fun _ _ _ h => h) (Or.inl ⟨by kernel_rfl, ?_⟩) (by assumption) ?_
        rotate_left
        focus ((intro w hSw; (try dsimp only at hSw); go_simp) <;> with_reducible rfl)
        try simp only [Act.put, List.setIfInBounds_toArray, List.set_cons_zero, List.set_cons_succ]
        refine wpAnyH_done (by kernel_rfl) (NoPanic.normal ?_) _
        go_wp2
        go_ret
        exact FIN _ _ rfl b1
      | true =>
        cases r2 with
        | false => as_aux_lemma =>
          refine wp_region_noPanic ?_
          refine wp_region_held_drew (S := (fun w' => (w'.cell? ⟨M, 0, none⟩ = some (.pointer yl) ∧ w'.cell? ⟨M, 1, none⟩ = some (.pointer yh) ∧ w'.cell? ⟨M, 2, none⟩ = some (.pointer (some ⟨b, 0, none⟩))) ∧ w'.cell? ⟨b, 0, none⟩ = some (.int .u8 ty') ∧ w'.cell? ⟨b, 1, none⟩ = some (.bool false) ∧ w'.cell? ⟨b, 2, none⟩ = some (.int .i64 m) ∧ w'.cell? ⟨b, 3, none⟩ = some (.string s'))) (by kernel_rfl) (unhide HS _ bd) (fun hHeld => ?_)
          refine wpAnyH_take (i := 0) (oi := Oper.mk (some 141) _ _ _ _ _) (v := ?_) rfl (by kernel_rfl) (by kernel_rfl) (by kernel_rfl) (fun _ _ _ h => h) (Or.inl ⟨by kernel_rfl, ?_⟩) (by assumption) ?_
          rotate_left
          focus ((intro w hSw; (try dsimp only at hSw); go_simp) <;> with_reducible rfl)
          try simp only [Act.put, List.setIfInBounds_toArray, List.set_cons_zero, List.set_cons_succ]
          refine wpAnyH_take (i := 1) (oi := Oper.mk (some 142) _ _ _ _ _) (v := ?_) rfl (by kernel_rfl) (by kernel_rfl) (by kernel_rfl) (fun _ _ _ h => h) (Or.inl ⟨by kernel_rfl, ?_⟩) (by assumption) ?_
          rotate_left
          focus ((intro w hSw; (try dsimp only at hSw); go_simp) <;> with_reducible rfl)
          try simp only [Act.put, List.setIfInBounds_toArray, List.set_cons_zero, List.set_cons_succ]
          refine wpAnyH_take (i := 2) (oi := Oper.mk (some 143) _ _ _ _ _) (v := ?_) rfl (by kernel_rfl) (by kernel_rfl) (by kernel_rfl) (fun _ _ _ h => h) (Or.inl ⟨by kernel_rfl, ?_⟩) (by assumption) ?_
          rotate_left
          focus ((intro w hSw; (try dsimp only at hSw); go_simp) <;> with_reducible rfl)
          try simp only [Act.put, List.setIfInBounds_toArray, List.set_cons_zero, List.set_cons_succ]
          refine wpAnyH_take (i := 3) (oi := Oper.mk (some 144) _ _ _ _ _) (v := ?_) rfl (by kernel_rfl) (by kernel_rfl) (by kernel_rfl) (fun _ _ _ h => h) (Or.inl ⟨by kernel_rfl, ?_⟩) (by assumption) ?_
          rotate_left
          focus ((intro w hSw; (try dsimp only at hSw); go_simp) <;> with_reducible rfl)
          try simp only [Act.put, List.setIfInBounds_toArray, List.set_cons_zero, List.set_cons_succ]
          refine wpAnyH_take (i := 4) (oi := Oper.mk (some 145) _ _ _ _ _) (v := ?_) rfl (by kernel_rfl) (by kernel_rfl) (by kernel_rfl) (fun _ _ _ h => h) (Or.inl ⟨by kernel_rfl, ?_⟩) (by assumption) ?_
          rotate_left
          focus ((intro w hSw; (try dsimp only at hSw); go_simp) <;> with_reducible rfl)
          try simp only [Act.put, List.setIfInBounds_toArray, List.set_cons_zero, List.set_cons_succ]
          refine wpAnyH_take (i := 5) (oi := Oper.mk (some 146) _ _ _ _ _) (v := ?_) rfl (by kernel_rfl) (by kernel_rfl) (by kernel_rfl) (fun _ _ _ h => h) (Or.inl ⟨by kernel_rfl, ?_⟩) (by assumption) ?_
          rotate_left
          focus ((intro w hSw; (try dsimp only at hSw); go_simp) <;> with_reducible rfl)
          try simp only [Act.put, List.setIfInBounds_toArray, List.set_cons_zero, List.set_cons_succ]
          refine wpAnyH_ready (rs := [6]) (by kernel_rfl) (by simp) ?_
          refine AllReadyH.cons rfl (fun K hK => ?_) AllReadyH.nil
          go_simp
          go_at_call 17
          refine (M1 U4.drew bd).mono ?_
          rintro e w1 ⟨rfl, b10⟩
          have b1 : Below U4.heap.size U4 w1 := bd.trans (b10.mono bd.size)
          go_wp2_with fail
          refine hK.out _ _ (unhide HS _ b1) (fun hHeld => ?_)
          clear hK K
          try simp only [Act.put, List.setIfInBounds_toArray, List.set_cons_zero, List.set_cons_succ]
          refine wpAnyH_take (i := 7) (oi := Oper.mk (some 148) _ _ _ _ _) (v := ?_) rfl (by kernel_rfl) (by kernel_rfl) (by kernel_rfl) (fun _ _ _ h => h) (Or.inl ⟨by kernel_rfl, ?_⟩) (by assumption) ?_
          rotate_left
          focus ((intro w hSw; (try dsimp only at hSw); go_simp) <;> with_reducible rfl)
          try simp only [Act.put, List.setIfInBounds_toArray, List.set_cons_zero, List.set_cons_succ]
          refine wpAnyH_take (i := 8) (oi := Oper.mk (some 149) _ _ _ _ _) (v := ?_) rfl (by kernel_rfl) (by kernel_rfl) (by kernel_rfl) (fun _ _ _ h => h) (Or.inl ⟨by kernel_rfl, ?_⟩) (by assumption) ?_
          rotate_left
          focus ((intro w hSw; (try dsimp only at hSw); go_simp) <;> with_reducible rfl)
          try simp only [Act.put, List.setIfInBounds_toArray, List.set_cons_zero, List.set_cons_succ]
          refine wpAnyH_take (i := 9) (oi := Oper.mk (some 150) _ _ _ _ _) (v := ?_) rfl (by kernel_rfl) (by kernel_rfl) (by kernel_rfl) (fun _ _ _ h => h) (Or.inl ⟨by kernel_rfl, ?_⟩) (by assumption) ?_
          rotate_left
          focus ((intro w hSw; (try dsimp only at hSw); go_simp) <;> with_reducible rfl)
          try simp only [Act.put, List.setIfInBounds_toArray, List.set_cons_zero, List.set_cons_succ]
          refine wpAnyH_take (i := 10) (oi := Oper.mk (some 151) _ _ _ _ _) (v := ?_) rfl (by kernel_rfl) (by kernel_rfl) (by kernel_rfl) (fun _ _ _ h => h) (Or.inl ⟨by kernel_rfl, ?_⟩) (by assumption) ?_
          rotate_left
          focus ((intro w hSw; (try dsimp only at hSw); go_simp) <;> with_reducible rfl)
          try simp only [Act.put, List.setIfInBounds_toArray, List.set_cons_zero, List.set_cons_succ]
          refine wpAnyH_take (i := 11) (oi := Oper.mk (some 152) _ _ _ _ _) (v := ?_) rfl (by kernel_rfl) (by kernel_rfl) (by kernel_rfl) (fun _ _ _ h => h) (Or.inl ⟨by kernel_rfl, ?_⟩) (by assumption) ?_
          rotate_left
          focus ((intro w hSw; (try dsimp only at hSw); go_simp) <;> with_reducible rfl)
          try simp only [Act.put, List.setIfInBounds_toArray, List.set_cons_zero, List.set_cons_succ]
          refine wpAnyH_take (i := 12) (oi := Oper.mk (some 153) _ _ _ _ _) (v := ?_) rfl (by kernel_rfl) (by kernel_rfl) (by kernel_rfl) (fun _ _ _ h => h) (Or.inl ⟨by kernel_rfl, ?_⟩) (by assumption) ?_
          rotate_left
          focus ((intro w hSw; (try dsimp only at hSw); go_simp) <;> with_reducible rfl)
          try simp only [Act.put, List.setIfInBounds_toArray, List.set_cons_zero, List.set_cons_succ]
          refine wpAnyH_take (i := 13) (oi := Oper.mk (some 154) _ _ _ _ _) (v := ?_) rfl (by kernel_rfl) (by kernel_rfl) (by kernel_rfl) (fun _ _ _ h => h) (Or.inl ⟨by kernel_rfl, ?_⟩) (by assumption) ?_
          rotate_left
          focus ((intro w hSw; (try dsimp only at hSw); go_simp) <;> with_reducible rfl)
          try simp only [Act.put, List.setIfInBounds_toArray, List.set_cons_zero, List.set_cons_succ]
          refine wpAnyH_ready (rs := [14]) (by kernel_rfl) (by simp) ?_
          refine AllReadyH.cons rfl (fun K hK => ?_) AllReadyH.nil
          go_simp
          go_at_call 17
          refine (M2 w1 b1).mono ?_
          rintro e w2 ⟨rfl, b20⟩
          have b2 : Below U4.heap.size U4 w2 := b1.trans (b20.mono b1.size)
          go_wp2_with fail
          refine hK.out _ _ (unhide HS _ b2) (fun hHeld => ?_)
          clear hK K
          try simp only [Act.put, List.setIfInBounds_toArray, List.set_cons_zero, List.set_cons_succ]
          refine wpAnyH_take (i := 15) (oi := Oper.mk (some 156) _ _ _ _ _) (v := ?_) rfl (by kernel_rfl) (by kernel_rfl) (by kernel_rfl) (fun _ _ _ h => h) (Or.inl ⟨by kernel_rfl, ?_⟩) (by assumption) ?_
          rotate_left
          focus ((intro w hSw; (try dsimp only at hSw); go_simp) <;> with_reducible rfl)
          try simp only [Act.put, List.setIfInBounds_toArray, List.set_cons_zero, List.set_cons_succ]
          refine wpAnyH_take (i := 16) (oi := Oper.mk (some 157) _ _ _ _ _) (v := ?_) rfl (by kernel_rfl) (by kernel_rfl) (by kernel_rfl) (fun _ _ _ h => h) (Or.inl ⟨by kernel_rfl, ?_⟩) (by assumption) ?_
          rotate_left
          focus ((intro w hSw; (try dsimp only at hSw); go_simp) <;> with_reducible rfl)
          try simp only [Act.put, List.setIfInBounds_toArray, List.set_cons_zero, List.set_cons_succ]
          refine wpAnyH_take (i := 17) (oi := Oper.mk (some 158) _ _ _ _ _) (v := undef) rfl (by kernel_rfl) (by kernel_rfl) (by kernel_rfl) (fun _ _ _ h => h) (Or.inr ⟨by kernel_rfl, rfl⟩) (by assumption) ?_
          try simp only [Act.put, List.setIfInBounds_toArray, List.set_cons_zero, List.set_cons_succ]
          refine wpAnyH_take (i := 18) (oi := Oper.mk (some 159) _ _ _ _ _) (v := undef) rfl (by kernel_rfl) (by kernel_rfl) (by kernel_rfl) (fun _ _ _ h => h) (Or.inr ⟨by kernel_rfl, rfl⟩) (by assumption) ?_
          try simp only [Act.put, List.setIfInBounds_toArray, List.set_cons_zero, List.set_cons_succ]
          refine wpAnyH_take (i := 19) (oi := Oper.mk (some 160) _ _ _ _ _) (v := undef) rfl (by kernel_rfl) (by kernel_rfl) (by kernel_rfl) (fun _ _ _ h => h) (Or.inr ⟨by kernel_rfl, rfl⟩) (by assumption) ?_
          try simp only [Act.put, List.setIfInBounds_toArray, List.set_cons_zero, List.set_cons_succ]
          refine wpAnyH_take (i := 20) (oi := Oper.mk (some 161) _ _ _ _ _) (v := undef) rfl (by kernel_rfl) (by kernel_rfl) (by kernel_rfl) (fun _ _ _ h => h) (Or.inr ⟨by kernel_rfl, rfl⟩) (by assumption) ?_
          try simp only [Act.put, List.setIfInBounds_toArray, List.set_cons_zero, List.set_cons_succ]
          refine wpAnyH_take (i := 21) (oi := Oper.mk (some 162) _ _ _ _ _) (v := undef) rfl (by kernel_rfl) (by kernel_rfl) (by kernel_rfl) (fun _ _ _ h => h) (Or.inr ⟨by kernel_rfl, rfl⟩) (by assumption) ?_
          try simp only [Act.put, List.setIfInBounds_toArray, List.set_cons_zero, List.set_cons_succ]
          refine wpAnyH_take (i := 22) (oi := Oper.mk (some 163) _ _ _ _ _) (v := undef) rfl (by kernel_rfl) (by kernel_rfl) (by kernel_rfl) (fun _ _ _ h => h) (Or.inr ⟨by kernel_rfl, rfl⟩) (by assumption) ?_
          try simp only [Act.put, List.setIfInBounds_toArray, List.set_cons_zero, List.set_cons_succ]
          refine wpAnyH_take (i := 23) (oi := Oper.mk (some 164) _ _ _ _ _) (v := undef) rfl (by kernel_rfl) (by kernel_rfl) (by kernel_rfl) (fun _ _ _ h => h) (Or.inr ⟨by kernel_rfl, rfl⟩) (by assumption) ?_
          try simp only [Act.put, List.setIfInBounds_toArray, List.set_cons_zero, List.set_cons_succ]
          refine wpAnyH_take (i := 24) (oi := Oper.mk (some 165) _ _ _ _ _) (v := ?_) rfl (by kernel_rfl) (by kernel_rfl) (by kernel_rfl) (fun _ _ _ h => h) (Or.inl ⟨by kernel_rfl, ?_⟩) (by assumption) ?_
          rotate_left
          focus ((intro w hSw; (try dsimp only at hSw); go_simp) <;> with_reducible rfl)
          try simp only [Act.put, List.setIfInBounds_toArray, List.set_cons_zero, List.set_cons_succ]
          refine wpAnyH_take (i := 25) (oi := Oper.mk (some 4) _ _ _ _ _) (v := ?_) rfl (by kernel_rfl) (by kernel_rfl) (by kernel_rfl) (fun _ _ _ h => h) (Or.inl ⟨by kernel_rfl, ?_⟩) (by assumption) ?_
          rotate_left
          focus ((intro w hSw; (try dsimp only at hSw); go_simp) <;> with_reducible rfl)
          try simp only [Act.put, List.setIfInBounds_toArray, List.set_cons_zero, List.set_cons_succ]
          refine wpAnyH_done (by kernel_rfl) (NoPanic.normal ?_) _
          go_wp2
          go_ret
          exact FIN _ _ rfl b2
        | true => as_aux_lemma =>
          refine wp_region_noPanic ?_
          refine wp_region_held_drew (S := (fun w' => (w'.cell? ⟨M, 0, none⟩ = some (.pointer yl) ∧ w'.cell? ⟨M, 1, none⟩ = some (.pointer yh) ∧ w'.cell? ⟨M, 2, none⟩ = some (.pointer (some ⟨b, 0, none⟩))) ∧ w'.cell? ⟨b, 0, none⟩ = some (.int .u8 ty') ∧ w'.cell? ⟨b, 1, none⟩ = some (.bool false) ∧ w'.cell? ⟨b, 2, none⟩ = some (.int .i64 m) ∧ w'.cell? ⟨b, 3, none⟩ = some (.string s'))) (by kernel_rfl) (unhide HS _ bd) (fun hHeld => ?_)
          refine wpAnyH_take (i := 0) (oi := Oper.mk (some 141) _ _ _ _ _) (v := ?_) rfl (by kernel_rfl) (by kernel_rfl) (by kernel_rfl) (fun _ _ _ h => h) (Or.inl ⟨by kernel_rfl, ?_⟩) (by assumption) ?_
          rotate_left
          focus ((intro w hSw; (try dsimp only at hSw); go_simp) <;> with_reducible rfl)
          try simp only [Act.put, List.setIfInBounds_toArray, List.set_cons_zero, List.set_cons_succ]
          refine wpAnyH_take (i := 1) (oi := Oper.mk (some 142) _ _ _ _ _) (v := ?_) rfl (by kernel_rfl) (by kernel_rfl) (by kernel_rfl) (fun _ _ _ h => h) (Or.inl ⟨by kernel_rfl, ?_⟩) (by assumption) ?_
          rotate_left
          focus ((intro w hSw; (try dsimp only at hSw); go_simp) <;> with_reducible rfl)
          try simp only [Act.put, List.setIfInBounds_toArray, List.set_cons_zero, List.set_cons_succ]
          refine wpAnyH_take (i := 2) (oi := Oper.mk (some 143) _ _ _ _ _) (v := ?_) rfl (by kernel_rfl) (by kernel_rfl) (by kernel_rfl) (fun _ _ _ h => h) (Or.inl ⟨by kernel_rfl, ?_⟩) (by assumption) ?_
          rotate_left
          focus ((intro w hSw; (try dsimp only at hSw); go_simp) <;> with_reducible rfl)
          try simp only [Act.put, List.setIfInBounds_toArray, List.set_cons_zero, List.set_cons_succ]
          refine wpAnyH_take (i := 3) (oi := Oper.mk (some 144) _ _ _ _ _) (v := ?_) rfl (by kernel_rfl) (by kernel_rfl) (by kernel_rfl) (fun _ _ _ h => h) (Or.inl ⟨by kernel_rfl, ?_⟩) (by assumption) ?_
          rotate_left
          focus ((intro w hSw; (try dsimp only at hSw); go_simp) <;> with_reducible rfl)
          try simp only [Act.put, List.setIfInBounds_toArray, List.set_cons_zero, List.set_cons_succ]
          refine wpAnyH_take (i := 4) (oi := Oper.mk (some 145) _ _ _ _ _) (v := ?_) rfl (by kernel_rfl) (by kernel_rfl) (by kernel_rfl) (fun _ _ _ h => h) (Or.inl ⟨by kernel_rfl, ?_⟩) (by assumption) ?_
          rotate_left
          focus ((intro w hSw; (try dsimp only at hSw); go_simp) <;> with_reducible rfl)
          try simp only [Act.put, List.setIfInBounds_toArray, List.set_cons_zero, List.set_cons_succ]
          refine wpAnyH_take (i := 5) (oi := Oper.mk (some 146) _ _ _ _ _) (v := ?_) rfl (by kernel_rfl) (by kernel_rfl) (by kernel_rfl) (fun _ _ _ h => h) (Or.inl ⟨by kernel_rfl, ?_⟩) (by assumption) ?_
          rotate_left
          focus ((intro w hSw; (try dsimp only at hSw); go_simp) <;> with_reducible rfl)
          try simp only [Act.put, List.setIfInBounds_toArray, List.set_cons_zero, List.set_cons_succ]
          refine wpAnyH_ready (rs := [6]) (by kernel_rfl) (by simp) ?_
          refine AllReadyH.cons rfl (fun K hK => ?_) AllReadyH.nil
          go_simp
          go_at_call 17
          refine (M1 U4.drew bd).mono ?_
          rintro e w1 ⟨rfl, b10⟩
          have b1 : Below U4.heap.size U4 w1 := bd.trans (b10.mono bd.size)
          go_wp2_with fail
          refine hK.out _ _ (unhide HS _ b1) (fun hHeld => ?_)
          clear hK K
          try simp only [Act.put, List.setIfInBounds_toArray, List.set_cons_zero, List.set_cons_succ]
          refine wpAnyH_take (i := 7) (oi := Oper.mk (some 148) _ _ _ _ _) (v := ?_) rfl (by kernel_rfl) (by kernel_rfl) (by kernel_rfl) (fun _ _ _ h => h) (Or.inl ⟨by kernel_rfl, ?_⟩) (by assumption) ?_
          rotate_left
          focus ((intro w hSw; (try dsimp only at hSw); go_simp) <;> with_reducible rfl)
          try simp only [Act.put, List.setIfInBounds_toArray, List.set_cons_zero, List.set_cons_succ]
          refine wpAnyH_take (i := 8) (oi := Oper.mk (some 149) _ _ _ _ _) (v := ?_) rfl (by kernel_rfl) (by kernel_rfl) (by kernel_rfl) (fun _ _ _ h => h) (Or.inl ⟨by kernel_rfl, ?_⟩) (by assumption) ?_
          rotate_left
          focus ((intro w hSw; (try dsimp only at hSw); go_simp) <;> with_reducible rfl)
          try simp only [Act.put, List.setIfInBounds_toArray, List.set_cons_zero, List.set_cons_succ]
          refine wpAnyH_take (i := 9) (oi := Oper.mk (some 150) _ _ _ _ _) (v := ?_) rfl (by kernel_rfl) (by kernel_rfl) (by kernel_rfl) (fun _ _ _ h => h) (Or.inl ⟨by kernel_rfl, ?_⟩) (by assumption) ?_
          rotate_left
          focus ((intro w hSw; (try dsimp only at hSw); go_simp) <;> with_reducible rfl)
          try simp only [Act.put, List.setIfInBounds_toArray, List.set_cons_zero, List.set_cons_succ]
          refine wpAnyH_take (i := 10) (oi := Oper.mk (some 151) _ _ _ _ _) (v := ?_) rfl (by kernel_rfl) (by kernel_rfl) (by kernel_rfl) (fun _ _ _ h => h) (Or.inl ⟨by kernel_rfl, ?_⟩) (by assumption) ?_
          rotate_left
          focus ((intro w hSw; (try dsimp only at hSw); go_simp) <;> with_reducible rfl)
          try simp only [Act.put, List.setIfInBounds_toArray, List.set_cons_zero, List.set_cons_succ]
          refine wpAnyH_take (i := 11) (oi := Oper.mk (some 152) _ _ _ _ _) (v := ?_) rfl (by kernel_rfl) (by kernel_rfl) (by kernel_rfl) (fun _ _ _ h => h) (Or.inl ⟨by kernel_rfl, ?_⟩) (by assumption) ?_
          rotate_left
          focus ((intro w hSw; (try dsimp only at hSw); go_simp) <;> with_reducible rfl)
          try simp only [Act.put, List.setIfInBounds_toArray, List.set_cons_zero, List.set_cons_succ]
          refine wpAnyH_take (i := 12) (oi := Oper.mk (some 153) _ _ _ _ _) (v := ?_) rfl (by kernel_rfl) (by kernel_rfl) (by kernel_rfl) (fun _ _ _ h => h) (Or.inl ⟨by kernel_rfl, ?_⟩) (by assumption) ?_
          rotate_left
          focus ((intro w hSw; (try dsimp only at hSw); go_simp) <;> with_reducible rfl)
          try simp only [Act.put, List.setIfInBounds_toArray, List.set_cons_zero, List.set_cons_succ]
          refine wpAnyH_take (i := 13) (oi := Oper.mk (some 154) _ _ _ _ _) (v := ?_) rfl (by kernel_rfl) (by kernel_rfl) (by kernel_rfl) (fun _ _ _ h => h) (Or.inl ⟨by kernel_rfl, ?_⟩) (by assumption) ?_
          rotate_left
          focus ((intro w hSw; (try dsimp only at hSw); go_simp) <;> with_reducible rfl)
          try simp only [Act.put, List.setIfInBounds_toArray, List.set_cons_zero, List.set_cons_succ]
          refine wpAnyH_ready (rs := [14]) (by kernel_rfl) (by simp) ?_
          refine AllReadyH.cons rfl (fun K hK => ?_) AllReadyH.nil
          go_simp
          go_at_call 17
          refine (M2 w1 b1).mono ?_
          rintro e w2 ⟨rfl, b20⟩
          have b2 : Below U4.heap.size U4 w2 := b1.trans (b20.mono b1.size)
          go_wp2_with fail
          refine hK.out _ _ (unhide HS _ b2) (fun hHeld => ?_)
          clear hK K
          try simp only [Act.put, List.setIfInBounds_toArray, List.set_cons_zero, List.set_cons_succ]
          refine wpAnyH_take (i := 15) (oi := Oper.mk (some 156) _ _ _ _ _) (v := ?_) rfl (by kernel_rfl) (by kernel_rfl) (by kernel_rfl) (fun _ _ _ h => h) (Or.inl ⟨by kernel_rfl, ?_⟩) (by assumption) ?_
          rotate_left
          focus ((intro w hSw; (try dsimp only at hSw); go_simp) <;> with_reducible rfl)
          try simp only [Act.put, List.setIfInBounds_toArray, List.set_cons_zero, List.set_cons_succ]
          refine wpAnyH_take (i := 16) (oi := Oper.mk (some 157) _ _ _ _ _) (v := ?_) rfl (by kernel_rfl) (by kernel_rfl) (by kernel_rfl) (fun _ _ _ h => h) (Or.inl ⟨by kernel_rfl, ?_⟩) (by assumption) ?_
          rotate_left
          focus ((intro w hSw; (try dsimp only at hSw); go_simp) <;> with_reducible rfl)
          try simp only [Act.put, List.setIfInBounds_toArray, List.set_cons_zero, List.set_cons_succ]
          refine wpAnyH_take (i := 17) (oi := Oper.mk (some 158) _ _ _ _ _) (v := ?_) rfl (by kernel_rfl) (by kernel_rfl) (by kernel_rfl) (fun _ _ _ h => h) (Or.inl ⟨by kernel_rfl, ?_⟩) (by assumption) ?_
          rotate_left
          focus ((intro w hSw; (try dsimp only at hSw); go_simp) <;> with_reducible rfl)
          try simp only [Act.put, List.setIfInBounds_toArray, List.set_cons_zero, List.set_cons_succ]
          refine wpAnyH_take (i := 18) (oi := Oper.mk (some 159) _ _ _ _ _) (v := ?_) rfl (by kernel_rfl) (by kernel_rfl) (by kernel_rfl) (fun _ _ _ h => h) (Or.inl ⟨by kernel_rfl, ?_⟩) (by assumption) ?_
          rotate_left
          focus ((intro w hSw; (try dsimp only at hSw); go_simp) <;> with_reducible rfl)
          try simp only [Act.put, List.setIfInBounds_toArray, List.set_cons_zero, List.set_cons_succ]
          refine wpAnyH_take (i := 19) (oi := Oper.mk (some 160) _ _ _ _ _) (v := ?_) rfl (by kernel_rfl) (by kernel_rfl) (by kernel_rfl) (fun _ _ _ h => h) (Or.inl ⟨by kernel_rfl, ?_⟩) (by assumption) ?_
          rotate_left
          focus ((intro w hSw; (try dsimp only at hSw); go_simp) <;> with_reducible rfl)
          try simp only [Act.put, List.setIfInBounds_toArray, List.set_cons_zero, List.set_cons_succ]
          refine wpAnyH_take (i := 20) (oi := Oper.mk (some 161) _ _ _ _ _) (v := ?_) rfl (by kernel_rfl) (by kernel_rfl) (by kernel_rfl) (fun _ _ _ h => h) (Or.inl ⟨by kernel_rfl, ?_⟩) (by assumption) ?_
          rotate_left
          focus ((intro w hSw; (try dsimp only at hSw); go_simp) <;> with_reducible rfl)
          try simp only [Act.put, List.setIfInBounds_toArray, List.set_cons_zero, List.set_cons_succ]
          refine wpAnyH_take (i := 21) (oi := Oper.mk (some 162) _ _ _ _ _) (v := ?_) rfl (by kernel_rfl) (by kernel_rfl) (by kernel_rfl) (fun _ _ _ h => h) (Or.inl ⟨by kernel_rfl, ?_⟩) (by assumption) ?_
          rotate_left
          focus ((intro w hSw; (try dsimp only at hSw); go_simp) <;> with_reducible rfl)
          try simp only [Act.put, List.setIfInBounds_toArray, List.set_cons_zero, List.set_cons_succ]
          refine wpAnyH_ready (rs := [22]) (by kernel_rfl) (by simp) ?_
          refine AllReadyH.cons rfl (fun K hK => ?_) AllReadyH.nil
          go_simp
          go_at_call 16
          refine (E w2 b2).mono ?_
          rintro e w3 ⟨rfl, b30⟩
          have b3 : Below U4.heap.size U4 w3 := b2.trans (b30.mono b2.size)
          go_wp2_with fail
          refine hK.out _ _ (unhide HS _ b3) (fun hHeld => ?_)
          clear hK K
          try simp only [Act.put, List.setIfInBounds_toArray, List.set_cons_zero, List.set_cons_succ]
          refine wpAnyH_take (i := 23) (oi := Oper.mk (some 164) _ _ _ _ _) (v := ?_) rfl (by kernel_rfl) (by kernel_rfl) (by kernel_rfl) (fun _ _ _ h => h) (Or.inl ⟨by kernel_rfl, ?_⟩) (by assumption) ?_
          rotate_left
          focus ((intro w hSw; (try dsimp only at hSw); go_simp) <;> with_reducible rfl)
          try simp only [Act.put, List.setIfInBounds_toArray, List.set_cons_zero, List.set_cons_succ]
          refine wpAnyH_take (i := 24) (oi := Oper.mk (some 165) _ _ _ _ _) (v := ?_) rfl (by kernel_rfl) (by kernel_rfl) (by kernel_rfl) (fun _ _ _ h => h) (Or.inl ⟨by kernel_rfl, ?_⟩) (by assumption) ?_
          rotate_left
          focus ((intro w hSw; (try dsimp only at hSw); go_simp) <;> with_reducible rfl)
          try simp only [Act.put, List.setIfInBounds_toArray, List.set_cons_zero, List.set_cons_succ]
          refine wpAnyH_take (i := 25) (oi := Oper.mk (some 4) _ _ _ _ _) (v := ?_) rfl (by kernel_rfl) (by kernel_rfl) (by kernel_rfl) (fun _ _ _ h => h) (Or.inl ⟨by kernel_rfl, ?_⟩) (by assumption) ?_
          rotate_left
          focus ((intro w hSw; (try dsimp only at hSw); go_simp) <;> with_reducible rfl)
          try simp only [Act.put, List.setIfInBounds_toArray, List.set_cons_zero, List.set_cons_succ]
          refine wpAnyH_done (by kernel_rfl) (NoPanic.normal ?_) _
          go_wp2
          go_ret
          exact FIN _ _ rfl b3
    | none, none, _ =>
      obtain rfl : none = ye := by simpa [ptrOf] using hye
      have hlo := hCC4.lo
      have hhi := hCC4.hi
      obtain ⟨ql, hql⟩ : ∃ q, Hid (q = c'.lo) := ⟨_, hide rfl⟩
      obtain ⟨qh, hqh⟩ : ∃ q, Hid (q = c'.hi) := ⟨_, hide rfl⟩
      rw [← unhide hql] at hlo
      rw [← unhide hqh] at hhi
      match pl', ql, hlo with
      | none, none, _ => as_aux_lemma =>
        obtain rfl : none = yl := by simpa [ptrOf] using hyl
        go_wp2
        go_ret
        exact FIN _ _ (by simp [answer, ← unhide hx, ← unhide hq, ← unhide hql]) (Below.refl _ _)
      | some bl, some l, hl =>
        obtain rfl : some ⟨bl, 0, none⟩ = yl := by simpa [ptrOf] using hyl
        match ph', qh, hhi with
        | none, none, _ => as_aux_lemma =>
          obtain rfl : none = yh := by simpa [ptrOf] using hyh
          go_wp2
          go_ret
          exact FIN _ _ (by simp [answer, ← unhide hx, ← unhide hq, ← unhide hql, ← unhide hqh]) (Below.refl _ _)
        | some bh, some h, hh => as_aux_lemma =>
          obtain rfl : some ⟨bh, 0, none⟩ = yh := by simpa [ptrOf] using hyh
          obtain ⟨tl, sl, htl, hbl⟩ := hl
          obtain ⟨th, sh, hth, hbh⟩ := hh
          obtain ⟨f0, f1, f2, f3, f4⟩ := cells5 hbl
          obtain ⟨g0, g1, g2, g3, g4⟩ := cells5 hbh
          have hIl : I64 l := hCC4.fit.1 l (unhide hql).symm
          have hcs := cmp_cases l h
          have CW := fun w' => compare_walk tl l sl th h sh w' htl
          obtain ⟨r3, hr3⟩ : ∃ r, Hid (r = stepEx st.ex a a.col l) := ⟨_, hide rfl⟩
          have E := fun (w' : World) (hb' : Below U4.heap.size U4 w') => excl_walk B N sb cm em (k + 1 + 1) _ (stepEx st.ex a) a tl l sl w' (H4.grow hb').fr (H4.grow hb').sea.ex htl hIl hc (Nat.le_trans H4.size hb'.size) (H4.tab.below (hb'.mono H4.size))
          simp only [← unhide hr3] at E
          obtain ⟨v, hv⟩ : ∃ v, v = cmp l h := ⟨_, rfl⟩
          have hans : answer c' (stepEx st.ex a a.col) = if v = 0 then !r3 else decide (v < 0) := by simp [answer, ← unhide hx, ← unhide hq, ← unhide hql, ← unhide hqh, hv, unhide hr3]
          simp only [← hv] at CW hcs
          have bd : Below U4.heap.size U4 U4.drew := (Below.refl _ _).drew
          replace FIN := fun (r : Bool) (X : World) (h' : (if v = 0 then !r3 else decide (v < 0)) = r) => FIN r X (hans.trans h')
          clear hv hans hr3 hq hql hqh hx hyl hyh
          have ZM := lt_of_blk hCA4
          have Zl := lt_of_blk hbl
          have Zh := lt_of_blk hbh
          go_upto_region 34 with fail
          rcases hcs with rfl | rfl | rfl
          all_goals
            go_region_held3 (fun w' => (w'.cell? ⟨M, 0, none⟩ = some (.pointer (some ⟨bl, 0, none⟩)) ∧ w'.cell? ⟨M, 1, none⟩ = some (.pointer (some ⟨bh, 0, none⟩))) ∧ (w'.cell? ⟨bl, 0, none⟩ = some (.int .u8 tl) ∧ w'.cell? ⟨bl, 1, none⟩ = some (.bool false) ∧ w'.cell? ⟨bl, 2, none⟩ = some (.int .i64 l) ∧ w'.cell? ⟨bl, 3, none⟩ = some (.string sl)) ∧ w'.cell? ⟨bh, 0, none⟩ = some (.int .u8 th) ∧ w'.cell? ⟨bh, 1, none⟩ = some (.bool false) ∧ w'.cell? ⟨bh, 2, none⟩ = some (.int .i64 h) ∧ w'.cell? ⟨bh, 3, none⟩ = some (.string sh)) (go_keep)
              (first
                | (go_at_call 12; refine (CW U4.drew).mono ?_; rintro e w1 ⟨rfl, b1⟩; have b1' : Below U4.heap.size U4 w1 := bd.trans (b1.mono bd.size); obtain ⟨hc1, hf1⟩ := bcell b1'; have s0 := (hc1 M 0 ZM).trans n0; have s1 := (hc1 M 1 ZM).trans n1; have t0 := (hc1 bl 0 Zl).trans f0; have t1 := (hc1 bl 1 Zl).trans f1; have t2 := (hc1 bl 2 Zl).trans f2; have t3 := (hc1 bl 3 Zl).trans f3; have t4 := (hc1 bl 4 Zl).trans f4; have v0 := (hc1 bh 0 Zh).trans g0; have v1 := (hc1 bh 1 Zh).trans g1; have v2 := (hc1 bh 2 Zh).trans g2; have v3 := (hc1 bh 3 Zh).trans g3; have v4 := (hc1 bh 4 Zh).trans g4; clear hc1 hf1))
            first
              | (go_wp2_with (go_at_call 16; refine (E w1 b1').mono ?_; rintro e w2 ⟨rfl, b2⟩)
                 go_ret
                 exact FIN _ _ rfl (b1'.trans (b2.mono b1'.size)))
              | (go_wp2
                 go_ret
                 exact FIN _ _ rfl b1')

end Go.Proofs.Qxb6623474aDoor
