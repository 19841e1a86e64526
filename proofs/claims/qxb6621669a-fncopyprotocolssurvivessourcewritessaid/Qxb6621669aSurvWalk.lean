/-
  FnCopyProtocolsSurvivesSourceWrites: the walk, out of the contracts.
-/
import Derived.Test.Qxb6621669aWrite
import Derived.Test.Qxb6621669aSame
import Derived.Test.Qxb6621669aZz
import Derived.Test.Qxb6621669aProto
import Derived.Test.Qxb6621669aEncLaw
import Derived.WalkSmall
set_option linter.unusedVariables false
namespace Go.Proofs.Qxb6621669a
open Go.RowKit

/-- The same bytes twice. -/
theorem sameBytes_twice (a b : Option Addr) (len cap cap' : Nat) (z : Nat → Int) (w : World) (ha : BytesAt 0 w a len z) (hb : BytesAt 0 w b len z) (hl : len ≤ 9223372036854775807) :
    Calls Try.prog 14 #[.slice a len cap, .slice b len cap'] w fun e w' => e = .returned (.bool true) ∧ ∃ n, w' = w.drewN n := by
  have h := sameBytes_any a b len len cap cap' z z w ha hb hl hl
  rwa [show eqB len len z z = true from (eqB_iff _ _ _ _).2 ⟨rfl, fun _ _ => rfl⟩] at h

/-- Nothing has turned but blocks from lo on, below hi. -/
structure Mid (lo hi : Nat) (w w' : World) : Prop where
  os : w'.os = w.os
  tape : w'.tape = w.tape
  output : w'.output = w.output
  size : w'.heap.size = w.heap.size
  block : ∀ k, k < lo ∨ hi ≤ k → w'.heap[k]? = w.heap[k]?

theorem Mid.refl (lo hi : Nat) (w : World) : Mid lo hi w w := ⟨rfl, rfl, rfl, rfl, fun _ _ => rfl⟩
theorem Mid.drew {lo hi : Nat} {w w' : World} (h : Mid lo hi w w') : Mid lo hi w w'.drew := ⟨h.os, h.tape, h.output, h.size, h.block⟩
theorem Mid.setCell {lo hi : Nat} {w w' : World} (h : Mid lo hi w w') {x : Addr} (h1 : lo ≤ x.block) (h2 : x.block < hi) (v : Value) : Mid lo hi w (w'.setCell x v) :=
  ⟨h.os, h.tape, h.output, (setCell_size _ _ _).trans h.size, fun k hk => (Below.heap_setCell w' x v k (by omega)).trans (h.block k hk)⟩
theorem Mid.below {lo hi : Nat} {w w' : World} (h : Mid lo hi w w') : Below lo w w' := ⟨h.os, h.tape, h.output, by rw [h.size]; exact Nat.le_refl _, fun k hk => h.block k (.inl hk)⟩

theorem OwnL.mid {lo hi : Nat} {w w' : World} {b : Nat} {p : PV} {A : Nat → Option Addr} {C : Nat → Nat} (h : OwnL w b p A C) (hm : Mid lo hi w w') (hb : hi ≤ b) : OwnL w' b p A C := by
  refine ⟨by rw [hm.size]; exact h.1, fun i hi => ?_⟩
  obtain ⟨g1, g2, g3, g4, g5⟩ := h.2 i hi
  have e := hm.block b (.inr hb)
  refine ⟨by rw [World.cell?_of_block (w := w) e]; exact g1, by rw [World.cell?_of_block (w := w) e]; exact g2, by rw [World.frozen?_of_block (w := w) e]; exact g3, by rw [World.frozen?_of_block (w := w) e]; exact g4, ?_⟩
  rcases g5 with g5 | ⟨bi, hA, h1, h2, h3⟩
  · exact .inl g5
  · have e' := hm.block bi (.inr (by omega))
    exact .inr ⟨bi, hA, h1, by rw [hm.size]; exact h2, fun j hj => ⟨by rw [World.cell?_of_block (w := w) e']; exact (h3 j hj).1, by rw [World.frozen?_of_block (w := w) e']; exact (h3 j hj).2⟩⟩

/-- The source while it is written over: in blocks from lo on, below hi. -/
def SrcW (lo hi : Nat) (w : World) (ga : Option Addr) (len : Nat) (ml : Nat → Nat) (k : Nat) : Prop :=
  len = 0 ∨ ∃ gb Ag Cg, ga = some ⟨gb, 0, none⟩ ∧ lo ≤ gb ∧ gb < hi ∧ (∀ i, i < len → ml i = 0 ∨ ∃ mb, Ag i = some ⟨mb, 0, none⟩ ∧ gb < mb ∧ mb < hi) ∧ OwnW w gb len ml Ag Cg k

theorem SrcW.ofOwn {lo : Nat} {w w' : World} {ga : Option Addr} {p : PV} (h : OwnList lo w ga p) (hs : p.small) (hb : Below w.heap.size w w') : SrcW lo w.heap.size w' ga p.len p.ml 0 := by
  have h' := h.below hb rfl
  rcases h with h | ⟨gb, rfl, h1, h2, A, C, h3⟩
  · exact .inl h
  · refine .inr ⟨gb, A, C, rfl, h1, h2, fun i hi => ?_, ?_⟩
    · rcases (h3 i hi).2.2.2.2 with g | ⟨mb, hA, g1, g2, _⟩
      · exact .inl g
      · exact .inr ⟨mb, hA, g1, g2⟩
    · refine ⟨p.nm, p.bs, fun i _ hi => (hs.2 i hi).1, Nat.lt_of_lt_of_le h2 hb.size, fun i hi => ?_⟩
      obtain ⟨g1, g2, g3, g4, g5⟩ := h3 i hi
      exact ⟨by rw [hb.cell h2]; exact g1, by rw [hb.cell h2]; exact g2, by rw [hb.frozen h2]; exact g3, by rw [hb.frozen h2]; exact g4, g5.below hb rfl⟩

set_option maxHeartbeats 4000000 in
theorem surv_walk (a : Option Addr) (cap : Nat) (p : PV) (w : World) (hp : ListAt 0 w a p) (hpf : p.fits) (hpo : p.ok) (hna : a = none → p.len = 0) :
    Calls Try.prog 7 #[.slice a p.len cap] w fun e w' => e = .returned (.bool true) ∧ Below w.heap.size w w' := by
  have hpf1 := hpf.1
  have q28 := fun (w : World) (a : Option Addr) (n c n' c' : Nat) => Lib.run_eql_slice_nil (P := Try.prog) w 28 38 a n c n' c' Try.underlying28
  by_cases h1 : (65536 : Int) < (p.len : Int)
  · go_enter Try.func7, Try.ntmps7
    go_wp2_with (go_at_call 19; refine (zzSurv_any a cap p _ hp hpf).mono ?_; rintro e w1 ⟨⟨r, rfl⟩, e1⟩; cases e1)
    all_goals (go_ret; exact ⟨rfl, Below.refl _ _⟩)
  go_enter Try.func7, Try.ntmps7
  go_wp2_with (go_at_call 19; refine (zzSurv_any a cap p _ hp hpf).mono ?_; rintro e w1 ⟨⟨r, rfl⟩, e1⟩; cases e1)
  · go_ret
    exact ⟨rfl, Below.refl _ _⟩
  refine (protoBytes_any a cap p 0 _ hp hpf (by omega) (by omega)).mono ?_
  rintro e w2 ⟨⟨n, rfl, hn0, hn1, hn2⟩, e2⟩
  cases e2
  by_cases hnb : 1048576 < n
  · go_wp2
    go_ret
    exact ⟨rfl, Below.refl _ _⟩
  obtain ⟨_, hps⟩ := hn2 (by omega)
  clear hn2
  go_wp2_with fail
  refine (toGroup_any a cap p _ hp hps hna).mono ?_
  rintro e w1 ⟨ga, gc, rfl, hgc, hgc2, hga, hb1⟩
  go_wp2_with fail
  refine (zzCopy_any ga gc p w1 (hga.listAt.mono (Nat.zero_le _)) hps).mono ?_
  rintro e w2 ⟨A, C, rfl, ho2, hA, hb2⟩
  have hbw1 := hb1.size
  have hb12 := hb1.trans (hb2.mono hbw1)
  have src2 := SrcW.ofOwn hga hps hb2
  have Hna := hide hna
  clear hga hna hA
  have hne : ((p.len : Int) != (p.len : Int)) = false := by simp
  go_wp2_with fail
  go_loopw [5, 23] (fun _ c wx => ∃ k : Nat, k ≤ p.len ∧ c = .int .i64 k ∧ SrcW w.heap.size w1.heap.size wx ga p.len p.ml k ∧ Mid w.heap.size w1.heap.size w2 wx) (fun _ c _ => p.len - (intOf c).toNat)
  case atStart => exact ⟨0, Nat.zero_le _, rfl, src2, Mid.refl _ _ _⟩
  case round =>
    obtain ⟨k, hk, rfl, hsk, hmk⟩ := hrel
    clear src2
    by_cases hlt : k < p.len
    · have x2 := (hps.2 k hlt).2
      have hi1 : (k : Int) < (p.len : Int) := by omega
      rcases hsk with hsk | ⟨gb, Ag, Cg, rfl, hlo, hhi, hblk, hok⟩
      · omega
      have g2 : wr.cell? ⟨gb, k * 2 + 1, none⟩ = some (.slice (Ag k) (p.ml k) (Cg k)) := by obtain ⟨nm, bs, _, ho⟩ := hok; exact (ho.2 k hlt).2.1
      have Hps := hide hps
      clear hps
      have Hblk := hide hblk
      clear hblk
      go_wp2_with fail
      go_loopw [6, 32] (fun _ c wx => ∃ j : Nat, j ≤ p.ml k ∧ c = .int .i64 j ∧ OwnW wx gb p.len p.ml Ag Cg k ∧ Mid w.heap.size w1.heap.size w2 wx) (fun _ c _ => p.ml k - (intOf c).toNat)
      case atStart => exact ⟨0, Nat.zero_le _, rfl, hok, hmk⟩
      case round =>
        obtain ⟨j, hj, rfl, hoj, hmj⟩ := hrel
        clear hok hmk g2
        by_cases hjl : j < p.ml k
        · obtain ⟨mb, hAk, hmb, hmhi⟩ : ∃ mb, Ag k = some ⟨mb, 0, none⟩ ∧ gb < mb ∧ mb < w1.heap.size := by
            rcases unhide Hblk k hlt with h | h
            · omega
            · exact h
          obtain ⟨z, e1, e2, e3⟩ : ∃ z, wr.cell? ⟨gb, k * 2 + 1, none⟩ = some (.slice (Ag k) (p.ml k) (Cg k)) ∧ wr.cell? ⟨mb, j, none⟩ = some (.int .u8 z) ∧ wr.frozen? ⟨mb, j, none⟩ = false := by
            obtain ⟨nm, bs, _, ho⟩ := hoj
            obtain ⟨_, y2, _, _, y5⟩ := ho.2 k hlt
            rcases y5 with y5 | ⟨mb', hA, h1, h2, h3⟩
            · exact absurd hjl (by show ¬ j < p.ml k; have : p.ml k = 0 := y5; omega)
            · rw [hAk] at hA
              cases hA
              exact ⟨_, y2, (h3 j hjl).1, (h3 j hjl).2⟩
          rw [hAk] at e1
          have hne1 : mb ≠ gb := by omega
          have hne2 : gb ≠ mb := by omega
          have hj1 : (j : Int) < (p.ml k : Int) := by omega
          have Hoj := hide hoj
          clear hoj hAk
          go_wp2
          go_region
          go_wp2
          go_roundw
          case rel => exact ⟨j + 1, by omega, by go_num, (unhide Hoj).byte hmb _, (hmj.setCell (x := ⟨mb, j, none⟩) (by show w.heap.size ≤ mb; omega) (by show mb < w1.heap.size; omega) _).drew⟩
          case measure => simp [intOf]; omega
        · obtain ⟨s, e1, e2, e3⟩ : ∃ s, wr.cell? ⟨gb, k * 2, none⟩ = some (.string s) ∧ s.size ≤ 1048576 ∧ wr.frozen? ⟨gb, k * 2, none⟩ = false := by
            obtain ⟨nm, bs, hn, ho⟩ := hoj
            exact ⟨_, (ho.2 k hlt).1, hn k (Nat.le_refl _) hlt, (ho.2 k hlt).2.2.1⟩
          have Hoj := hide hoj
          clear hoj
          go_wp2
          go_roundw
          case rel => exact ⟨k + 1, by omega, by go_num, .inr ⟨gb, Ag, Cg, rfl, hlo, hhi, unhide Hblk, (unhide Hoj).name _⟩, hmj.setCell (x := ⟨gb, k * 2, none⟩) hlo hhi _⟩
          case measure => simp [intOf]; omega
    · have ho4 : OwnL wr w1.heap.size p A C := ho2.mid hmk (Nat.le_refl _)
      have hb4 : Below w.heap.size w wr := hb12.trans hmk.below
      have lak : ListAt 0 wr a p := hp.below hb4 rfl
      clear hsk hmk ho2 hb2 hb12
      go_wp2_with fail
      generalize wr = w4 at *
      go_loopw [7, 74] (fun _ c wx => ∃ k m : Nat, k ≤ p.len ∧ c = .int .i64 k ∧ Hid (wx = w4.drewN m)) (fun _ c _ => p.len - (intOf c).toNat)
      case atStart => exact ⟨0, 0, Nat.zero_le _, rfl, hide rfl⟩
      case round =>
        obtain ⟨k, m, hk, rfl, hwr⟩ := hrel
        have hor : OwnL wr w1.heap.size p A C := by rw [unhide hwr]; exact ho4
        have lar : ListAt 0 wr a p := by rw [unhide hwr]; exact lak
        have hbr : Below w.heap.size w wr := by rw [unhide hwr]; exact below_drewN hb4 _
        clear lak ho4 hb4
        by_cases hlt : k < p.len
        · rcases lar with lar | ⟨b, off, rfl, _, _, A', C', hc⟩
          · omega
          obtain ⟨c1, c2, c3⟩ := hc k hlt
          obtain ⟨d1, d2, _, _, d5⟩ := hor.2 k hlt
          have x2 := (hps.2 k hlt).2
          have Hs := hide (fun n => sameBytes_twice (A k) (A' k) (p.ml k) (C k) (C' k) (p.bs k) (wr.drewN n) (d5.bytesAt.mono (Nat.zero_le _)) c3 (by omega))
          have hn1 : ((p.nm k).toList == (p.nm k).toList) = true := by simp
          have hi1 : (k : Int) < (p.len : Int) := by omega
          clear hc c3 d5 hor hps hbr
          go_wp2
          go_quiet ((go_at_call 14; exact Calls.quiet_of (unhide Hs _)))
          go_wp2
          go_roundw
          case rel => exact ⟨k + 1, m + nq, by omega, by go_num, hide (by rw [unhide hwr, World.drewN_drewN])⟩
          case measure => simp [intOf]; omega
        · have hrefl : p.same p = true := (PV.same_iff _ _).2 (PV.Same.refl _)
          have Hr := hide hrefl
          clear hrefl
          go_wp2_with fail
          refine (toGroup_any a cap p wr lar hps (unhide Hna)).mono ?_
          rintro e w5 ⟨gt, gtc, rfl, _, _, hgt, b5⟩
          have lo5 := (hor.listAt.mono (Nat.zero_le _)).below b5 rfl
          have hb5 := hbr.trans (b5.mono hbr.size)
          go_wp2_with fail
          refine (zzSame_any (some ⟨w1.heap.size, 0, none⟩) gt p.len gtc p p w5 lo5 (hgt.listAt.mono (Nat.zero_le _)) hpo hpo (by omega) (by omega)).mono ?_
          rintro e w6 ⟨rfl, n6, e6⟩
          have hb6 : Below w.heap.size w w6 := by rw [e6]; exact below_drewN hb5 _
          clear e6
          rw [unhide Hr]
          go_wp2
          go_ret
          exact ⟨rfl, hb6⟩
end Go.Proofs.Qxb6621669a
