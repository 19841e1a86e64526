/-
  FnCopyProtocolsFreshEqual: the walk, out of the contracts.
-/
import Derived.Test.Qxb6621669aWrite
import Derived.Test.Qxb6621669aSame
import Derived.Test.Qxb6621669aZz
import Derived.Test.Qxb6621669aProto
import Derived.Test.Qxb6621669aEncLaw
import Derived.WalkSmall
set_option linter.unusedVariables false
namespace Go.Proofs.Qxb6621669a
open Go.RowKit

/-- The same bytes twice. -/
theorem sameBytes_same (a b : Option Addr) (len cap cap' : Nat) (z : Nat → Int) (w : World) (ha : BytesAt 0 w a len z) (hb : BytesAt 0 w b len z) (hl : len ≤ 9223372036854775807) :
    Calls Try.prog 14 #[.slice a len cap, .slice b len cap'] w fun e w' => e = .returned (.bool true) ∧ ∃ n, w' = w.drewN n := by
  have h := sameBytes_any a b len len cap cap' z z w ha hb hl hl
  rwa [show eqB len len z z = true from (eqB_iff _ _ _ _).2 ⟨rfl, fun _ _ => rfl⟩] at h

set_option maxHeartbeats 4000000 in
theorem fresh_walk (a : Option Addr) (cap : Nat) (p : PV) (w : World) (hp : ListAt 0 w a p) (hpf : p.fits) (hpo : p.ok) (hna : a = none → p.len = 0) :
    Calls Try.prog 6 #[.slice a p.len cap] w fun e w' => e = .returned (.bool true) ∧ Below w.heap.size w w' := by
  have hpf1 := hpf.1
  have q28 := fun (w : World) (a : Option Addr) (n c n' c' : Nat) => Lib.run_eql_slice_nil (P := Try.prog) w 28 38 a n c n' c' Try.underlying28
  have q32 := fun (w : World) (a : Option Addr) (n c n' c' : Nat) => Lib.run_eql_slice_nil (P := Try.prog) w 32 5 a n c n' c' Try.underlying32
  by_cases h1 : (65536 : Int) < (p.len : Int)
  · go_enter Try.func6, Try.ntmps6
    go_wp2_with (go_at_call 17; refine (zzFresh_any a cap p _ hp hpf).mono ?_; rintro e w1 ⟨⟨r, rfl⟩, e1⟩; cases e1)
    all_goals (go_ret; exact ⟨rfl, Below.refl _ _⟩)
  go_enter Try.func6, Try.ntmps6
  go_wp2_with (go_at_call 17; refine (zzFresh_any a cap p _ hp hpf).mono ?_; rintro e w1 ⟨⟨r, rfl⟩, e1⟩; cases e1)
  · go_ret
    exact ⟨rfl, Below.refl _ _⟩
  refine (protoBytes_any a cap p 0 _ hp hpf (by omega) (by omega)).mono ?_
  rintro e w2 ⟨⟨n, rfl, hn0, hn1, hn2⟩, e2⟩
  cases e2
  by_cases hnb : 1048576 < n
  · go_wp2
    go_ret
    exact ⟨rfl, Below.refl _ _⟩
  obtain ⟨_, hps⟩ := hn2 (by omega)
  clear hn2
  go_wp2_with fail
  refine (toGroup_any a cap p _ hp hps hna).mono ?_
  rintro e w1 ⟨ga, gc, rfl, hgc, hgc2, hga, hb1⟩
  have lg1 : ListAt 0 w1 ga p := hga.listAt.mono (Nat.zero_le _)
  have la1 := hp.below hb1 rfl
  go_wp2_with fail
  refine (zzCopy_any ga gc p w1 lg1 hps).mono ?_
  rintro e w2 ⟨A, C, rfl, ho2, hA, hb2⟩
  have lg2 := lg1.below hb2 rfl
  have la2 := la1.below hb2 rfl
  have hbw1 := hb1.size
  have hb12 := hb1.trans (hb2.mono hbw1)
  clear hga la1 hna
  have Hlg1 := hide lg1
  clear lg1
  have hne : ((p.len : Int) != (p.len : Int)) = false := by simp
  go_wp2_with fail
  go_loopw [5, 33] (fun _ c wr => ∃ k m : Nat, k ≤ p.len ∧ c = .int .i64 k ∧ Hid (wr = w2.drewN m)) (fun _ c _ => p.len - (intOf c).toNat)
  case atStart => exact ⟨0, 0, Nat.zero_le _, rfl, hide rfl⟩
  case round =>
    obtain ⟨k, m, hk, rfl, hwr⟩ := hrel
    have hor : OwnL wr w1.heap.size p A C := by rw [unhide hwr]; exact ho2
    have lar : ListAt 0 wr a p := by rw [unhide hwr]; exact la2
    have lgr : ListAt 0 wr ga p := by rw [unhide hwr]; exact lg2
    have hbr : Below w.heap.size w wr := by rw [unhide hwr]; exact below_drewN hb12 _
    by_cases hlt : k < p.len
    · obtain ⟨x, hx⟩ := Option.isSome_iff_exists.1 (hA k hlt)
      rcases lar with lar | ⟨b, off, rfl, _, _, A', C', hc⟩
      · omega
      obtain ⟨c1, c2, c3⟩ := hc k hlt
      obtain ⟨d1, d2, _, _, d5⟩ := hor.2 k hlt
      have x2 := (hps.2 k hlt).2
      have Hs := hide (fun n => sameBytes_same (A k) (A' k) (p.ml k) (C k) (C' k) (p.bs k) (wr.drewN n) (d5.bytesAt.mono (Nat.zero_le _)) c3 (by omega))
      rw [hx] at d2 Hs
      have hn1 : ((p.nm k).toList == (p.nm k).toList) = true := by simp
      have hi1 : (k : Int) < (p.len : Int) := by omega
      clear hc c3 d5 hor lgr hbr ho2 lg2 la2 hps
      go_wp2
      go_quiet ((go_at_call 14; exact Calls.quiet_of (unhide Hs _)))
      go_wp2
      go_roundw
      case rel => exact ⟨k + 1, m + nq, by omega, by go_num, hide (by rw [unhide hwr, World.drewN_drewN])⟩
      case measure => simp [intOf]; omega
    · have hrefl : p.same p = true := (PV.same_iff _ _).2 (PV.Same.refl _)
      have Hr := hide hrefl
      clear hrefl
      go_wp2_with fail
      refine (zzSame_any (some ⟨w1.heap.size, 0, none⟩) ga p.len gc p p wr (hor.listAt.mono (Nat.zero_le _)) lgr hpo hpo (by omega) (by omega)).mono ?_
      rintro e w3 ⟨rfl, n3, e3⟩
      rw [unhide Hr]
      have ho3 : OwnW w3 w1.heap.size p.len p.ml A C 0 := by rw [e3]; exact (hor.drewN _).toW hps
      have hb3 : Below w1.heap.size w1 w3 := by rw [e3, unhide hwr]; exact below_drewN (below_drewN hb2 _) _
      clear e3 hor lar lgr hbr ho2 lg2 la2 hb2 hb12 hlt hwr hA
      go_wp2_with fail
      go_loopw [6, 76] (fun _ c wx => ∃ k : Nat, k ≤ p.len ∧ c = .int .i64 k ∧ OwnW wx w1.heap.size p.len p.ml A C k ∧ Below w1.heap.size w1 wx) (fun _ c _ => p.len - (intOf c).toNat)
      case atStart => exact ⟨0, Nat.zero_le _, rfl, ho3, hb3⟩
      case round =>
        obtain ⟨k, hk, rfl, hok, hbk⟩ := hrel
        clear ho3 hb3
        by_cases hlt : k < p.len
        · have x2 := (hps.2 k hlt).2
          have hi1 : (k : Int) < (p.len : Int) := by omega
          have g2 : wr.cell? ⟨w1.heap.size, k * 2 + 1, none⟩ = some (.slice (A k) (p.ml k) (C k)) := by obtain ⟨nm, bs, _, ho⟩ := hok; exact (ho.2 k hlt).2.1
          have Hps := hide hps
          clear hps
          go_wp2_with fail
          go_loopw [7, 85] (fun _ c wx => ∃ j : Nat, j ≤ p.ml k ∧ c = .int .i64 j ∧ OwnW wx w1.heap.size p.len p.ml A C k ∧ Below w1.heap.size w1 wx) (fun _ c _ => p.ml k - (intOf c).toNat)
          case atStart => exact ⟨0, Nat.zero_le _, rfl, hok, hbk⟩
          case round =>
            obtain ⟨j, hj, rfl, hoj, hbj⟩ := hrel
            clear hok hbk g2
            by_cases hjl : j < p.ml k
            · obtain ⟨mb, z, hAk, hmb, e1, e2, e3⟩ : ∃ mb z, A k = some ⟨mb, 0, none⟩ ∧ w1.heap.size < mb ∧ wr.cell? ⟨w1.heap.size, k * 2 + 1, none⟩ = some (.slice (A k) (p.ml k) (C k)) ∧ wr.cell? ⟨mb, j, none⟩ = some (.int .u8 z) ∧ wr.frozen? ⟨mb, j, none⟩ = false := by
                obtain ⟨nm, bs, _, ho⟩ := hoj
                obtain ⟨_, y2, _, _, y5⟩ := ho.2 k hlt
                rcases y5 with y5 | ⟨mb, hA, h1, h2, h3⟩
                · exact absurd hjl (by show ¬ j < p.ml k; have : p.ml k = 0 := y5; omega)
                · exact ⟨mb, _, hA, h1, y2, (h3 j hjl).1, (h3 j hjl).2⟩
              rw [hAk] at e1
              have hne1 : mb ≠ w1.heap.size := by omega
              have hne2 : w1.heap.size ≠ mb := by omega
              have hj1 : (j : Int) < (p.ml k : Int) := by omega
              have Hoj := hide hoj
              clear hoj hAk
              go_wp2
              go_region
              go_wp2
              go_roundw
              case rel => exact ⟨j + 1, by omega, by go_num, (unhide Hoj).byte hmb _, (hbj.setCell (p := ⟨mb, j, none⟩) (by show w1.heap.size ≤ mb; omega) _).drew⟩
              case measure => simp [intOf]; omega
            · obtain ⟨s, e1, e2, e3⟩ : ∃ s, wr.cell? ⟨w1.heap.size, k * 2, none⟩ = some (.string s) ∧ s.size ≤ 1048576 ∧ wr.frozen? ⟨w1.heap.size, k * 2, none⟩ = false := by
                obtain ⟨nm, bs, hn, ho⟩ := hoj
                exact ⟨_, (ho.2 k hlt).1, hn k (Nat.le_refl _) hlt, (ho.2 k hlt).2.2.1⟩
              have Hoj := hide hoj
              clear hoj
              go_wp2
              go_roundw
              case rel => exact ⟨k + 1, by omega, by go_num, (unhide Hoj).name _, hbj.setCell (Nat.le_refl _) _⟩
              case measure => simp [intOf]; omega
        · have lgk : ListAt 0 wr ga p := (unhide Hlg1).below hbk rfl
          have lak : ListAt 0 wr a p := hp.below (hb1.trans (hbk.mono hbw1)) rfl
          have hb4 := hb1.trans (hbk.mono hbw1)
          clear hok hbk
          go_wp2_with fail
          generalize wr = w4 at *
          go_loopw [8, 118] (fun _ c wx => ∃ k m : Nat, k ≤ p.len ∧ c = .int .i64 k ∧ Hid (wx = w4.drewN m)) (fun _ c _ => p.len - (intOf c).toNat)
          case atStart => exact ⟨0, 0, Nat.zero_le _, rfl, hide rfl⟩
          case round =>
            obtain ⟨k, m, hk, rfl, hwr⟩ := hrel
            have lar : ListAt 0 wr a p := by rw [unhide hwr]; exact lak
            have lgr : ListAt 0 wr ga p := by rw [unhide hwr]; exact lgk
            have hbr : Below w.heap.size w wr := by rw [unhide hwr]; exact below_drewN hb4 _
            clear lak lgk hb4
            by_cases hlt : k < p.len
            · rcases lar with lar | ⟨b, off, rfl, _, _, A', C', hc⟩
              · omega
              rcases lgr with lgr | ⟨b2, off2, rfl, _, _, A2, C2, hc2⟩
              · omega
              obtain ⟨c1, c2, c3⟩ := hc k hlt
              obtain ⟨d1, d2, d3⟩ := hc2 k hlt
              have x2 := (hps.2 k hlt).2
              have Hs := hide (fun n => sameBytes_same (A2 k) (A' k) (p.ml k) (C2 k) (C' k) (p.bs k) (wr.drewN n) d3 c3 (by omega))
              have hn1 : ((p.nm k).toList == (p.nm k).toList) = true := by simp
              have hi1 : (k : Int) < (p.len : Int) := by omega
              clear hc hc2 c3 d3 hps
              go_wp2
              go_quiet ((go_at_call 14; exact Calls.quiet_of (unhide Hs _)))
              go_wp2
              go_roundw
              case rel => exact ⟨k + 1, m + nq, by omega, by go_num, hide (by rw [unhide hwr, World.drewN_drewN])⟩
              case measure => simp [intOf]; omega
            · go_wp2
              go_ret
              exact ⟨rfl, hbr⟩
end Go.Proofs.Qxb6621669a
