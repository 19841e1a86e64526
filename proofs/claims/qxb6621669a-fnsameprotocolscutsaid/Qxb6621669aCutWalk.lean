/-
  FnSameProtocolsCut: the walk, out of the contracts.
-/
import Derived.Test.Qxb6621669aGroup
import Derived.Test.Qxb6621669aSame
import Derived.Test.Qxb6621669aZz
import Derived.Test.Qxb6621669aProto
import Derived.WalkSmall
import Derived.Deep.RegionHeld3
import Derived.Deep.DrawnRows
set_option linter.unusedVariables false
namespace Go.Proofs.Qxb6621669a
open Go.RowKit
attribute [local go_sem ↓] Go.wp_at_zero Go.wp_at_succ

set_option maxHeartbeats 2000000 in
theorem cut_walk (a b : Option Addr) (cap cap' : Nat) (p q : PV) (i : Int) (w : World) (hp : ListAt 0 w a p) (hq : ListAt 0 w b q) (hpf : p.fits) (hqf : q.fits) (hpo : p.ok) (hqo : q.ok)
    (hna : a = none → p.len = 0) (hnb : b = none → q.len = 0) (hc : p.len ≤ cap) (hc' : q.len ≤ cap') :
    Calls Try.prog 5 #[.slice a p.len cap, .slice b q.len cap', .int .i64 i] w fun e w' => e = .returned (.bool true) ∧ Below w.heap.size w w' := by
  have hpf1 := hpf.1
  have hqf1 := hqf.1
  by_cases h1 : (65536 : Int) < (p.len : Int)
  · go_enter Try.func5, Try.ntmps5
    go_wp2_with (go_at_call 16; refine (zzCut_any a b cap cap' p q i _ hp hq hpf hqf).mono ?_; rintro e w1 ⟨⟨r, rfl⟩, e1⟩; cases e1)
    all_goals (go_ret; exact ⟨rfl, Below.refl _ _⟩)
  by_cases h2 : (65536 : Int) < (q.len : Int)
  · go_enter Try.func5, Try.ntmps5
    go_wp2_with (go_at_call 16; refine (zzCut_any a b cap cap' p q i _ hp hq hpf hqf).mono ?_; rintro e w1 ⟨⟨r, rfl⟩, e1⟩; cases e1)
    all_goals (go_ret; exact ⟨rfl, Below.refl _ _⟩)
  go_enter Try.func5, Try.ntmps5
  go_wp2_with (go_at_call 16; refine (zzCut_any a b cap cap' p q i _ hp hq hpf hqf).mono ?_; rintro e w1 ⟨⟨r, rfl⟩, e1⟩; cases e1)
  · go_ret
    exact ⟨rfl, Below.refl _ _⟩
  refine (protoBytes_any a cap p 0 _ hp hpf (by omega) (by omega)).mono ?_
  rintro e w2 ⟨⟨n, rfl, hn0, hn1, hn2⟩, e2⟩
  cases e2
  have Hn2 := hide hn2
  clear hn2
  go_wp2_with fail
  refine (protoBytes_any b cap' q n _ hq hqf (by omega) (by omega)).mono ?_
  rintro e w2 ⟨⟨m, rfl, hm0, hm1, hm2⟩, e2⟩
  cases e2
  by_cases hmb : 1048576 < m
  · go_wp2
    go_ret
    exact ⟨rfl, Below.refl _ _⟩
  obtain ⟨hnn, hqs⟩ := hm2 (by omega)
  obtain ⟨_, hps⟩ := unhide Hn2 (by omega)
  clear hm2 Hn2
  by_cases hi0 : i < 0
  · go_wp2
    go_ret
    exact ⟨rfl, Below.refl _ _⟩
  by_cases hi1 : (p.len : Int) < i
  · go_wp2
    go_ret
    exact ⟨rfl, Below.refl _ _⟩
  by_cases hi2 : (q.len : Int) < i
  · go_wp2
    go_ret
    exact ⟨rfl, Below.refl _ _⟩
  go_wp2_with fail
  refine (toGroup_any a cap p _ hp hps hna).mono ?_
  rintro e w1 ⟨ga, gc, rfl, hgc, hgc2, hga, hb1⟩
  go_wp2_with fail
  refine (toGroup_any b cap' q _ (hq.below hb1 rfl) hqs hnb).mono ?_
  rintro e w2 ⟨gb, gd, rfl, hgd, hgd2, hgb, hb2⟩
  have la : ListAt 0 w2 ga p := (hga.listAt.mono (Nat.zero_le _)).below hb2 rfl
  have lb : ListAt 0 w2 gb q := hgb.listAt.mono (Nat.zero_le _)
  go_wp2_with fail
  refine (zzSame_any ga gb gc gd p q _ la lb hpo hqo (by omega) (by omega)).mono ?_
  rintro e w3 ⟨rfl, n3, e3⟩
  have la3 : ListAt 0 w3 ga p := by rw [e3]; exact la
  have lb3 : ListAt 0 w3 gb q := by rw [e3]; exact lb
  have hb3 : Below w.heap.size w w3 := by rw [e3]; exact below_drewN (hb1.trans (hb2.mono hb1.size)) _
  clear e3
  obtain ⟨k, rfl⟩ := Int.eq_ofNat_of_zero_le (show 0 ≤ i by omega)
  go_wp2_with fail
  have i0 : (0 : Int) ≤ (k : Int) := by omega
  have i1 : (k : Int) ≤ (gc : Int) := by omega
  have i2 : (k : Int) ≤ (gd : Int) := by omega
  have i3 : (k : Int) ≤ (p.len : Int) := by omega
  have i4 : (k : Int) ≤ (q.len : Int) := by omega
  have k1 : k ≤ p.len := by omega
  have k2 : k ≤ q.len := by omega
  have Hh := hide (fun n => zzSame_any ga gb gc gd (p.head k) (q.head k) (w3.drewN n) (la3.head k1) (lb3.head k2) (PV.ok_head hpo k) (PV.ok_head hqo k) (show k ≤ 65536 by omega) (show k ≤ 65536 by omega))
  go_quiet ((go_at_call 13; exact Calls.quiet_of (unhide Hh _)))
  clear Hh
  have la4 : ListAt 0 (w3.drewN nq) ga p := la3
  have lb4 : ListAt 0 (w3.drewN nq) gb q := lb3
  have hb4 : Below w.heap.size w (w3.drewN nq) := below_drewN hb3 _
  generalize w3.drewN nq = w4 at *
  go_wp2_with fail
  have Ht := hide (fun n => zzSame_any (cutAt ga gc k) (cutAt gb gd k) (gc - k) (gd - k) (p.tail k) (q.tail k) (w4.drewN n) (la4.tail k1 hgc) (lb4.tail k2 hgd) (PV.ok_tail hpo k) (PV.ok_tail hqo k) (show p.len - k ≤ 65536 by omega) (show q.len - k ≤ 65536 by omega))
  go_quiet ((go_at_call 13; exact Calls.quiet_of (unhide Ht _)))
  clear Ht
  have la5 : ListAt 0 (w4.drewN nq) ga p := la4
  have hb5 : Below w.heap.size w (w4.drewN nq) := below_drewN hb4 _
  generalize w4.drewN nq = w5 at *
  have law : p.same q = ((p.head k).same (q.head k) && (p.tail k).same (q.tail k)) := by
    have h := PV.same_cut (p := p) (q := q) k1 k2
    rw [← PV.same_iff, ← PV.same_iff, ← PV.same_iff, ← Bool.and_eq_true] at h
    exact Bool.eq_iff_iff.2 h
  have htt : (p.tail k).same (p.tail k) = true := (PV.same_iff _ _).2 (PV.Same.refl _)
  have lta : ListAt 0 w5.drew (cutAt a cap k) (p.tail k) := (hp.below hb5.drew rfl).tail k1 hc
  have hnt : cutAt a cap k = none → (p.tail k).len = 0 := by
    intro h
    cases a with
    | none => show p.len - k = 0; have := hna rfl; omega
    | some x => unfold cutAt at h; split at h <;> simp at h
  have hst := PV.small_tail hps k
  have hso := PV.ok_tail hpo k
  have hst1 := hst.1
  clear hna hnb hpf hqf hps hqs lb lb3 lb4 la la3 la4 hga hgb hp hq hpo hqo hb1 hb2 hb3 hb4
  generalize (p.head k).same (q.head k) = l at *
  generalize (p.tail k).same (q.tail k) = t at *
  generalize p.same q = wh at *
  subst law
  have la5t : ListAt 0 w5.drew (cutAt ga gc k) (p.tail k) := la5.tail k1 hgc
  clear la5
  have Hnt := hide hnt
  clear hnt
  generalize (if gc = k then ga else Option.map (fun x => x.add (k * 2)) ga) = gak at *
  generalize (if gd = k then gb else Option.map (fun x => x.add (k * 2)) gb) = gbk at *
  unfold cutAt at lta la5t Hnt
  cases l <;> cases t
  all_goals
    go_wp2_with fail
    go_region_held3 (fun w' => Below w.heap.size w w') (first | exact hb5.drew | exact hb5.drew.trans (hb6.mono hb5.size) | exact below_drewN (hb5.drew.trans (hb6.mono hb5.size)) _)
      (first
        | (go_at_call 12; generalize (if cap = k then a else Option.map (fun x => x.add (k * 2)) a) = ak at *; generalize (if gc = k then ga else Option.map (fun x => x.add (k * 2)) ga) = gaj at *; refine (toGroup_any ak (cap - k) (p.tail k) _ lta hst (unhide Hnt)).mono ?_; rintro e w6 ⟨gt, gtc, rfl, _, _, hgt, hb6⟩)
        | (go_at_call 13; refine (zzSame_any gaj gt (gc - k) gtc (p.tail k) (p.tail k) _ (la5t.below hb6 rfl) (hgt.listAt.mono (Nat.zero_le _)) hso hso hst1 hst1).mono ?_; rintro e w7 ⟨rfl, n7, rfl⟩))
    go_wp2
    all_goals
      go_ret
      exact ⟨rfl, below_drewN (hb5.drew.trans (hb6.mono hb5.size)) _⟩
end Go.Proofs.Qxb6621669a
