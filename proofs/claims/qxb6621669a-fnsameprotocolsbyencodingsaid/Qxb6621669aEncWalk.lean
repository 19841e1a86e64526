/-
  FnSameProtocolsByEncoding: the walk, out of the contracts.
-/
import Derived.Test.Qxb6621669aGroup
import Derived.Test.Qxb6621669aSame
import Derived.Test.Qxb6621669aZz
import Derived.Test.Qxb6621669aProto
import Derived.Test.Qxb6621669aEncLaw
import Derived.WalkSmall
set_option linter.unusedVariables false
namespace Go.Proofs.Qxb6621669a
open Go.RowKit

/-- What a row that the call owns holds, as bytes behind an address. -/
theorem bytes_of_owns {w : World} {base : Nat} {v : Value} {n : Nat} {xs : List Int} (h : w.ownsRow base 5 1 v n (xs.map (Value.int .u8))) :
    ∃ a cap, v = .slice a xs.length cap ∧ BytesAt 0 w a xs.length (fun j => xs.getD j 0) := by
  have hl : n = xs.length := by have := h.1; simp at this; omega
  subst hl
  rcases h.2 with ⟨rfl, h0⟩ | ⟨g, cap, cur, rfl, hb, hg, hnc, hcm, hcs, htake⟩
  · exact ⟨none, 0, by rw [h0], .inl h0⟩
  · refine ⟨_, cap, rfl, .inr ⟨g, 0, rfl, Nat.zero_le _, (Array.getElem?_eq_some_iff.1 hg).1, fun j hj => ?_⟩⟩
    have hcell := h.cells (g := g) rfl j (.int .u8 (xs.getD j 0)) (by simp [List.getD, hj])
    rw [show (⟨g, 0, none⟩ : Addr).add j = ⟨g, 0 + j, none⟩ by unfold Addr.add; split <;> simp_all] at hcell
    exact hcell

theorem eqB_lists (xs ys : List Int) : eqB xs.length ys.length (fun j => xs.getD j 0) (fun j => ys.getD j 0) = true ↔ xs = ys := by
  rw [eqB_iff]
  constructor
  · rintro ⟨h1, h2⟩
    apply List.ext_getElem h1
    intro i hi hi'
    have := h2 i hi
    simpa [List.getD, hi, hi'] using this
  · rintro rfl
    exact ⟨rfl, fun _ _ => rfl⟩

set_option maxHeartbeats 2000000 in
theorem enc_walk (a b : Option Addr) (cap cap' : Nat) (p q : PV) (w : World) (hp : ListAt 0 w a p) (hq : ListAt 0 w b q) (hpf : p.fits) (hqf : q.fits) (hpo : p.ok) (hqo : q.ok)
    (hna : a = none → p.len = 0) (hnb : b = none → q.len = 0) :
    Calls Try.prog 4 #[.slice a p.len cap, .slice b q.len cap'] w fun e w' => e = .returned (.bool true) ∧ Below w.heap.size w w' := by
  have hpf1 := hpf.1
  have hqf1 := hqf.1
  by_cases h1 : (65536 : Int) < (p.len : Int)
  · go_enter Try.func4, Try.ntmps4
    go_wp2_with (go_at_call 10; refine (zzEnc_any a b cap cap' p q _ hp hq hpf hqf).mono ?_; rintro e w1 ⟨⟨r, rfl⟩, e1⟩; cases e1)
    all_goals (go_ret; exact ⟨rfl, Below.refl _ _⟩)
  by_cases h2 : (65536 : Int) < (q.len : Int)
  · go_enter Try.func4, Try.ntmps4
    go_wp2_with (go_at_call 10; refine (zzEnc_any a b cap cap' p q _ hp hq hpf hqf).mono ?_; rintro e w1 ⟨⟨r, rfl⟩, e1⟩; cases e1)
    all_goals (go_ret; exact ⟨rfl, Below.refl _ _⟩)
  go_enter Try.func4, Try.ntmps4
  go_wp2_with (go_at_call 10; refine (zzEnc_any a b cap cap' p q _ hp hq hpf hqf).mono ?_; rintro e w1 ⟨⟨r, rfl⟩, e1⟩; cases e1)
  · go_ret
    exact ⟨rfl, Below.refl _ _⟩
  refine (protoBytes_any a cap p 0 _ hp hpf (by omega) (by omega)).mono ?_
  rintro e w2 ⟨⟨n, rfl, hn0, hn1, hn2⟩, e2⟩
  cases e2
  have Hn2 := hide hn2
  clear hn2
  go_wp2_with fail
  refine (protoBytes_any b cap' q n _ hq hqf (by omega) (by omega)).mono ?_
  rintro e w2 ⟨⟨m, rfl, hm0, hm1, hm2⟩, e2⟩
  cases e2
  by_cases hmb : 1048576 < m
  · go_wp2
    go_ret
    exact ⟨rfl, Below.refl _ _⟩
  obtain ⟨hnn, hqs⟩ := hm2 (by omega)
  obtain ⟨_, hps⟩ := unhide Hn2 (by omega)
  clear hm2 Hn2
  go_wp2_with fail
  refine (toGroup_any a cap p _ hp hps hna).mono ?_
  rintro e w1 ⟨ga, gc, rfl, hgc, hgc2, hga, hb1⟩
  go_wp2_with fail
  refine (toGroup_any b cap' q _ (hq.below hb1 rfl) hqs hnb).mono ?_
  rintro e w2 ⟨gb, gd, rfl, hgd, hgd2, hgb, hb2⟩
  have la : ListAt 0 w2 ga p := (hga.listAt.mono (Nat.zero_le _)).below hb2 rfl
  have lb : ListAt 0 w2 gb q := hgb.listAt.mono (Nat.zero_le _)
  go_wp2_with fail
  refine (zzSame_any ga gb gc gd p q _ la lb hpo hqo (by omega) (by omega)).mono ?_
  rintro e w3 ⟨rfl, n3, e3⟩
  have la3 : ListAt 0 w3 ga p := by rw [e3]; exact la
  have lb3 : ListAt 0 w3 gb q := by rw [e3]; exact lb
  have hb3 : Below w.heap.size w w3 := by rw [e3]; exact below_drewN (hb1.trans (hb2.mono hb1.size)) _
  clear e3 la lb hga hgb hb1 hb2
  go_wp2_with fail
  refine (encode_any a cap p w3 (hp.below hb3 rfl) hps).mono ?_
  rintro e w4 ⟨va, rfl, oa4, b34⟩
  have hb4 := hb3.trans (b34.mono hb3.size)
  have la4 := la3.below b34 rfl
  have lb4 := lb3.below b34 rfl
  clear la3 lb3
  obtain ⟨ea, eca, hva, bya⟩ := bytes_of_owns oa4
  subst hva
  go_wp2_with fail
  refine (encode_any b cap' q w4 (hq.below hb4 rfl) hqs).mono ?_
  rintro e w5 ⟨vb, rfl, ob5, b45⟩
  have hb5 := hb4.trans (b45.mono hb4.size)
  have la5 := la4.below b45 rfl
  have lb5 := lb4.below b45 rfl
  have bya5 := bya.below b45 rfl
  obtain ⟨eb, ecb, hvb, byb⟩ := bytes_of_owns ob5
  subst hvb
  clear la4 lb4 oa4 ob5 bya
  have hle := encTo_length hps p.len (Nat.le_refl _)
  have hle' := encTo_length hqs q.len (Nat.le_refl _)
  have hlaw := Bool.eq_iff_iff.2 ((eqB_lists (encTo p p.len) (encTo q q.len)).trans ((enc_iff hps hqs).trans (PV.same_iff p q).symm))
  have hsym : q.same p = p.same q := Bool.eq_iff_iff.2 (by rw [PV.same_iff, PV.same_iff]; exact ⟨PV.Same.symm, PV.Same.symm⟩)
  have hrefl : p.same p = true := (PV.same_iff _ _).2 (PV.Same.refl _)
  have Hh := hide (And.intro hsym hrefl)
  clear hsym hrefl
  go_wp2_with fail
  refine (sameBytes_any ea eb _ _ eca ecb _ _ w5 bya5 byb (by omega) (by omega)).mono ?_
  rintro e w6 ⟨rfl, n6, e6⟩
  have la6 : ListAt 0 w6 ga p := by rw [e6]; exact la5
  have lb6 : ListAt 0 w6 gb q := by rw [e6]; exact lb5
  have hb6 : Below w.heap.size w w6 := by rw [e6]; exact below_drewN hb5 _
  clear e6 la5 lb5 hb5 bya5 byb
  rw [hlaw]
  clear hlaw
  go_wp2_with fail
  refine (zzSame_any gb ga gd gc q p w6 lb6 la6 hqo hpo (by omega) (by omega)).mono ?_
  rintro e w7 ⟨rfl, n7, e7⟩
  have la7 : ListAt 0 w7 ga p := by rw [e7]; exact la6
  have hb7 : Below w.heap.size w w7 := by rw [e7]; exact below_drewN hb6 _
  clear e7 la6 lb6 hb6
  rw [(unhide Hh).1]
  go_wp2_with fail
  refine (toGroup_any a cap p w7 (hp.below hb7 rfl) hps hna).mono ?_
  rintro e w8 ⟨gt, gtc, rfl, _, _, hgt, b78⟩
  have la8 := la7.below b78 rfl
  have hb8 := hb7.trans (b78.mono hb7.size)
  go_wp2_with fail
  refine (zzSame_any ga gt gc gtc p p w8 la8 (hgt.listAt.mono (Nat.zero_le _)) hpo hpo (by omega) (by omega)).mono ?_
  rintro e w9 ⟨rfl, n9, e9⟩
  have hb9 : Below w.heap.size w w9 := by rw [e9]; exact below_drewN hb8 _
  clear e9
  rw [(unhide Hh).2]
  go_wp2
  go_ret
  exact ⟨rfl, hb9⟩
end Go.Proofs.Qxb6621669a
