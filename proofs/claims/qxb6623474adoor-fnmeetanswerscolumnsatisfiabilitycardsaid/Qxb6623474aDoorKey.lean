/-
  types.Key (13) at a row of one number: "i", the number in decimal, ";".
-/
import Derived.Test.Qxb6623474aDoorBuilder
import Derived.Lib.AppendIntMem
import Derived.Lib.ItoaLen
import Derived.BigCall
set_option linter.unusedVariables false
namespace Go.Proofs.Qxb6623474aDoor
open Go.RowKit

def keyBytes (n : Int) : List UInt8 := 105 :: (Lib.itoa n ++ [59])
def keyS (n : Int) : ByteArray := ⟨(keyBytes n).toArray⟩

/-- A number (a types.Value that is no NULL and of an integer type) in four cells. -/
def ValAt (w : World) (b o : Nat) (ty n : Int) (s : ByteArray) : Prop :=
  w.cell? ⟨b, o, none⟩ = some (.int .u8 ty) ∧ w.cell? ⟨b, o + 1, none⟩ = some (.bool false) ∧ w.cell? ⟨b, o + 2, none⟩ = some (.int .i64 n) ∧ w.cell? ⟨b, o + 3, none⟩ = some (.string s)

abbrev Tab (B : Nat) (w : World) : Prop := Lib.TabBelow Tryd.prog B w "internal/strconv.uint64pow10" .u64 Lib.pow10Tab

theorem Tab.below {B : Nat} {w w' : World} (h : Tab B w) (hb : Below B w w') : Tab B w' := fun w'' hb' => h w'' (hb.trans hb')

theorem builder_grow {T e : TypeId} {B b : Nat} {p : Value} {bs : List Value} {w : World} (h : Lib.BuilderAtF T e B b p bs w) (k : Nat) (os : Array Obj) : Lib.BuilderAtF T e B b p bs (Sort.grow (w.drewN k) os) := by
  obtain ⟨hB, v, hb, hown, hne⟩ := h
  refine ⟨hB, v, (Lib.heap_grow_old w k os b (Array.getElem?_eq_some_iff.1 hb).1).trans hb, ⟨hown.1, ?_⟩, hne⟩
  rcases hown.2 with hn | ⟨g, cap, cur, fz, hv, hbg, hg, rest⟩
  · exact .inl hn
  · exact .inr ⟨g, cap, cur, fz, hv, hbg, (Lib.heap_grow_old w k os g (Array.getElem?_eq_some_iff.1 hg).1).trans hg, rest⟩

set_option maxRecDepth 100000 in
theorem held_walk (ty : Int) (w : World) (hty : ty = 2 ∨ ty = 3) : Calls Tryd.prog 18 #[.int .u8 ty] w fun e w' => e = .returned (.bool false) ∧ w' = w := by
  rcases hty with rfl | rfl <;>
  · go_enter Tryd.func18, Tryd.ntmps18
    go_wp2
    go_ret
    exact ⟨rfl, rfl⟩

set_option maxHeartbeats 2000000 in
set_option maxRecDepth 100000 in
theorem key_walk (B rb : Nat) (ty n : Int) (s : ByteArray) (w : World) (hv : ValAt w rb 0 ty n s) (hty : ty = 2 ∨ ty = 3) (h0 : -9223372036854775808 ≤ n) (h1 : n ≤ 9223372036854775807) (hB : B ≤ w.heap.size) (htab : Tab B w) :
    Calls Tryd.prog 13 #[.slice (some ⟨rb, 0, none⟩) 1 1] w fun e w' => e = .returned (.string (keyS n)) ∧ Below w.heap.size w w' := by
  obtain ⟨v0, v1, v2, v3⟩ := hv
  have hI : Lib.IsBuilderF 69 5 w.heap.size w.heap.size [] (w.alloc (.cells #[.pointer none, .slice none 0 0] 69)) := Lib.IsBuilderF.of (Lib.fresh_isBuilder 69 5 w)
  have b0 : Below w.heap.size w (w.alloc (.cells #[.pointer none, .slice none 0 0] 69)) := (Below.refl _ w).alloc (Nat.le_refl _) _
  have rlt : rb < w.heap.size := World.block_lt_of_cell? w _ v0
  have tab0 := htab.below (b0.mono hB)
  obtain ⟨N, hN⟩ : ∃ N, N = w.heap.size := ⟨_, rfl⟩
  rw [← hN] at hI b0 rlt
  have s0 : (w.alloc (.cells #[.pointer none, .slice none 0 0] 69)).heap.size = N + 1 := by simp [hN]
  have u0 := (b0.cell (p := ⟨rb, 0, none⟩) rlt).trans v0
  have u1 := (b0.cell (p := ⟨rb, 1, none⟩) rlt).trans v1
  have u2 := (b0.cell (p := ⟨rb, 2, none⟩) rlt).trans v2
  have u3 := (b0.cell (p := ⟨rb, 3, none⟩) rlt).trans v3
  go_enter Tryd.func13, Tryd.ntmps13
  go_wp2
  rw [← hN] at hB
  rw [← hN]
  generalize w.alloc (.cells #[.pointer none, .slice none 0 0] 69) = W0 at *
  have hle : w.heap.size ≤ N := by omega
  clear v0 v1 v2 v3 htab hN
  refine wp_loop_rounds 2 ?_
  rw [rounds_succ]
  have t1 : Below N W0 (W0.alloc (.cells #[.int .u8 ty, .bool false, .int .i64 n, .string s] 41)) := (Below.refl _ _).alloc (by omega) _
  have hV : (W0.alloc (.cells #[.int .u8 ty, .bool false, .int .i64 n, .string s] 41)).heap[N + 1]? = some (.cells #[.int .u8 ty, .bool false, .int .i64 n, .string s] 41) := by rw [← s0]; exact (MapKept.heap_alloc W0 _).1
  go_wp2_with (first
    | (go_at_call 18; refine (held_walk ty _ hty).mono ?_; rintro e w' ⟨rfl, rfl⟩)
    | (go_at_call 20; refine (writeByte_k N N [] 105 _ (hI.alloc _) (by simp) (by have := t1.size; omega)).mono ?_))
  rintro e w1 ⟨rfl, i1, b1, k1⟩
  have hV1 := k1 (N + 1) _ hV (by simp) (fun c fz hh => by cases hh)
  have e2 : w1.cell? ⟨N + 1, 2, none⟩ = some (.int .i64 n) := by rw [Lib.cell_of_heap hV1]; rfl
  have tab1 := (tab0.below (t1.mono hB)).below (b1.mono hB)
  have z1 : N ≤ w1.heap.size := by have := t1.size; have := b1.size; omega
  go_wp2_with (first
    | (go_at_call 23; refine (Tryd.strconv_FormatInt_10 n h0 h1 _ tab1.here).mono ?_))
  rintro e w2 ⟨rfl, k2, os2, rfl⟩
  have i2 := builder_grow i1 k2 os2
  have b2 := Lib.below_grow N w1 z1 k2 os2
  generalize Sort.grow (w1.drewN k2) os2 = W2 at *
  have hl := Lib.itoa_length_le n h0 h1
  go_wp2_with (first
    | (go_at_call 21; refine (writeString_k N N _ ⟨(Lib.itoa n).toArray⟩ _ (.inr i2) (by simp [ByteArray.size]; omega) (by have := b2.size; omega)).mono ?_))
  rintro e w3 ⟨rfl, i3, b3, k3⟩
  go_wp2_with (first
    | (go_at_call 20; refine (writeByte_k N N _ 59 _ (.inr i3) (by simp [ByteArray.size, Lib.strCells_length]; omega) (by have := b2.size; have := b3.size; omega)).mono ?_))
  rintro e w4 ⟨rfl, i4, b4, k4⟩
  go_wp2
  rw [rounds_succ]
  have i4' : Lib.IsBuilderF 69 5 N N (Lib.byteCells (keyBytes n)) w4 := .inr (by
    have e : [] ++ [Value.int .u8 105] ++ Lib.strCells ⟨(Lib.itoa n).toArray⟩ ++ [Value.int .u8 59] = Lib.byteCells (keyBytes n) := by
      rw [Lib.strCells_toArray]; simp [Lib.byteCells, keyBytes]
    rw [← e]; exact i4)
  go_wp2_with (first
    | (go_at_call 24; refine (Tryd.Builder_String_any_k N N (keyBytes n) _ i4' (by have := b2.size; have := b3.size; have := b4.size; omega)).mono ?_))
  rintro e w5 ⟨rfl, _, b5, _⟩
  go_wp2
  go_ret
  exact ⟨rfl, (b0.trans (t1.trans (b1.trans (b2.trans (b3.trans (b4.trans b5)))))).mono hle⟩

end Go.Proofs.Qxb6623474aDoor
