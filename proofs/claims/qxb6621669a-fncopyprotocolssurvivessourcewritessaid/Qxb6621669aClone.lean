/-
  cloneBytes: the same bytes in a block of its own; nil stays nil.
-/
import Derived.Test.Qxb6621669aRows
import Derived.Test.Qxb6621669aMem
import Derived.WalkKit
import Derived.WalkSpells
import Derived.WalkLawsBesides
import Derived.Deep.OwnRows
import Derived.Lib.SliceRun
import Derived.KernelRfl
namespace Go.Proofs.Qxb6621669a
open Go.RowKit

theorem info5 : (Try.prog.info? 5).map (fun i => (i.zero, i.size, i.bytes)) = some (some (.int .u8 0), 1, 1) := by kernel_rfl

theorem own_of_row {w : World} {b len : Nat} {z : Nat → Int} {lo : Nat} (h : w.rowIs b 5 len fun j => .int .u8 (z j)) (hlo : lo ≤ b) : OwnBytes lo w (some ⟨b, 0, none⟩) len z :=
  .inr ⟨b, rfl, hlo, h.lt, fun _ hj => ⟨h.cell hj, h.frozen _⟩⟩

set_option maxHeartbeats 1000000 in
theorem cloneBytes_any (a : Option Addr) (len cap : Nat) (z : Nat → Int) (w : World) (hp : BytesAt 0 w a len z) (hl : len ≤ 1048576) :
    Calls Try.prog 21 #[.slice a len cap] w fun e w' => ∃ a' cap', e = .returned (.slice a' len cap') ∧ OwnBytes w.heap.size w' a' len z ∧ Below w.heap.size w w' := by
  have q32 := fun (w : World) (a : Option Addr) (n c n' c' : Nat) => Lib.run_eql_slice_nil (P := Try.prog) w 32 5 a n c n' c' Try.underlying32
  have hmk := fun w : World => run_make_row' (P := Try.prog) 32 5 (.int .u8 0) 1 Try.underlying32 info5 rfl .i64 .i64 len (by omega) (by omega) w
  rcases a with _ | x
  · have h0 : len = 0 := by
      rcases hp with h | ⟨b, off, h, _⟩
      · exact h
      · cases h
    subst h0
    go_enter Try.func21, Try.ntmps21
    go_wp2
    go_ret
    exact ⟨none, 0, rfl, .inl rfl, Below.refl _ _⟩
  · go_enter Try.func21, Try.ntmps21
    go_wp2
    go_loopw [4, 12] (fun _ c wr => ∃ k : Nat, k ≤ len ∧ c = .int .i64 k ∧ Below w.heap.size w wr ∧ wr.rowIs w.heap.size 5 len (fun j => .int .u8 (if j < k then z j else 0))) (fun _ c _ => len - (intOf c).toNat)
    case atStart => exact ⟨0, Nat.zero_le _, rfl, (Below.refl _ _).alloc (Nat.le_refl _) _, (World.rowIs_made w _ len 5).congr (fun i _ => by simp)⟩
    case round =>
      obtain ⟨k, hk, rfl, hb, hrow⟩ := hrel
      have HR : Hid (wr.rowIs w.heap.size 5 len (fun j => .int .u8 (if j < k then z j else 0))) := hrow
      by_cases hlt : k < len
      · rcases hp with hp | ⟨b, off, hx, _, hbs, hc⟩
        · omega
        cases hx
        have c1 : wr.cell? ⟨b, off + k, none⟩ = some (.int .u8 (z k)) := by rw [hb.cell hbs]; exact hc k hlt
        have c2 := hrow.cell hlt
        have f2 := hrow.frozen k
        clear hrow hc
        go_wp2
        go_roundw
        case rel =>
          refine ⟨k + 1, by omega, by go_num, hb.setCell (Nat.le_refl _) _, (HR.out.set k _).congr fun j hj => ?_⟩
          by_cases e : j = k
          · subst e; simp
          · simp only [if_neg e]
            by_cases hjk : j < k
            · rw [if_pos hjk, if_pos (by omega)]
            · rw [if_neg hjk, if_neg (by omega)]
        case measure => simp [intOf]; omega
      · go_wp2
        go_ret
        exact ⟨_, _, rfl, own_of_row (HR.out.congr fun j hj => by rw [if_pos (by omega)]) (Nat.le_refl _), hb⟩
end Go.Proofs.Qxb6621669a
