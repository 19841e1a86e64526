/-
  zzBytes_.., addTag, ZZaddTag, zzJoinNonEmpty: contracts.
-/
import Derived.Test.Qxb6623448aRows
import Derived.Test.Qxb6623448aMem
import Derived.WalkKit
import Derived.WalkSpells
import Derived.WalkLawsBesides
import Derived.WalkSmall
import Derived.Laws.BytesArg
import Derived.KernelRfl
set_option linter.unusedVariables false
namespace Go.Proofs.Qxb6623448a
open Go.RowKit

/-- It returned some bool; true only where every value is short. -/
def ZzOk (n : Nat) (V : Nat → ByteArray) (e : Ending) : Prop := ∃ r : Bool, e = .returned (.bool r) ∧ (r = true → ∀ i, i < n → (V i).size ≤ 1048576)

theorem ZzOk.no (n : Nat) (V : Nat → ByteArray) : ZzOk n V (.returned (.bool false)) := ⟨false, rfl, fun h => by cases h⟩

set_option maxHeartbeats 1000000 in
theorem zz_any (s : ByteArray) (a : Option Addr) (n cap : Nat) (V : Nat → ByteArray) (w : World) (hp : StrsAt w a n V) (hs : s.size ≤ 9223372036854775807) (hn : n ≤ 9223372036854775807) (hV : ∀ i, i < n → (V i).size ≤ 9223372036854775807) :
    Calls Try.prog 4 #[.string s, .slice a n cap] w fun e w' => ZzOk n V e ∧ w' = w := by
  by_cases h1 : (1048576 : Int) < (s.size : Int)
  · go_enter Try.func4, Try.ntmps4
    go_wp2
    go_ret
    exact ⟨ZzOk.no _ _, rfl⟩
  by_cases h2 : (1048576 : Int) < (n : Int)
  · go_enter Try.func4, Try.ntmps4
    go_wp2
    all_goals (go_ret; exact ⟨ZzOk.no _ _, rfl⟩)
  by_cases h3 : (1048576 : Int) < (s.size : Int) + (n : Int)
  · go_enter Try.func4, Try.ntmps4
    go_wp2
    all_goals (go_ret; exact ⟨ZzOk.no _ _, rfl⟩)
  go_enter Try.func4, Try.ntmps4
  go_wp2
  go_loop [5, 6] (fun t c => ∃ (k : Nat) (m : Int), k ≤ n ∧ c = .int .i64 k ∧ t = .int .i64 m ∧ 0 ≤ m ∧ m ≤ 1048576 ∧ Hid (∀ i, i < k → (V i).size ≤ 1048576)) (fun _ c => n - (intOf c).toNat)
  case atStart => exact ⟨0, _, Nat.zero_le _, rfl, rfl, by omega, by omega, hide fun i hi => absurd hi (Nat.not_lt_zero _)⟩
  case round =>
    obtain ⟨k, m, hk, rfl, rfl, hm0, hm1, hsm⟩ := hrel
    by_cases hlt : k < n
    · rcases hp with hp | ⟨b1, off, rfl, _, hc⟩
      · omega
      have c1 := hc k hlt
      have x1 := hV k hlt
      clear hc hV
      go_wp2
      iterate 2
        · go_ret
          exact ⟨ZzOk.no _ _, rfl⟩
      · go_round
        case rel =>
          refine ⟨k + 1, _, by omega, by go_num, rfl, by omega, by omega, hide fun i hi => ?_⟩
          by_cases hik : i < k
          · exact unhide hsm i hik
          · have : i = k := by omega
            subst this
            omega
        case measure => simp [intOf]; omega
    · go_wp2
      go_ret
      exact ⟨⟨true, rfl, fun _ i hi => unhide hsm i (by omega)⟩, rfl⟩

theorem empty_iff (v : ByteArray) : v.toList.isEmpty = decide (v.size = 0) := by
  rw [← toList_size]
  cases v.toList <;> simp

theorem grown_one (w : World) (b : Nat) (v : Value) : w.grownBy (w.setCell ⟨b, 0, none⟩ v) (some b) :=
  ⟨rfl, rfl, rfl, by simp [World.setCell], fun k hk hne => Below.heap_setCell _ _ _ _ (fun e => hne (by rw [e]))⟩

set_option maxHeartbeats 1000000 in
theorem addTag_any (b : Nat) (f v : ByteArray) (w : World) (hc : w.cell? ⟨b, 0, none⟩ = some (.string f)) (hf : w.frozen? ⟨b, 0, none⟩ = false) (hfs : f.size ≤ 1048576) (hvs : v.size ≤ 1048576) :
    Calls Try.prog 7 #[.pointer (some ⟨b, 0, none⟩), .string v] w fun e w' => e = .returned (.tuple #[]) ∧ (w'.cell? ⟨b, 0, none⟩ = some (.string (addT f v)) ∧ w'.frozen? ⟨b, 0, none⟩ = false) ∧ w.grownBy w' (some b) := by
  by_cases hv : v.size = 0
  · have e1 : v.toList.isEmpty = true := by rw [empty_iff]; simp [hv]
    have hA := hide (show addT f v = f by simp [addT, hv])
    clear hv
    go_enter Try.func7, Try.ntmps7
    go_wp2
    go_end0
    exact ⟨rfl, by rw [unhide hA]; exact ⟨hc, hf⟩, ⟨rfl, rfl, rfl, Nat.le_refl _, fun _ _ _ => rfl⟩⟩
  · have e1 : v.toList.isEmpty = false := by rw [empty_iff]; simp [hv]
    by_cases hfe : f.size = 0
    · have e2 : f.toList.isEmpty = true := by rw [empty_iff]; simp [hfe]
      have hA := hide (show addT f v = v by simp [addT, hv, hfe])
      clear hv hfe
      go_enter Try.func7, Try.ntmps7
      go_wp2
      go_end0
      exact ⟨rfl, ⟨by rw [unhide hA]; exact World.cell?_setCell_same _ _ _ hc, by rw [World.frozen?_setCell]; exact hf⟩, grown_one _ _ _⟩
    · have e2 : f.toList.isEmpty = false := by rw [empty_iff]; simp [hfe]
      have hA := hide (show addT f v = f ++ (sep ++ v) by simp [addT, hv, hfe])
      clear hv hfe
      go_enter Try.func7, Try.ntmps7
      go_wp2
      go_end0
      exact ⟨rfl, ⟨by rw [unhide hA]; exact World.cell?_setCell_same _ _ _ hc, by rw [World.frozen?_setCell]; exact hf⟩, grown_one _ _ _⟩

set_option maxHeartbeats 400000 in
theorem zzAddTag_any (b : Nat) (f v : ByteArray) (w : World) (hc : w.cell? ⟨b, 0, none⟩ = some (.string f)) (hf : w.frozen? ⟨b, 0, none⟩ = false) (hfs : f.size ≤ 1048576) (hvs : v.size ≤ 1048576) :
    Calls Try.prog 6 #[.pointer (some ⟨b, 0, none⟩), .string v] w fun e w' => e = .returned (.tuple #[]) ∧ (w'.cell? ⟨b, 0, none⟩ = some (.string (addT f v)) ∧ w'.frozen? ⟨b, 0, none⟩ = false) ∧ w.grownBy w' (some b) := by
  go_enter Try.func6, Try.ntmps6
  go_wp2_with (go_at_call 7; refine (addTag_any b f v _ hc hf hfs hvs).mono ?_; rintro e w1 ⟨rfl, h1, h2⟩)
  go_end0
  exact ⟨rfl, h1, h2⟩

theorem info5 : (Try.prog.info? 5).map (fun i => (i.zero, i.size, i.bytes)) = some (some (.int .u8 0), 1, 1) := by kernel_rfl

/-- The three cells that 'append(buf, ' ', '/', ' ')' lays. -/
theorem sep_new (w : World) : ∀ (j : Nat) (u : Value), (Lib.strCells sep)[j]? = some u → (w.alloc (Obj.cells #[.int .u8 32, .int .u8 47, .int .u8 32] 5)).cell? ((⟨w.heap.size, 0, none⟩ : Addr).add j) = some u := by
  intro j u hj
  have e : Lib.strCells sep = [.int .u8 32, .int .u8 47, .int .u8 32] := rfl
  rw [e] at hj
  match j, hj with
  | 0, hj => simp at hj; subst hj; simp [Addr.add]
  | 1, hj => simp at hj; subst hj; simp [Addr.add]
  | 2, hj => simp at hj; subst hj; simp [Addr.add]

/-- What 'string(buf)' reads. -/
theorem run_string_of_owns {w : World} {base : Nat} {v : Value} {n : Nat} {s : ByteArray} (h : w.ownsRow base 5 1 v n (Lib.strCells s)) : (convert 27 9 v).run Try.prog w = .ok (.string s) w := by
  have hn : n = s.size := by have := h.1; rw [Lib.strCells_length] at this; omega
  subst hn
  rcases h.2 with ⟨rfl, h0⟩ | ⟨g, cap, cur, rfl, hb, hg, hnc, hcm, hcs, htake⟩
  · rw [run_convert_bytes_nil w 27 5 Try.underlying27 Try.underlying5 0 0 9 Try.underlying9]
    have : s = ByteArray.empty := ByteArray.ext (Array.eq_empty_of_size_eq_zero h0)
    rw [this]
  · have hr := run_convert_bytes_arg (P := Try.prog) w 27 5 Try.underlying27 Try.underlying5 g 0 s.size cap (s.data.toList.map fun c => (c.toNat : Int)) (by simp) (fun i hi => by
      have hcell := h.cells (g := g) rfl i (.int .u8 ((s.data.toList.map fun c => (c.toNat : Int)).getD i 0)) (by
        have hi' : i < s.data.size := hi
        simp [Lib.strCells, List.getD, Array.getElem?_eq_getElem hi'])
      rwa [show (⟨g, 0, none⟩ : Addr).add i = ⟨g, 0 + i, none⟩ by unfold Addr.add; split <;> simp_all] at hcell) 9 Try.underlying9
    rw [hr]
    congr 2
    apply ByteArray.ext
    apply Array.toList_inj.1
    rw [strOfNums_data, List.map_map]
    conv => rhs; rw [← List.map_id s.data.toList]
    apply List.map_congr_left
    intro c _
    simp

set_option maxHeartbeats 2000000 in
theorem join_any (s : ByteArray) (a : Option Addr) (n cap : Nat) (V : Nat → ByteArray) (w : World) (hp : StrsAt w a n V) (hn : n ≤ 65536) (hF : ∀ k, k ≤ n → (fld s V k).size ≤ 1048576) (hV : ∀ i, i < n → (V i).size ≤ 1048576) :
    Calls Try.prog 5 #[.string s, .slice a n cap] w fun e w' => e = .returned (.string (fld s V n)) ∧ Below w.heap.size w w' := by
  obtain ⟨i0, hi, hz0, hz1, hz2⟩ := info_parts info5
  have HF := hide hF
  have h0 := hF 0 (Nat.zero_le _)
  clear hF
  have h0' : s.size ≤ 1048576 := h0
  clear h0
  by_cases hs : s.size = 0
  · have e1 : s.toList.isEmpty = true := by rw [empty_iff]; simp [hs]
    have HS := hide hs
    clear hs
    go_enter Try.func5, Try.ntmps5
    go_wp2
    go_loopw [5, 6, 7] (fun v sn c wr => ∃ k : Nat, k ≤ n ∧ c = .int .i64 k ∧ sn = .bool (decide (0 < (fld s V k).size)) ∧ wr.ownsRow w.heap.size 5 1 v (fld s V k).size (Lib.strCells (fld s V k)) ∧ Below w.heap.size w wr) (fun _ _ c _ => n - (intOf c).toNat)
    case atStart => exact ⟨0, Nat.zero_le _, rfl, by have := unhide HS; show Value.bool false = Value.bool (decide (0 < s.size)); rw [decide_eq_false (by omega)], by have h0 := unhide HS; have : Lib.strCells s = [] := List.eq_nil_of_length_eq_zero (by rw [Lib.strCells_length]; exact h0); show w.ownsRow w.heap.size 5 1 _ s.size (Lib.strCells s); rw [this, h0]; exact World.ownsRow_nil _ _ _ _, Below.refl _ _⟩
    case round =>
      obtain ⟨k, hk, rfl, rfl, ho, hb⟩ := hrel
      have hsz := hb.size
      by_cases hlt : k < n
      · rcases hp with hp | ⟨b1, off, rfl, hbs, hc⟩
        · omega
        have c1 : wr.cell? ⟨b1, off + k, none⟩ = some (.string (V k)) := by rw [hb.cell hbs]; exact hc k hlt
        have x1 := hV k hlt
        have f1 := unhide HF k hk
        have f2 := unhide HF (k + 1) hlt
        have hfs : fld s V (k + 1) = addT (fld s V k) (V k) := rfl
        clear hc hV
        by_cases hv : (V k).size = 0
        · have e2 : (V k).toList.isEmpty = true := by rw [empty_iff]; simp [hv]
          have HA := hide (show fld s V (k + 1) = fld s V k by rw [hfs]; simp [addT, hv])
          clear hv hfs f2
          go_wp2
          go_roundw
          case rel => exact ⟨k + 1, by omega, by go_num, by rw [unhide HA], by rw [unhide HA]; exact ho, hb⟩
          case measure => simp [intOf]; omega
        · have e2 : (V k).toList.isEmpty = false := by rw [empty_iff]; simp [hv]
          by_cases hf : (fld s V k).size = 0
          · have hd : decide (0 < (fld s V k).size) = false := by simp [hf]
            have HA := hide (show fld s V (k + 1) = V k by rw [hfs]; simp [addT, hv, hf])
            have hnil : Lib.strCells (fld s V k) = [] := List.eq_nil_of_length_eq_zero (by rw [Lib.strCells_length]; exact hf)
            rw [hnil, hf] at ho
            have Hv := hide hv
            clear hv hf hfs f2 hnil
            rw [hd]
            clear hd
            go_wp2_with (at_builtin; refine Lib.wpList_append_own_string _ rfl _ _ 27 9 rfl w.heap.size 5 i0 Try.underlying27 Try.underlying9 hi hz0 hz1 hz2 _ _ _ rfl ho (V k) rfl ?c1 ?c2 (by omega) ?_)
            case c1 => unfold maxLen; omega
            case c2 => omega
            · intro v2 w2 ho2 hg2 _
              go_wp2
              go_roundw
              case rel => exact ⟨k + 1, by omega, by go_num, by rw [unhide HA]; have := unhide Hv; rw [decide_eq_true (by omega)], by rw [unhide HA]; simpa using ho2, hb.grown hg2 hsz (fun j hj => (ho.lt j hj).1)⟩
              case measure => simp [intOf]; omega
          · have hd : decide (0 < (fld s V k).size) = true := by simp; omega
            have HA := hide (show fld s V (k + 1) = fld s V k ++ (sep ++ V k) by rw [hfs]; simp [addT, hv, hf])
            have hsz2 : (fld s V k).size + 3 + (V k).size ≤ 1048576 := by
              rw [unhide HA, ByteArray.size_append, ByteArray.size_append, sep_size] at f2
              omega
            clear hv hf hfs f2
            rw [hd]
            clear hd
            go_wp2_with (first
              | (at_builtin; refine Lib.wpList_append_own_string _ rfl (.tmp 30) (.tmp 31) 27 9 rfl w.heap.size 5 i0 Try.underlying27 Try.underlying9 hi hz0 hz1 hz2 _ _ _ rfl ho3 (V k) rfl ?_ ?_ ?_ ?_; rotate_right; intro v4 w4 ho4 hg4 _)
              | (at_builtin; refine wpList_append_own _ rfl (.tmp 27) (.tmp 28) 27 rfl w.heap.size 5 i0 (.int .u8 0) 1 1 Try.underlying27 hi hz0 hz1 hz2 rfl (by decide) _ _ _ rfl (ho.alloc _) ⟨wr.heap.size, 0, none⟩ 3 3 (Lib.strCells sep) rfl rfl (sep_new _) (Lib.strCells_oneCell _) ?_ ?_ ?_ ?_; rotate_right; intro v3 w3 ho3 hg3 _))
            · go_roundw
              case rel =>
                refine ⟨k + 1, by omega, by go_num, ?_, ?_, ((hb.alloc hsz _).grown hg3 (by simp; omega) (fun j hj => (ho.lt j hj).1)).grown hg4 (by have := hg3.size; simp at this; omega) (fun j hj => (ho3.lt j hj).1)⟩
                · rw [unhide HA, ByteArray.size_append, ByteArray.size_append, sep_size, decide_eq_true (by omega)]
                · rw [unhide HA, strCells_append, strCells_append, ByteArray.size_append, ByteArray.size_append, sep_size]
                  simpa [Nat.add_assoc] using ho4
              case measure => simp [intOf]; omega
            · unfold maxLen; omega
            · omega
            · have := hg3.size
              simp at this
              omega
            · unfold maxLen; omega
            · omega
            · simp; omega
      · have hcv := run_string_of_owns ho
        have ek : k = n := by omega
        subst ek
        go_wp2
        go_ret
        exact ⟨rfl, hb⟩
  · have e1 : s.toList.isEmpty = false := by rw [empty_iff]; simp [hs]
    have HS := hide hs
    clear hs
    go_enter Try.func5, Try.ntmps5
    go_wp2_with (at_builtin; refine Lib.wpList_append_own_string _ rfl _ _ 27 9 rfl w.heap.size 5 i0 Try.underlying27 Try.underlying9 hi hz0 hz1 hz2 _ 0 [] rfl (World.ownsRow_nil _ _ _ _) s rfl ?c1 ?c2 (Nat.le_refl _) ?_)
    case c1 => unfold maxLen; omega
    case c2 => omega
    · intro v1 w1 ho1 hg1 _
      go_wp2
      go_loopw [5, 6, 7] (fun v sn c wr => ∃ k : Nat, k ≤ n ∧ c = .int .i64 k ∧ sn = .bool (decide (0 < (fld s V k).size)) ∧ wr.ownsRow w.heap.size 5 1 v (fld s V k).size (Lib.strCells (fld s V k)) ∧ Below w.heap.size w wr) (fun _ _ c _ => n - (intOf c).toNat)
      case atStart => exact ⟨0, Nat.zero_le _, rfl, by have := unhide HS; show Value.bool true = Value.bool (decide (0 < s.size)); rw [decide_eq_true (by omega)], by show w1.ownsRow w.heap.size 5 1 v1 s.size (Lib.strCells s); simpa using ho1, (Below.refl _ _).grown hg1 (Nat.le_refl _) (fun k hk => by simp [Value.ownBlock] at hk)⟩
      case round =>
        obtain ⟨k, hk, rfl, rfl, ho, hb⟩ := hrel
        have hsz := hb.size
        by_cases hlt : k < n
        · rcases hp with hp | ⟨b1, off, rfl, hbs, hc⟩
          · omega
          have c1 : wr.cell? ⟨b1, off + k, none⟩ = some (.string (V k)) := by rw [hb.cell hbs]; exact hc k hlt
          have x1 := hV k hlt
          have f1 := unhide HF k hk
          have f2 := unhide HF (k + 1) hlt
          have hfs : fld s V (k + 1) = addT (fld s V k) (V k) := rfl
          clear hc hV ho1 hg1
          by_cases hv : (V k).size = 0
          · have e2 : (V k).toList.isEmpty = true := by rw [empty_iff]; simp [hv]
            have HA := hide (show fld s V (k + 1) = fld s V k by rw [hfs]; simp [addT, hv])
            clear hv hfs f2
            go_wp2
            go_roundw
            case rel => exact ⟨k + 1, by omega, by go_num, by rw [unhide HA], by rw [unhide HA]; exact ho, hb⟩
            case measure => simp [intOf]; omega
          · have e2 : (V k).toList.isEmpty = false := by rw [empty_iff]; simp [hv]
            by_cases hf : (fld s V k).size = 0
            · have hd : decide (0 < (fld s V k).size) = false := by simp [hf]
              have HA := hide (show fld s V (k + 1) = V k by rw [hfs]; simp [addT, hv, hf])
              have hnil : Lib.strCells (fld s V k) = [] := List.eq_nil_of_length_eq_zero (by rw [Lib.strCells_length]; exact hf)
              rw [hnil, hf] at ho
              have Hv := hide hv
              clear hv hf hfs f2 hnil
              rw [hd]
              clear hd
              go_wp2_with (at_builtin; refine Lib.wpList_append_own_string _ rfl _ _ 27 9 rfl w.heap.size 5 i0 Try.underlying27 Try.underlying9 hi hz0 hz1 hz2 _ _ _ rfl ho (V k) rfl ?c1 ?c2 (by omega) ?_)
              case c1 => unfold maxLen; omega
              case c2 => omega
              · intro v2 w2 ho2 hg2 _
                go_wp2
                go_roundw
                case rel => exact ⟨k + 1, by omega, by go_num, by rw [unhide HA]; have := unhide Hv; rw [decide_eq_true (by omega)], by rw [unhide HA]; simpa using ho2, hb.grown hg2 hsz (fun j hj => (ho.lt j hj).1)⟩
                case measure => simp [intOf]; omega
            · have hd : decide (0 < (fld s V k).size) = true := by simp; omega
              have HA := hide (show fld s V (k + 1) = fld s V k ++ (sep ++ V k) by rw [hfs]; simp [addT, hv, hf])
              have hsz2 : (fld s V k).size + 3 + (V k).size ≤ 1048576 := by
                rw [unhide HA, ByteArray.size_append, ByteArray.size_append, sep_size] at f2
                omega
              clear hv hf hfs f2
              rw [hd]
              clear hd
              go_wp2_with (first
                | (at_builtin; refine Lib.wpList_append_own_string _ rfl (.tmp 30) (.tmp 31) 27 9 rfl w.heap.size 5 i0 Try.underlying27 Try.underlying9 hi hz0 hz1 hz2 _ _ _ rfl ho3 (V k) rfl ?_ ?_ ?_ ?_; rotate_right; intro v4 w4 ho4 hg4 _)
                | (at_builtin; refine wpList_append_own _ rfl (.tmp 27) (.tmp 28) 27 rfl w.heap.size 5 i0 (.int .u8 0) 1 1 Try.underlying27 hi hz0 hz1 hz2 rfl (by decide) _ _ _ rfl (ho.alloc _) ⟨wr.heap.size, 0, none⟩ 3 3 (Lib.strCells sep) rfl rfl (sep_new _) (Lib.strCells_oneCell _) ?_ ?_ ?_ ?_; rotate_right; intro v3 w3 ho3 hg3 _))
              · go_roundw
                case rel =>
                  refine ⟨k + 1, by omega, by go_num, ?_, ?_, ((hb.alloc hsz _).grown hg3 (by simp; omega) (fun j hj => (ho.lt j hj).1)).grown hg4 (by have := hg3.size; simp at this; omega) (fun j hj => (ho3.lt j hj).1)⟩
                  · rw [unhide HA, ByteArray.size_append, ByteArray.size_append, sep_size, decide_eq_true (by omega)]
                  · rw [unhide HA, strCells_append, strCells_append, ByteArray.size_append, ByteArray.size_append, sep_size]
                    simpa [Nat.add_assoc] using ho4
                case measure => simp [intOf]; omega
              · unfold maxLen; omega
              · omega
              · have := hg3.size
                simp at this
                omega
              · unfold maxLen; omega
              · omega
              · simp; omega
        · have hcv := run_string_of_owns ho
          have ek : k = n := by omega
          subst ek
          go_wp2
          go_ret
          exact ⟨rfl, hb⟩
end Go.Proofs.Qxb6623448a
