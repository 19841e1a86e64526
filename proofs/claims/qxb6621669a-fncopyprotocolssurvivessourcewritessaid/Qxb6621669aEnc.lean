/-
  putLen, encodeProtos: what they write; sameBytes: what it compares.
-/
import Derived.Test.Qxb6621669aClone
import Derived.Deep.QuietTactic
import Derived.BigQuiet
set_option linter.unusedVariables false
namespace Go.Proofs.Qxb6621669a
open Go.RowKit

/-- m bytes of n, the least first. -/
def le (n : Nat) : Nat → List Int
  | 0 => []
  | m + 1 => ((n % 256 : Nat) : Int) :: le (n / 256) m

theorem le_length (m : Nat) : ∀ n, (le n m).length = m := by
  induction m with
  | zero => intro n; rfl
  | succ m ih => intro n; simp [le, ih]

/-- The one new cell that 'append(dst, x)' lays for x. -/
theorem one_new (w : World) {x y : Value} (h : x = y) : ∀ (j : Nat) (u : Value), [y][j]? = some u → (w.alloc (Obj.cells #[x] 5)).cell? ((⟨w.heap.size, 0, none⟩ : Addr).add j) = some u := by
  intro j u hj
  match j, hj with
  | 0, hj => simp at hj; subst hj; subst h; simp [Addr.add]

set_option maxHeartbeats 1000000 in
theorem putLen_any (base cnt n : Nat) (v : Value) (xs : List Int) (w : World) (hb : base ≤ w.heap.size) (hown : w.ownsRow base 5 1 v cnt (xs.map (Value.int .u8))) (hc : cnt ≤ 1099511627776) (hn : n ≤ 1048576) :
    Calls Try.prog 23 #[v, .int .i64 n] w fun e w' => ∃ v', e = .returned v' ∧ w'.ownsRow base 5 1 v' (cnt + 8) ((xs ++ le n 8).map (Value.int .u8)) ∧ Below base w w' := by
  obtain ⟨i0, hi, hz0, hz1, hz2⟩ := info_parts info5
  go_enter Try.func23, Try.ntmps23
  go_wp2
  go_loopw [0, 5, 6] (fun v u c wr => ∃ (k m : Nat) (ys : List Int), k ≤ 8 ∧ c = .int .i64 k ∧ u = .int .u64 m ∧ m ≤ 1048576 ∧ ys ++ le m (8 - k) = le n 8 ∧ wr.ownsRow base 5 1 v (cnt + k) ((xs ++ ys).map (Value.int .u8)) ∧ Below base w wr) (fun _ _ c _ => 8 - (intOf c).toNat)
  case atStart => exact ⟨0, n, [], by omega, rfl, by go_num, by omega, rfl, by simpa using hown, Below.refl _ _⟩
  case round =>
    rename_i vd vu vc
    obtain ⟨k, m, ys, hk, rfl, rfl, hm, hys, ho, hbl⟩ := hrel
    have HY := hide hys
    clear hys hown
    have hsz := hbl.size
    by_cases hlt : k < 8
    · go_wp2_with (at_builtin; refine wpList_append_own _ rfl _ _ 32 rfl base 5 i0 (.int .u8 0) 1 1 Try.underlying32 hi hz0 hz1 hz2 rfl (by decide) _ _ _ rfl (ho.alloc _) ⟨wr.heap.size, 0, none⟩ 1 1 [.int .u8 ((m % 256 : Nat) : Int)] rfl rfl ?c1 ?c2 ?c3 ?c4 ?c5 ?_)
      case c1 => exact one_new _ (by simp)
      case c2 => intro u hu; simp at hu; subst hu; rfl
      case c3 => unfold maxLen; omega
      case c4 => omega
      case c5 => simp; omega
      · intro v' w1 ho' hgr _
        clear hi hz0 hz1 hz2
        go_wp2
        go_roundw
        case rel =>
          refine ⟨k + 1, m / 256, ys ++ [((m % 256 : Nat) : Int)], by omega, by go_num, by go_num, by omega, ?_, ?_, (hbl.alloc (by omega) _).grown hgr (by simp; omega) (fun j hj => (ho.lt j hj).1)⟩
          · rw [← unhide HY, show 8 - k = (8 - (k + 1)) + 1 by omega, le]
            simp
          · simpa [Nat.add_assoc] using ho'
        case measure => simp [intOf]; omega
    · have e : k = 8 := by omega
      go_wp2
      go_ret
      have h8 := unhide HY
      subst e
      simp [le] at h8
      subst h8
      exact ⟨_, rfl, ho, hbl⟩

/-- A string's bytes; so many bytes of a row. -/
def nmL (s : ByteArray) : List Int := s.data.toList.map fun c => (c.toNat : Int)
def bytesL (len : Nat) (z : Nat → Int) : List Int := (List.range len).map z

/-- One entry's text; the text of the first k entries. -/
def ent (p : PV) (i : Nat) : List Int := le (p.nm i).size 8 ++ nmL (p.nm i) ++ le (p.ml i) 8 ++ bytesL (p.ml i) (p.bs i)
def encTo (p : PV) (k : Nat) : List Int := le p.len 8 ++ (List.range k).flatMap (ent p)

theorem nmL_length (s : ByteArray) : (nmL s).length = s.size := by unfold nmL; rw [List.length_map, Array.length_toList]; rfl
theorem bytesL_length (len : Nat) (z : Nat → Int) : (bytesL len z).length = len := by simp [bytesL]
theorem ent_length (p : PV) (i : Nat) : (ent p i).length = 16 + (p.nm i).size + p.ml i := by
  simp only [ent, List.length_append, le_length, nmL_length, bytesL_length]; omega

theorem encTo_succ (p : PV) (k : Nat) : encTo p (k + 1) = encTo p k ++ ent p k := by
  simp [encTo, List.range_succ, List.flatMap_append]

theorem encTo_length {p : PV} (hs : p.small) : ∀ k, k ≤ p.len → (encTo p k).length ≤ 8 + k * 2097168 := by
  intro k
  induction k with
  | zero => intro _; simp [encTo, le_length]
  | succ k ih =>
    intro hk
    have := ih (by omega)
    have h2 := hs.2 k (by omega)
    rw [encTo_succ, List.length_append, ent_length]
    omega

theorem nmL_take (s : ByteArray) (j : Nat) (h : j < s.size) : (nmL s).take (j + 1) = (nmL s).take j ++ [((s[j]'h).toNat : Int)] := by
  rw [List.take_succ_eq_append_getElem (by rw [nmL_length]; exact h)]
  simp [nmL]
  rfl

theorem bytesL_take (len : Nat) (z : Nat → Int) (j : Nat) (h : j < len) : (bytesL len z).take (j + 1) = (bytesL len z).take j ++ [z j] := by
  rw [List.take_succ_eq_append_getElem (by rw [bytesL_length]; exact h)]
  simp [bytesL]

set_option maxHeartbeats 4000000 in
theorem encode_any (a : Option Addr) (cap : Nat) (p : PV) (w : World) (hp : ListAt 0 w a p) (hs : p.small) :
    Calls Try.prog 15 #[.slice a p.len cap] w fun e w' => ∃ v', e = .returned v' ∧ w'.ownsRow w.heap.size 5 1 v' (encTo p p.len).length ((encTo p p.len).map (Value.int .u8)) ∧ Below w.heap.size w w' := by
  obtain ⟨i0, hi, hz0, hz1, hz2⟩ := info_parts info5
  have hl := encTo_length hs
  obtain ⟨hs1, hs2⟩ := hs
  have Hl := hide hl
  clear hl
  go_enter Try.func15, Try.ntmps15
  go_wp2_with fail
  refine (putLen_any w.heap.size 0 p.len (.slice none 0 0) [] w (Nat.le_refl _) (World.ownsRow_nil _ _ _ _) (by omega) (by omega)).mono ?_
  rintro e w1 ⟨v1, rfl, ho1, hb1⟩
  simp only [List.nil_append, Nat.zero_add] at ho1
  go_wp2_with fail
  go_loopw [3, 13] (fun v c wr => ∃ k : Nat, k ≤ p.len ∧ c = .int .i64 k ∧ wr.ownsRow w.heap.size 5 1 v (encTo p k).length ((encTo p k).map (Value.int .u8)) ∧ Below w.heap.size w wr) (fun _ c _ => p.len - (intOf c).toNat)
  case atStart => exact ⟨0, Nat.zero_le _, rfl, by simpa [encTo, le_length] using ho1, hb1⟩
  case round =>
    obtain ⟨k, hk, rfl, ho, hb⟩ := hrel
    clear ho1 hb1
    by_cases hlt : k < p.len
    · rcases hp with hp | ⟨b, off, hx, _, hbs, A, C, hc⟩
      · omega
      cases hx
      obtain ⟨c1, c2, c3⟩ := hc k hlt
      obtain ⟨x1, x2⟩ := hs2 k hlt
      clear hc hs2
      have hek := unhide Hl k hk
      have hes : encTo p (k + 1) = encTo p k ++ ent p k := encTo_succ p k
      have Hes := hide hes
      clear hes
      have hsz := hb.size
      have g1 : wr.cell? ⟨b, off + k * 2, none⟩ = some (.string (p.nm k)) := by rw [hb.cell hbs]; exact c1
      go_wp2_with fail
      refine (putLen_any w.heap.size _ (p.nm k).size _ (encTo p k) wr (by omega) ho (by omega) (by omega)).mono ?_
      rintro e w2 ⟨v2, rfl, ho2, hb2⟩
      have hb3 := hb.trans hb2
      clear ho hb hb2 g1 hsz
      have g2 : w2.cell? ⟨b, off + k * 2, none⟩ = some (.string (p.nm k)) := by rw [hb3.cell hbs]; exact c1
      go_wp2_with fail
      go_loopw [3, 5] (fun v c wi => ∃ j : Nat, j ≤ (p.nm k).size ∧ c = .int .i64 j ∧ wi.ownsRow w.heap.size 5 1 v ((encTo p k).length + 8 + j) ((encTo p k ++ le (p.nm k).size 8 ++ (nmL (p.nm k)).take j).map (Value.int .u8)) ∧ Below w.heap.size w wi) (fun _ c _ => (p.nm k).size - (intOf c).toNat)
      case atStart => exact ⟨0, Nat.zero_le _, rfl, by simpa using ho2, hb3⟩
      case round =>
        obtain ⟨j, hj, rfl, hoj, hbj⟩ := hrel
        clear ho2 hb3 g2
        have g3 : wr.cell? ⟨b, off + k * 2, none⟩ = some (.string (p.nm k)) := by rw [hbj.cell hbs]; exact c1
        have hszj := hbj.size
        by_cases hjlt : j < (p.nm k).size
        · have hnt := hide (nmL_take (p.nm k) j hjlt)
          go_wp2_with (at_builtin; refine wpList_append_own _ rfl _ _ 32 rfl w.heap.size 5 i0 (.int .u8 0) 1 1 Try.underlying32 hi hz0 hz1 hz2 rfl (by decide) _ _ _ rfl (hoj.alloc _) ⟨wr.heap.size, 0, none⟩ 1 1 [.int .u8 ((p.nm k)[j].toNat : Int)] rfl rfl ?c1 ?c2 ?c3 ?c4 ?c5 ?_)
          case c1 => exact one_new _ (by simp)
          case c2 => intro u hu; simp at hu; subst hu; rfl
          case c3 => unfold maxLen; omega
          case c4 => omega
          case c5 => simp; omega
          · intro v' w1 ho' hgr _
            go_wp2
            go_roundw
            case rel =>
              refine ⟨j + 1, by omega, by go_num, ?_, (hbj.alloc (by omega) _).grown hgr (by simp; omega) (fun i hi => (hoj.lt i hi).1)⟩
              rw [unhide hnt]
              simpa [Nat.add_assoc] using ho'
            case measure => simp [intOf]; omega
        · have ej : j = (p.nm k).size := by omega
          have htk : (nmL (p.nm k)).take j = nmL (p.nm k) := List.take_of_length_le (by rw [nmL_length]; omega)
          rw [htk] at hoj
          have Hej := hide ej
          clear ej htk
          have g4 : wr.cell? ⟨b, off + k * 2 + 1, none⟩ = some (.slice (A k) (p.ml k) (C k)) := by rw [hbj.cell hbs]; exact c2
          go_wp2_with fail
          refine (putLen_any w.heap.size _ (p.ml k) _ _ wr (by omega) hoj (by omega) (by omega)).mono ?_
          rintro e w3 ⟨v3, rfl, ho3, hb3⟩
          have hb4 := hbj.trans hb3
          clear hoj hbj hb3 g3 g4 hszj
          have g5 : w3.cell? ⟨b, off + k * 2 + 1, none⟩ = some (.slice (A k) (p.ml k) (C k)) := by rw [hb4.cell hbs]; exact c2
          go_wp2_with fail
          go_loopw [3, 6] (fun v c wi => ∃ l : Nat, l ≤ p.ml k ∧ c = .int .i64 l ∧ wi.ownsRow w.heap.size 5 1 v ((encTo p k).length + 8 + j + 8 + l) ((encTo p k ++ le (p.nm k).size 8 ++ nmL (p.nm k) ++ le (p.ml k) 8 ++ (bytesL (p.ml k) (p.bs k)).take l).map (Value.int .u8)) ∧ Below w.heap.size w wi) (fun _ c _ => p.ml k - (intOf c).toNat)
          case atStart => exact ⟨0, Nat.zero_le _, rfl, by simpa using ho3, hb4⟩
          case round =>
            obtain ⟨l, hl, rfl, hol, hbl⟩ := hrel
            clear ho3 hb4 g5
            have g6 : wr.cell? ⟨b, off + k * 2 + 1, none⟩ = some (.slice (A k) (p.ml k) (C k)) := by rw [hbl.cell hbs]; exact c2
            have hszl := hbl.size
            by_cases hllt : l < p.ml k
            · rcases c3 with c3 | ⟨mb, mo, hA, _, hmb, hmc⟩
              · omega
              rw [hA] at g6
              have g7 : wr.cell? ⟨mb, mo + l, none⟩ = some (.int .u8 (p.bs k l)) := by rw [hbl.cell hmb]; exact hmc l hllt
              have hnt := hide (bytesL_take (p.ml k) (p.bs k) l hllt)
              clear hmc hA
              go_wp2_with (at_builtin; refine wpList_append_own _ rfl _ _ 32 rfl w.heap.size 5 i0 (.int .u8 0) 1 1 Try.underlying32 hi hz0 hz1 hz2 rfl (by decide) _ _ _ rfl (hol.alloc _) ⟨wr.heap.size, 0, none⟩ 1 1 [.int .u8 (p.bs k l)] rfl rfl ?d1 ?d2 ?d3 ?d4 ?d5 ?_)
              case d1 => exact one_new _ rfl
              case d2 => intro u hu; simp at hu; subst hu; rfl
              case d3 => unfold maxLen; omega
              case d4 => omega
              case d5 => simp; omega
              · intro v' w1 ho' hgr _
                go_wp2
                go_roundw
                case rel =>
                  refine ⟨l + 1, by omega, by go_num, ?_, (hbl.alloc (by omega) _).grown hgr (by simp; omega) (fun i hi => (hol.lt i hi).1)⟩
                  rw [unhide hnt]
                  simpa [Nat.add_assoc] using ho'
                case measure => simp [intOf]; omega
            · go_wp2
              go_roundw
              case rel =>
                refine ⟨k + 1, by omega, by go_num, ?_, hbl⟩
                have htk : (bytesL (p.ml k) (p.bs k)).take l = bytesL (p.ml k) (p.bs k) := List.take_of_length_le (by rw [bytesL_length]; omega)
                rw [htk] at hol
                have hlen : (encTo p (k + 1)).length = (encTo p k).length + 8 + j + 8 + l := by
                  rw [unhide Hes, List.length_append, ent_length, unhide Hej]; omega
                rw [hlen, unhide Hes, ent]
                simpa [List.append_assoc] using hol
              case measure => simp [intOf]; omega
    · have e : k = p.len := by omega
      subst e
      go_wp2
      go_ret
      exact ⟨_, rfl, ho, hb⟩
end Go.Proofs.Qxb6621669a
