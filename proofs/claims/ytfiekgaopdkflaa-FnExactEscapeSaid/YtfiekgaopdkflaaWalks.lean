/-
  The walks: gohtml.escape and spec.Escaped each return the text whose bytes are 'esc' of the bytes that came in; under len(s) at most 2^20.
-/
import Derived.Test.YtfiekgaopdkflaaPlain
import Derived.Test.YtfiekgaopdkflaaShelf
import Derived.WalkKit
import Derived.WalkSpells
import Derived.Lib.AppendStr
import Derived.Laws.IdiomStrings
import Derived.Lib.BufferRead
namespace Go.Proofs.Ytfiekgaopdkflaa
open Go.RowKit

theorem Try.info5 : (Try.prog.info? 5).map (fun i => (i.zero, i.size, i.bytes)) = some (some (.int .u8 0), 1, 1) := by kernel_rfl

/-- 'string(b)', b the call's own row of the bytes l, or nil. -/
theorem conv_own {w : World} {base : Nat} {v : Value} {l : List UInt8} (hown : w.ownsRow base 5 1 v l.length (Lib.byteCells l)) : (convert 25 9 v).run Try.prog w = .ok (.string ⟨l.toArray⟩) w := by
  rcases hown.2 with ⟨rfl, h0⟩ | ⟨g, cap, cur, rfl, _, hg, _, _, _, htk⟩
  · have h1 : l = [] := List.length_eq_zero_iff.1 h0
    subst h1
    exact Lib.run_convert_nil_bytes w 25 9 5 0 Try.underlying25 Try.underlying5 Try.underlying9
  · exact run_convert_bytes_back w 25 9 5 ⟨g, 0, none⟩ cap l Try.underlying25 Try.underlying5 Try.underlying9 (Lib.bytes_of_row hg (by simpa using htk))

theorem ret_string {a b : ByteArray} (h : a = b) : Ending.returned (.string a) = .returned (.string b) := by rw [h]

/-- A round of 'escape' is done: the row holds what one more byte gives. -/
theorem escape_round {s : ByteArray} {k : Nat} {w wr w1 : World} {v v1 : Value} {t : List UInt8} (hlt : k < s.size) (hT : esc (s.data.toList.take (k + 1)) = esc (s.data.toList.take k) ++ t)
    (hown : wr.ownsRow w.heap.size 5 1 v (esc (s.data.toList.take k)).length (Lib.byteCells (esc (s.data.toList.take k)))) (hnx : Below w.heap.size w wr)
    (hown1 : w1.ownsRow w.heap.size 5 1 v1 ((esc (s.data.toList.take k)).length + t.length) (Lib.byteCells (esc (s.data.toList.take k)) ++ Lib.byteCells t)) (hg : wr.grownBy w1 v.ownBlock) :
    (∃ j : Nat, j ≤ s.size ∧ Value.int .i64 ((k : Int) + 1) = .int .i64 (j : Int) ∧ w1.ownsRow w.heap.size 5 1 v1 (esc (s.data.toList.take j)).length (Lib.byteCells (esc (s.data.toList.take j))) ∧ Below w.heap.size w w1) ∧
      s.size - (intOf (.int .i64 ((k : Int) + 1))).toNat < s.size - (intOf (.int .i64 (k : Int))).toNat := by
  refine ⟨⟨k + 1, by omega, by go_num, ?_, hnx.grown hg hnx.size (fun j hj => (hown.lt j hj).1)⟩, by simp [intOf]; omega⟩
  rw [hT, List.length_append, Lib.byteCells_append]
  exact hown1

set_option maxHeartbeats 800000 in
set_option maxRecDepth 100000 in
theorem escape_any (s : ByteArray) (w : World) (hs : s.size ≤ 1048576) :
    Calls Try.prog 10 #[.string s] w fun e w' => e = .returned (.string ⟨(esc s.data.toList).toArray⟩) ∧ Below w.heap.size w w' := by
  obtain ⟨i0, hi, hz0, hz1, hz2⟩ := info_parts Try.info5
  go_enter Try.func10, Try.ntmps10
  go_wp2
  go_loopw [3, 4] (fun v i wr => ∃ k : Nat, k ≤ s.size ∧ i = .int .i64 k ∧ wr.ownsRow w.heap.size 5 1 v (esc (s.data.toList.take k)).length (Lib.byteCells (esc (s.data.toList.take k))) ∧ Below w.heap.size w wr)
    (fun _ i _ => s.size - (intOf i).toNat)
  case atStart => exact ⟨0, Nat.zero_le _, rfl, World.ownsRow_nil _ _ _ _, Below.refl _ _⟩
  case round =>
    obtain ⟨k, hk, rfl, hown, hnx⟩ := hrel
    have hnb := hnx.size
    have hle := esc_take_le s k
    by_cases hlt : k < s.size
    · have hT0 := esc_take s k hlt
      rcases kinds s[k] with ⟨t1, he⟩ | ⟨t1, t2, he⟩ | ⟨t1, t2, t3, he⟩ | ⟨t1, t2, t3, t4, he⟩ | ⟨t1, t2, t3, t4, t5, he⟩ | ⟨t1, t2, t3, t4, t5, he⟩
      · rw [he] at hT0
        have HT : Hid (esc (s.data.toList.take (k + 1)) = esc (s.data.toList.take k) ++ amp) := hT0
        clear hT0 he
        go_wp2_with (first | (at_builtin; refine Lib.wpList_append_own_string _ rfl (.tmp 22) (.const (.string ⟨#[38, 97, 109, 112, 59]⟩)) 25 9 rfl w.heap.size 5 i0 Try.underlying25 Try.underlying9 hi hz0 hz1 hz2 u3 _ _ rfl hown ⟨#[38, 97, 109, 112, 59]⟩ rfl (by show _ + 5 ≤ _; unfold maxLen; omega) (by show _ + 5 ≤ _; omega) (by omega) ?_; intro v1 w1 hown1 hgrow1 hnil1))
        exact escape_round hlt HT.out hown hnx hown1 hgrow1
      · rw [he] at hT0
        have HT : Hid (esc (s.data.toList.take (k + 1)) = esc (s.data.toList.take k) ++ apos) := hT0
        clear hT0 he
        go_wp2_with (first | (at_builtin; refine Lib.wpList_append_own_string _ rfl (.tmp 26) (.const (.string ⟨#[38, 35, 51, 57, 59]⟩)) 25 9 rfl w.heap.size 5 i0 Try.underlying25 Try.underlying9 hi hz0 hz1 hz2 u3 _ _ rfl hown ⟨#[38, 35, 51, 57, 59]⟩ rfl (by show _ + 5 ≤ _; unfold maxLen; omega) (by show _ + 5 ≤ _; omega) (by omega) ?_; intro v1 w1 hown1 hgrow1 hnil1))
        exact escape_round hlt HT.out hown hnx hown1 hgrow1
      · rw [he] at hT0
        have HT : Hid (esc (s.data.toList.take (k + 1)) = esc (s.data.toList.take k) ++ less) := hT0
        clear hT0 he
        go_wp2_with (first | (at_builtin; refine Lib.wpList_append_own_string _ rfl (.tmp 30) (.const (.string ⟨#[38, 108, 116, 59]⟩)) 25 9 rfl w.heap.size 5 i0 Try.underlying25 Try.underlying9 hi hz0 hz1 hz2 u3 _ _ rfl hown ⟨#[38, 108, 116, 59]⟩ rfl (by show _ + 4 ≤ _; unfold maxLen; omega) (by show _ + 4 ≤ _; omega) (by omega) ?_; intro v1 w1 hown1 hgrow1 hnil1))
        exact escape_round hlt HT.out hown hnx hown1 hgrow1
      · rw [he] at hT0
        have HT : Hid (esc (s.data.toList.take (k + 1)) = esc (s.data.toList.take k) ++ more) := hT0
        clear hT0 he
        go_wp2_with (first | (at_builtin; refine Lib.wpList_append_own_string _ rfl (.tmp 34) (.const (.string ⟨#[38, 103, 116, 59]⟩)) 25 9 rfl w.heap.size 5 i0 Try.underlying25 Try.underlying9 hi hz0 hz1 hz2 u3 _ _ rfl hown ⟨#[38, 103, 116, 59]⟩ rfl (by show _ + 4 ≤ _; unfold maxLen; omega) (by show _ + 4 ≤ _; omega) (by omega) ?_; intro v1 w1 hown1 hgrow1 hnil1))
        exact escape_round hlt HT.out hown hnx hown1 hgrow1
      · rw [he] at hT0
        have HT : Hid (esc (s.data.toList.take (k + 1)) = esc (s.data.toList.take k) ++ quot) := hT0
        clear hT0 he
        go_wp2_with (first | (at_builtin; refine Lib.wpList_append_own_string _ rfl (.tmp 38) (.const (.string ⟨#[38, 35, 51, 52, 59]⟩)) 25 9 rfl w.heap.size 5 i0 Try.underlying25 Try.underlying9 hi hz0 hz1 hz2 u3 _ _ rfl hown ⟨#[38, 35, 51, 52, 59]⟩ rfl (by show _ + 5 ≤ _; unfold maxLen; omega) (by show _ + 5 ≤ _; omega) (by omega) ?_; intro v1 w1 hown1 hgrow1 hnil1))
        exact escape_round hlt HT.out hown hnx hown1 hgrow1
      · rw [he] at hT0
        have HT : Hid (esc (s.data.toList.take (k + 1)) = esc (s.data.toList.take k) ++ [s[k]]) := hT0
        clear hT0 he
        go_wp2_with (first | (at_builtin; refine wpList_append_own _ rfl (.tmp 14) (.tmp 18) 25 rfl w.heap.size 5 i0 (.int .u8 0) 1 1 Try.underlying25 hi hz0 hz1 hz2 rfl (by decide) u3 _ _ rfl (hown.alloc _) ⟨wr.heap.size, 0, none⟩ 1 1 [.int .u8 (s[k].toNat : Int)] rfl rfl (cell_one_new _ _ _) (by intro u hu; simp at hu; subst hu; rfl) (by unfold maxLen; omega) (by omega) (by simp; omega) ?_; intro v1 w1 hown1 hgrow1 hnil1))
        exact escape_round (t := [s[k]]) hlt HT.out hown hnx hown1 ((World.grownBy_alloc wr _ _).trans hgrow1)
    · have hl := esc_whole s k (by omega)
      rw [hl] at hown
      have hcv := conv_own hown
      clear hl hown
      go_wp2
      go_ret
      exact ⟨rfl, hnx⟩

/-- A round of 'Escaped' is done. -/
theorem escaped_round {s : ByteArray} {k : Nat} {w wr w1 : World} {t : List UInt8} (hlt : k < s.size) (hT : esc (s.data.toList.take (k + 1)) = esc (s.data.toList.take k) ++ t) (hnx : Below w.heap.size w wr)
    (h1 : Lib.BuilderAt 27 5 w.heap.size w.heap.size (.pointer (some ⟨w.heap.size, 0, none⟩)) (Lib.byteCells (esc (s.data.toList.take k)) ++ Lib.byteCells t) w1) (b1 : Below w.heap.size wr w1) :
    (∃ j : Nat, j ≤ s.size ∧ Value.int .i64 ((k : Int) + 1) = .int .i64 (j : Int) ∧ Lib.IsBuilder 27 5 w.heap.size w.heap.size (Lib.byteCells (esc (s.data.toList.take j))) w1 ∧ Below w.heap.size w w1) ∧
      s.size - (intOf (.int .i64 ((k : Int) + 1))).toNat < s.size - (intOf (.int .i64 (k : Int))).toNat := by
  refine ⟨⟨k + 1, by omega, by go_num, Or.inr ?_, hnx.trans b1⟩, by simp [intOf]; omega⟩
  rw [hT, Lib.byteCells_append]
  exact h1

set_option maxHeartbeats 800000 in
set_option maxRecDepth 100000 in
theorem escaped_any (s : ByteArray) (w : World) (hs : s.size ≤ 1048576) :
    Calls Try.prog 5 #[.string s] w fun e w' => e = .returned (.string ⟨(esc s.data.toList).toArray⟩) ∧ Below w.heap.size w w' := by
  go_enter Try.func5, Try.ntmps5
  go_wp2
  go_loopw [7] (fun i wr => ∃ k : Nat, k ≤ s.size ∧ i = .int .i64 k ∧ Lib.IsBuilder 27 5 w.heap.size w.heap.size (Lib.byteCells (esc (s.data.toList.take k))) wr ∧ Below w.heap.size w wr)
    (fun i _ => s.size - (intOf i).toNat)
  case atStart => exact ⟨0, Nat.zero_le _, rfl, Lib.fresh_isBuilder 27 5 w, (Below.refl _ w).alloc (Nat.le_refl _) _⟩
  case round =>
    obtain ⟨k, hk, rfl, hI, hnx⟩ := hrel
    have hnb := hnx.size
    have hle := esc_take_le s k
    by_cases hlt : k < s.size
    · have hT0 := esc_take s k hlt
      rcases kinds s[k] with ⟨t1, he⟩ | ⟨t1, t2, he⟩ | ⟨t1, t2, t3, he⟩ | ⟨t1, t2, t3, t4, he⟩ | ⟨t1, t2, t3, t4, t5, he⟩ | ⟨t1, t2, t3, t4, t5, he⟩
      · rw [he] at hT0
        have HT : Hid (esc (s.data.toList.take (k + 1)) = esc (s.data.toList.take k) ++ amp) := hT0
        clear hT0 he
        go_wp2_with (go_at_call 7; refine (Try.Builder_WriteString w.heap.size w.heap.size _ ⟨#[38, 97, 109, 112, 59]⟩ _ hI (by show _ + 5 ≤ _; rw [Lib.byteCells_length]; omega) hnb).mono ?_)
        rintro e W1 ⟨rfl, h1, b1⟩
        go_wp2
        exact escaped_round hlt HT.out hnx h1 b1
      · rw [he] at hT0
        have HT : Hid (esc (s.data.toList.take (k + 1)) = esc (s.data.toList.take k) ++ apos) := hT0
        clear hT0 he
        go_wp2_with (go_at_call 7; refine (Try.Builder_WriteString w.heap.size w.heap.size _ ⟨#[38, 35, 51, 57, 59]⟩ _ hI (by show _ + 5 ≤ _; rw [Lib.byteCells_length]; omega) hnb).mono ?_)
        rintro e W1 ⟨rfl, h1, b1⟩
        go_wp2
        exact escaped_round hlt HT.out hnx h1 b1
      · rw [he] at hT0
        have HT : Hid (esc (s.data.toList.take (k + 1)) = esc (s.data.toList.take k) ++ less) := hT0
        clear hT0 he
        go_wp2_with (go_at_call 7; refine (Try.Builder_WriteString w.heap.size w.heap.size _ ⟨#[38, 108, 116, 59]⟩ _ hI (by show _ + 4 ≤ _; rw [Lib.byteCells_length]; omega) hnb).mono ?_)
        rintro e W1 ⟨rfl, h1, b1⟩
        go_wp2
        exact escaped_round hlt HT.out hnx h1 b1
      · rw [he] at hT0
        have HT : Hid (esc (s.data.toList.take (k + 1)) = esc (s.data.toList.take k) ++ more) := hT0
        clear hT0 he
        go_wp2_with (go_at_call 7; refine (Try.Builder_WriteString w.heap.size w.heap.size _ ⟨#[38, 103, 116, 59]⟩ _ hI (by show _ + 4 ≤ _; rw [Lib.byteCells_length]; omega) hnb).mono ?_)
        rintro e W1 ⟨rfl, h1, b1⟩
        go_wp2
        exact escaped_round hlt HT.out hnx h1 b1
      · rw [he] at hT0
        have HT : Hid (esc (s.data.toList.take (k + 1)) = esc (s.data.toList.take k) ++ quot) := hT0
        clear hT0 he
        go_wp2_with (go_at_call 7; refine (Try.Builder_WriteString w.heap.size w.heap.size _ ⟨#[38, 35, 51, 52, 59]⟩ _ hI (by show _ + 5 ≤ _; rw [Lib.byteCells_length]; omega) hnb).mono ?_)
        rintro e W1 ⟨rfl, h1, b1⟩
        go_wp2
        exact escaped_round hlt HT.out hnx h1 b1
      · rw [he] at hT0
        have HT : Hid (esc (s.data.toList.take (k + 1)) = esc (s.data.toList.take k) ++ [s[k]]) := hT0
        clear hT0 he
        go_wp2_with (go_at_call 8; refine (Try.Builder_WriteByte w.heap.size w.heap.size _ _ _ hI (by rw [Lib.byteCells_length]; omega) hnb).mono ?_)
        rintro e W1 ⟨rfl, h1, b1⟩
        go_wp2
        exact escaped_round (t := [s[k]]) hlt HT.out hnx h1 b1
    · have hl := esc_whole s k (by omega)
      rw [hl] at hI
      clear hl
      go_wp2_with (go_at_call 9; refine (Try.Builder_String_any w.heap.size w.heap.size _ _ hI hnb).mono ?_)
      rintro e W1 ⟨rfl, b1⟩
      go_wp2
      go_ret
      exact ⟨rfl, hnx.trans b1⟩

set_option maxHeartbeats 400000 in
theorem escapeString_any (s : ByteArray) (w : World) (hs : s.size ≤ 1048576) :
    Calls Try.prog 6 #[.string s] w fun e w' => e = .returned (.string ⟨(esc s.data.toList).toArray⟩) ∧ Below w.heap.size w w' := by
  go_enter Try.func6, Try.ntmps6
  go_wp2_with (go_at_call 10; refine (escape_any s _ hs).mono ?_)
  rintro e W1 ⟨rfl, b1⟩
  go_wp2
  go_ret
  exact ⟨rfl, b1⟩

set_option maxHeartbeats 400000 in
theorem implEscape_any (s : ByteArray) (w : World) (hs : s.size ≤ 1048576) :
    Calls Try.prog 4 #[.string s] w fun e w' => e = .returned (.string ⟨(esc s.data.toList).toArray⟩) ∧ Below w.heap.size w w' := by
  go_enter Try.func4, Try.ntmps4
  go_wp2_with (go_at_call 6; refine (escapeString_any s _ hs).mono ?_)
  rintro e W1 ⟨rfl, b1⟩
  go_wp2
  go_ret
  exact ⟨rfl, b1⟩

set_option maxHeartbeats 400000 in
/-- What is longer than the size bound, or than the text's own, is passed by. -/
theorem law_long (s : ByteArray) (w : World) (hs : 1048576 < s.size) (hm : s.size ≤ 9223372036854775807) :
    Calls Try.prog 3 #[.string s] w fun e w' => e = .returned (.bool true) ∧ Below w.heap.size w w' := by
  by_cases hb : 2147483647 < s.size
  · go_enter Try.func3, Try.ntmps3
    go_wp2
    go_ret
    exact ⟨rfl, Below.refl _ _⟩
  · go_enter Try.func3, Try.ntmps3
    go_wp2
    go_ret
    exact ⟨rfl, Below.refl _ _⟩

set_option maxHeartbeats 400000 in
/-- The two texts are one. -/
theorem law_short (s : ByteArray) (w : World) (hs : s.size ≤ 1048576) :
    Calls Try.prog 3 #[.string s] w fun e w' => e = .returned (.bool true) ∧ Below w.heap.size w w' := by
  go_enter Try.func3, Try.ntmps3
  go_wp2_with fail
  refine (implEscape_any s _ hs).mono ?_
  rintro e W1 ⟨rfl, b1⟩
  go_wp2_with fail
  refine (escaped_any s _ hs).mono ?_
  rintro e W2 ⟨rfl, b2⟩
  go_wp2
  go_ret
  exact ⟨rfl, b1.trans (b2.mono b1.size)⟩

/-- THE LAW'S CALL: whatever the text: true; nothing that was there has turned. -/
theorem law_any (s : ByteArray) (w : World) (hm : s.size ≤ 9223372036854775807) :
    Calls Try.prog 3 #[.string s] w fun e w' => e = .returned (.bool true) ∧ Below w.heap.size w w' := by
  by_cases hs : s.size ≤ 1048576
  · exact law_short s w hs
  · exact law_long s w (by omega) hm

end Go.Proofs.Ytfiekgaopdkflaa
