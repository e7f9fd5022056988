/-
  THE WALKS of the functions that both laws come to (seat b6625858a).
-/
import Derived.Test.Qxb6625858aRows
import Derived.Test.Qxb6625858aPlain
import Derived.WalkKit
import Derived.ProofKit
import Derived.OpenShut
import Derived.ShutString
import Derived.ChangeOld
import Derived.Below
import Derived.Handy
import Derived.WalkSpells
import Derived.Laws.IdiomStrings
namespace Go.Proofs.Qxb6625858a.Parts
open Go.ChangeShapes Go.WideShapes Go.ChangeAt Go.RowKit
open Go.Proofs.Qxb6625858a.Plain
set_option linter.unusedVariables false
set_option linter.unusedSimpArgs false

theorem ret_bool {a b : Bool} (h : a = b) : Ending.returned (.bool a) = .returned (.bool b) := by rw [h]

set_option maxHeartbeats 400000 in
theorem indent_any (n : Int) (w : World) (h0 : 0 ≤ n) (h1 : n ≤ 255) :
    Calls Try.prog 6 #[.int .u8 n] w fun e w' => e = .returned (.bool (indN n)) ∧ w' = w := by
  by_cases a : 49 ≤ n
  · by_cases b : n ≤ 57
    all_goals
      go_enter Try.func6, Try.ntmps6
      go_wp2
      go_ret
      exact ⟨ret_bool (by simp [indN, a, b]), rfl⟩
  · have e : indN n = false := by simp [indN, a]
    go_enter Try.func6, Try.ntmps6
    go_wp2
    go_ret
    exact ⟨rfl, rfl⟩

set_option maxHeartbeats 400000 in
theorem chomp_any (n : Int) (w : World) (h0 : 0 ≤ n) (h1 : n ≤ 255) :
    Calls Try.prog 7 #[.int .u8 n] w fun e w' => e = .returned (.bool (choN n)) ∧ w' = w := by
  by_cases a : n = 43
  · subst a
    go_enter Try.func7, Try.ntmps7
    go_wp2
    go_ret
    exact ⟨ret_bool (by simp [choN]), rfl⟩
  · have a' : (n == 43) = false := by simp [a]
    by_cases b : n = 45
    · subst b
      go_enter Try.func7, Try.ntmps7
      go_wp2
      go_ret
      exact ⟨ret_bool (by simp [choN]), rfl⟩
    · have b' : (n == 45) = false := by simp [b]
      have e : choN n = false := by simp [choN, a, b]
      clear a b
      go_enter Try.func7, Try.ntmps7
      go_wp2
      go_ret
      exact ⟨ret_bool (by rw [e]), rfl⟩


/-! ### the two bounds -/
theorem bytes1_no (s : ByteArray) (w : World) (hs : s.size ≤ maxLen) (h : 1048576 < s.size) :
    Calls Try.prog 5 #[.string s] w fun e w' => e = .returned (.bool false) ∧ w' = w := by
  unfold maxLen at hs
  have h' : (1048576 : Int) < (s.size : Int) := by omega
  go_enter Try.func5, Try.ntmps5
  go_wp2
  go_ret
  exact ⟨rfl, rfl⟩
theorem bytes1_yes (s : ByteArray) (w : World) (h : s.size ≤ 1048576) :
    Calls Try.prog 5 #[.string s] w fun e w' => e = .returned (.bool true) ∧ w' = w := by
  have h' : ¬ (1048576 : Int) < (s.size : Int) := by omega
  go_enter Try.func5, Try.ntmps5
  go_wp2
  go_ret
  exact ⟨rfl, rfl⟩

theorem bytes2_no (s t : ByteArray) (w : World) (hs : s.size ≤ maxLen) (ht : t.size ≤ maxLen) (h : 1048576 < s.size + t.size) :
    Calls Try.prog 9 #[.string s, .string t] w fun e w' => e = .returned (.bool false) ∧ w' = w := by
  unfold maxLen at hs ht
  by_cases h1 : (1048576 : Int) < (s.size : Int)
  · go_enter Try.func9, Try.ntmps9
    go_wp2
    go_ret
    exact ⟨rfl, rfl⟩
  · by_cases h2 : (1048576 : Int) < (t.size : Int)
    · go_enter Try.func9, Try.ntmps9
      go_wp2
      go_ret
      exact ⟨rfl, rfl⟩
    · have h3 : (1048576 : Int) < (s.size : Int) + (t.size : Int) := by omega
      go_enter Try.func9, Try.ntmps9
      go_wp2
      go_ret
      exact ⟨rfl, rfl⟩
theorem bytes2_yes (s t : ByteArray) (w : World) (h : s.size + t.size ≤ 1048576) :
    Calls Try.prog 9 #[.string s, .string t] w fun e w' => e = .returned (.bool true) ∧ w' = w := by
  have h1 : ¬ (1048576 : Int) < (s.size : Int) := by omega
  have h2 : ¬ (1048576 : Int) < (t.size : Int) := by omega
  have h3 : ¬ (1048576 : Int) < (s.size : Int) + (t.size : Int) := by omega
  go_enter Try.func9, Try.ntmps9
  go_wp2
  go_ret
  exact ⟨rfl, rfl⟩

/-! ### zzHasIndent, zzHasChomp -/
theorem byte_le (b : UInt8) : (b.toNat : Int) ≤ 255 := by have := b.toNat_lt; omega
theorem at_list (s : ByteArray) (k : Nat) (h : k < s.size) : s.data.toList.drop k = s[k] :: s.data.toList.drop (k + 1) := by
  rw [List.drop_eq_getElem_cons (by simpa using h)]; rfl

set_option maxHeartbeats 400000 in
theorem hasIndent_any (s : ByteArray) (w : World) (hs : s.size ≤ maxLen) :
    Calls Try.prog 10 #[.string s] w fun e w' => e = .returned (.bool (hasInd s.data.toList)) ∧ w' = w := by
  unfold maxLen at hs
  go_enter Try.func10, Try.ntmps10
  go_wp2
  go_loop [3] (fun i => ∃ k : Nat, k ≤ s.size ∧ i = .int .i64 k ∧ Hid (hasInd s.data.toList = hasInd (s.data.toList.drop k))) (fun i => s.size - (intOf i).toNat)
  case atStart => exact ⟨0, Nat.zero_le _, rfl, rfl⟩
  case round =>
    obtain ⟨k, hk, rfl, HH⟩ := hrel
    by_cases hlt : k < s.size
    · have ha := at_list s k hlt
      have hb := byte_le s[k]
      have H2 : Hid (hasInd s.data.toList = (ind s[k] || hasInd (s.data.toList.drop (k + 1)))) := by
        have := HH.out
        rw [ha] at this
        exact this
      clear ha HH
      by_cases hi : indN (s[k].toNat : Int) = true
      · go_wp2_with (go_at_call 6; refine (indent_any _ _ (by omega) (by omega)).mono ?_; rintro e w' ⟨rfl, rfl⟩)
        go_ret
        exact ⟨ret_bool (by rw [H2.out]; unfold ind; rw [hi]; rfl), rfl⟩
      · have hi' : indN (s[k].toNat : Int) = false := by simpa using hi
        clear hi
        go_wp2_with (go_at_call 6; refine (indent_any _ _ (by omega) (by omega)).mono ?_; rintro e w' ⟨rfl, rfl⟩)
        go_round
        case rel => exact ⟨k + 1, by omega, by go_num, (by rw [H2.out]; unfold ind; rw [hi']; rfl : hasInd s.data.toList = hasInd (s.data.toList.drop (k + 1)))⟩
        case measure => simp [intOf]; omega
    · go_wp2
      go_ret
      exact ⟨ret_bool (by rw [HH.out, List.drop_eq_nil_of_le (by simp; omega)]; rfl), rfl⟩

set_option maxHeartbeats 400000 in
theorem hasChomp_any (s : ByteArray) (w : World) (hs : s.size ≤ maxLen) :
    Calls Try.prog 11 #[.string s] w fun e w' => e = .returned (.bool (hasCho s.data.toList)) ∧ w' = w := by
  unfold maxLen at hs
  go_enter Try.func11, Try.ntmps11
  go_wp2
  go_loop [3] (fun i => ∃ k : Nat, k ≤ s.size ∧ i = .int .i64 k ∧ Hid (hasCho s.data.toList = hasCho (s.data.toList.drop k))) (fun i => s.size - (intOf i).toNat)
  case atStart => exact ⟨0, Nat.zero_le _, rfl, rfl⟩
  case round =>
    obtain ⟨k, hk, rfl, HH⟩ := hrel
    by_cases hlt : k < s.size
    · have ha := at_list s k hlt
      have hb := byte_le s[k]
      have H2 : Hid (hasCho s.data.toList = (cho s[k] || hasCho (s.data.toList.drop (k + 1)))) := by
        have := HH.out
        rw [ha] at this
        exact this
      clear ha HH
      by_cases hi : choN (s[k].toNat : Int) = true
      · go_wp2_with (go_at_call 7; refine (chomp_any _ _ (by omega) (by omega)).mono ?_; rintro e w' ⟨rfl, rfl⟩)
        go_ret
        exact ⟨ret_bool (by rw [H2.out]; unfold cho; rw [hi]; rfl), rfl⟩
      · have hi' : choN (s[k].toNat : Int) = false := by simpa using hi
        clear hi
        go_wp2_with (go_at_call 7; refine (chomp_any _ _ (by omega) (by omega)).mono ?_; rintro e w' ⟨rfl, rfl⟩)
        go_round
        case rel => exact ⟨k + 1, by omega, by go_num, (by rw [H2.out]; unfold cho; rw [hi']; rfl : hasCho s.data.toList = hasCho (s.data.toList.drop (k + 1)))⟩
        case measure => simp [intOf]; omega
    · go_wp2
      go_ret
      exact ⟨ret_bool (by rw [HH.out, List.drop_eq_nil_of_le (by simp; omega)]; rfl), rfl⟩


/-! ### isBlockHeader -/
theorem getD_cons (l : List UInt8) (k : Nat) (h : k < l.length) : l.drop k = l.getD k 0 :: l.drop (k + 1) := by
  rw [List.drop_eq_getElem_cons h]; simp [List.getD, h]

set_option maxHeartbeats 1000000 in
theorem header_core (s t : ByteArray) (cap : Nat) (C : Array Value) (w : World) (h1 : 1 ≤ s.size) (hs : s.size ≤ 9223372036854775807) (hts : t.size ≤ 9223372036854775807)
    (hext : s.extract 1 s.size = t)
    (hconv : (convert 9 25 (.string t)).run Try.prog w = .ok (.slice (some ⟨w.heap.size, 0, none⟩) t.size cap) (w.drew.alloc (.cells C 5 (C.size, C.size + 1))))
    (hC : ∀ j, j < t.size → (w.alloc (.cells C 5 (C.size, C.size + 1))).cell? ⟨w.heap.size, j, none⟩ = some (.int .u8 ((t.data.toList.getD j 0).toNat : Int))) :
    Calls Try.prog 12 #[.string s] w fun e w' => e = .returned (.bool (hdr t.data.toList)) ∧ Below w.heap.size w w' := by
  have hb : Below w.heap.size w (w.alloc (.cells C 5 (C.size, C.size + 1))).drew := ((Below.refl _ _).alloc (Nat.le_refl _) _).drew
  have HC : Hid (∀ j, j < t.size → (w.alloc (.cells C 5 (C.size, C.size + 1))).cell? ⟨w.heap.size, j, none⟩ = some (.int .u8 ((t.data.toList.getD j 0).toNat : Int))) := hC
  clear hC
  go_enter Try.func12, Try.ntmps12
  go_wp2
  go_loop [3, 4, 11] (fun d c i => ∃ k m n : Nat, k ≤ t.size ∧ m ≤ k ∧ n ≤ k ∧ i = .int .i64 k ∧ d = .int .i64 m ∧ c = .int .i64 n ∧ Hid (hdr t.data.toList = hdrTo m n (t.data.toList.drop k))) (fun _ _ i => t.size - (intOf i).toNat)
  case atStart => exact ⟨0, 0, 0, Nat.zero_le _, Nat.le_refl _, Nat.le_refl _, rfl, rfl, rfl, rfl⟩
  case round =>
    obtain ⟨k, m, n, hk, hm, hn, rfl, rfl, rfl, HH⟩ := hrel
    clear hconv hext
    by_cases hlt : k < t.size
    · have hcell := HC.out k hlt
      have H2 : Hid (hdr t.data.toList = hdrTo m n (t.data.toList.getD k 0 :: t.data.toList.drop (k + 1))) := by
        have := HH.out
        rw [getD_cons _ k (by simpa using hlt)] at this
        exact this
      clear HH
      have hbl := byte_le (t.data.toList.getD k 0)
      generalize t.data.toList.getD k 0 = b at hcell H2 hbl
      have HB : Hid (hdrTo m n (b :: t.data.toList.drop (k + 1)) = if ind b then hdrTo (m + 1) n (t.data.toList.drop (k + 1)) else if cho b then hdrTo m (n + 1) (t.data.toList.drop (k + 1)) else false) := rfl
      by_cases ha : (49 : Int) ≤ (b.toNat : Int) ∧ (b.toNat : Int) ≤ 57
      · have e1 : ind b = true := by simp [ind, indN, ha]
        have H3 : Hid (hdr t.data.toList = hdrTo (m + 1) n (t.data.toList.drop (k + 1))) := by
          show hdr _ = _
          rw [H2.out, HB.out, if_pos e1]
        obtain ⟨ha1, ha2⟩ := ha
        clear H2 HB e1
        go_wp2
        go_round
        case rel => exact ⟨k + 1, m + 1, n, by omega, by omega, by omega, by go_num, by go_num, rfl, H3⟩
        case measure => simp [intOf]; omega
      · have e1 : ¬ ind b = true := by simp only [ind, indN, Bool.and_eq_true, decide_eq_true_eq]; exact ha
        by_cases hc : (b.toNat : Int) = 43 ∨ (b.toNat : Int) = 45
        · have e2 : cho b = true := by simp only [cho, choN, Bool.or_eq_true, decide_eq_true_eq]; exact hc
          have H3 : Hid (hdr t.data.toList = hdrTo m (n + 1) (t.data.toList.drop (k + 1))) := by
            show hdr _ = _
            rw [H2.out, HB.out, if_neg e1, if_pos e2]
          clear H2 HB e1 e2 ha
          obtain ⟨z, hz⟩ : ∃ z : Int, z = (b.toNat : Int) := ⟨_, rfl⟩
          rw [← hz] at hc hbl hcell
          clear hz
          rcases hc with rfl | rfl
          all_goals
            go_wp2
            go_round
            case rel => exact ⟨k + 1, m, n + 1, by omega, by omega, by omega, by go_num, rfl, by go_num, H3⟩
            case measure => simp [intOf]; omega
        · have e2 : ¬ cho b = true := by simp only [cho, choN, Bool.or_eq_true, decide_eq_true_eq]; exact hc
          have H3 : Hid (hdr t.data.toList = false) := by
            show hdr _ = _
            rw [H2.out, HB.out, if_neg e1, if_neg e2]
          clear H2 HB e1 e2
          have d1 : ((b.toNat : Int) == 43) = false := by simp; omega
          have d2 : ((b.toNat : Int) == 45) = false := by simp; omega
          by_cases hd : (49 : Int) ≤ (b.toNat : Int)
          · have hd2 : ¬ (b.toNat : Int) ≤ 57 := by omega
            clear hc ha
            go_wp2
            go_ret
            exact ⟨ret_bool (by rw [H3.out]), hb⟩
          · clear hc ha
            go_wp2
            go_ret
            exact ⟨ret_bool (by rw [H3.out]), hb⟩
    · have H3 : Hid (hdr t.data.toList = (decide (m ≤ 1) && decide (n ≤ 1))) := by
        show hdr _ = _
        rw [HH.out, List.drop_eq_nil_of_le (by simp; omega)]
        rfl
      clear HH
      by_cases hd : (m : Int) ≤ 1
      · by_cases hd2 : (n : Int) ≤ 1
        all_goals
          go_wp2
          go_ret
          exact ⟨ret_bool (by rw [H3.out]; simp; omega), hb⟩
      · have hd' : decide (m ≤ 1) = false := by simp; omega
        go_wp2
        go_ret
        exact ⟨ret_bool (by rw [H3.out, hd']; rfl), hb⟩

theorem row_at (t : ByteArray) (w : World) (cap : Nat) (fr : Nat × Nat) (j : Nat) (hj : j < t.size) : (w.alloc (.cells (bytesRow t cap) 5 fr)).cell? ⟨w.heap.size, j, none⟩ = some (.int .u8 ((t.data.toList.getD j 0).toNat : Int)) := by
  rw [World.cell?_alloc_mark, bytesRow_at t _ j hj]
  have e : t.data[j]? = some t.data[j] := Array.getElem?_eq_getElem hj
  simp [List.getD, e]

theorem tail_list (s : ByteArray) : (s.extract 1 s.size).data.toList = s.data.toList.tail := by
  have h : s.data.toList.length = s.size := by simp
  simp only [ByteArray.data_extract, Array.toList_extract, List.extract_eq_take_drop]
  rw [List.take_of_length_le (by simp), List.drop_one]

theorem header_any (s : ByteArray) (w : World) (h1 : 1 ≤ s.size) (hs : s.size ≤ 1048577) :
    Calls Try.prog 12 #[.string s] w fun e w' => e = .returned (.bool (hdr s.data.toList.tail)) ∧ Below w.heap.size w w' := by
  rw [← tail_list]
  exact header_core s (s.extract 1 s.size) _ _ w h1 (by omega) (by simp; omega) rfl (run_bytes_of_string w 9 25 5 _ Try.underlying9 Try.underlying25 Try.underlying5) (fun j hj => row_at _ _ _ _ j hj)

theorem zheader_any (s : ByteArray) (w : World) (h1 : 1 ≤ s.size) (hs : s.size ≤ 1048577) :
    Calls Try.prog 8 #[.string s] w fun e w' => e = .returned (.bool (hdr s.data.toList.tail)) ∧ Below w.heap.size w w' := by
  go_enter Try.func8, Try.ntmps8
  go_wp2_with (go_at_call 12; refine (header_any _ _ h1 hs).mono ?_; rintro e w' ⟨rfl, hb⟩)
  go_ret
  exact ⟨rfl, hb⟩

end Go.Proofs.Qxb6625858a.Parts
