/-
  The seat's own text: the walk of cutURL.
-/
import Derived.Test.Qxb6600295aCutBase
namespace Go.Proofs.Qxb6600295a
open Go.RowKit Go.Deep Plain
set_option linter.unusedSimpArgs false

theorem ix_no (s : ByteArray) (c : UInt8) (w : World) (hs : s.size ≤ 100000000) (h : ix c (bytesOf s) = none) : Calls Try.prog 22 #[.string s, .int .u8 ((c.toNat : Nat) : Int)] w (fun e w' => e = .returned (.int .i64 (-1)) ∧ w' = w) := by
  refine (index_any s c w (by omega)).mono ?_
  rintro e _ ⟨rfl, ⟨rfl, hi⟩ | ⟨k, rfl, hi⟩⟩
  · exact ⟨rfl, rfl⟩
  · rw [h] at hi; cases hi
theorem ix_yes (s : ByteArray) (c : UInt8) (w : World) (hs : s.size ≤ 100000000) {k : Nat} (h : ix c (bytesOf s) = some k) : Calls Try.prog 22 #[.string s, .int .u8 ((c.toNat : Nat) : Int)] w (fun e w' => e = .returned (.int .i64 k) ∧ w' = w) := by
  refine (index_any s c w (by omega)).mono ?_
  rintro e _ ⟨rfl, ⟨rfl, hi⟩ | ⟨j, rfl, hi⟩⟩
  · rw [h] at hi; cases hi
  · rw [h] at hi; cases hi; exact ⟨rfl, rfl⟩
theorem user_no {s : ByteArray} (h : ix 64 (bytesOf s) = none) : user (bytesOf s) = (bytesOf ⟨#[]⟩, false, bytesOf s) := by rw [user, h]; rfl
theorem user_yes {s : ByteArray} {k : Nat} (h : ix 64 (bytesOf s) = some k) : user (bytesOf s) = (bytesOf (s.extract 0 k), true, bytesOf (s.extract (k + 1) s.size)) := by
  rw [user, h, bytes_head, bytes_tail]

set_option maxHeartbeats 1600000 in
theorem cut_00 (s : ByteArray) (w : World) (hs : s.size ≤ 100000000) (h1 : ix 35 (bytesOf s) = none) (h2 : ix 63 (bytesOf s) = none) : Calls Try.prog 10 #[.string s] w (CutPost s w) := by
  have O1 := off_no h1
  have O2 := off_no h2
  replace O1 : Hid (_ = _) := O1
  replace O2 : Hid (_ = _) := O2
  go_enter Try.func10, Try.ntmps10
  go_wp2_with fail
  refine (ix_no s 35 _ (by omega) h1).mono ?_
  rintro e _ ⟨rfl, rfl⟩
  go_wp2_with fail
  refine (ix_no _ 63 _ (by omega) h2).mono ?_
  rintro e _ ⟨rfl, rfl⟩
  clear h1 h2
  go_wp2_with fail
  refine (scheme_any s _ (by omega)).mono ?_
  rintro e _ ⟨rfl, ⟨rfl, hse⟩ | ⟨n, rfl, hse⟩⟩
  · have HC : Hid (partsOf ⟨#[]⟩ ⟨#[]⟩ ⟨#[]⟩ s ⟨#[]⟩ ⟨#[]⟩ false false false false = cut (bytesOf s)) := by
      change _ = _
      unfold cut; simp only [O1.out, O2.out, hse]; rfl
    clear hse O1 O2
    go_wp2_with fail
    refine bodyPost_ret (v := .agg #[.string ⟨#[]⟩, .string ⟨#[]⟩, .string ⟨#[]⟩, .string s, .string ⟨#[]⟩, .string ⟨#[]⟩, .bool false, .bool false, .bool false, .bool false]) (by simp [results, Try.results10, go_sem]) rfl ⟨_, _, _, _, _, _, _, _, _, _, rfl, HC, ((Below.refl _ w).alloc (Nat.le_refl _) _).alloc (by simp) _⟩
  · have hn := se_lt hse
    rw [bytes_len] at hn
    have hR : (s.extract (n + 3) s.size).size ≤ 100000000 := by rw [size_tail _ _ hn]; omega
    have HC : Hid (∀ U H P u, user ((bytesOf (s.extract (n + 3) s.size)).take (slash (bytesOf (s.extract (n + 3) s.size)))) = (bytesOf U, u, bytesOf H) → bytesOf P = (bytesOf (s.extract (n + 3) s.size)).drop (slash (bytesOf (s.extract (n + 3) s.size))) → partsOf (s.extract 0 n) U H P ⟨#[]⟩ ⟨#[]⟩ true u false false = cut (bytesOf s)) := by
      intro U H P u hu hp
      rw [bytes_tail] at hu hp
      unfold cut; simp only [O1.out, O2.out, hse, hu, ← hp, ← bytes_head]; rfl
    clear hse O1 O2
    go_wp2_with fail
    generalize s.extract (n + 3) s.size = R at *
    generalize s.extract 0 n = S at *
    refine (index_any R 47 _ (by omega)).mono ?_
    rintro e _ ⟨rfl, ⟨rfl, hi⟩ | ⟨m, rfl, hi⟩⟩
    · have hsl : slash (bytesOf R) = R.size := by rw [slash, hi]; exact bytes_len R
      rw [hsl, ← bytes_len, List.take_length, List.drop_length] at HC
      clear hi hsl
      go_wp2_with fail
      refine (index_any R 64 _ (by omega)).mono ?_
      rintro e _ ⟨rfl, ⟨rfl, hi⟩ | ⟨j, rfl, hi⟩⟩
      · have HC := HC ⟨#[]⟩ R ByteArray.empty false (user_no hi) rfl
        replace HC : Hid (_ = _) := HC
        clear hi
        go_wp2_with fail
        refine bodyPost_ret (v := .agg #[.string S, .string ⟨#[]⟩, .string R, .string ByteArray.empty, .string ⟨#[]⟩, .string ⟨#[]⟩, .bool true, .bool false, .bool false, .bool false]) (by simp [results, Try.results10, go_sem]) rfl ⟨_, _, _, _, _, _, _, _, _, _, rfl, HC, ((Below.refl _ w).alloc (Nat.le_refl _) _).alloc (by simp) _⟩
      · have hj := ix_lt hi
        rw [bytes_len] at hj
        have HC := HC (R.extract 0 j) (R.extract (j + 1) R.size) ByteArray.empty true (user_yes hi) rfl
        replace HC : Hid (_ = _) := HC
        clear hi
        go_wp2_with fail
        refine bodyPost_ret (v := .agg #[.string S, .string (R.extract 0 j), .string (R.extract (j + 1) R.size), .string ByteArray.empty, .string ⟨#[]⟩, .string ⟨#[]⟩, .bool true, .bool true, .bool false, .bool false]) (by simp [results, Try.results10, go_sem]) rfl ⟨_, _, _, _, _, _, _, _, _, _, rfl, HC, ((Below.refl _ w).alloc (Nat.le_refl _) _).alloc (by simp) _⟩
    · have hm := ix_lt hi
      rw [bytes_len] at hm
      have hsl : slash (bytesOf R) = m := by rw [slash, hi]; rfl
      rw [hsl, ← bytes_head, ← bytes_tail] at HC
      have hA : (R.extract 0 m).size ≤ 100000000 := by rw [size_head _ _ (by omega)]; omega
      clear hi hsl
      go_wp2_with fail
      generalize R.extract 0 m = A at *
      generalize R.extract m R.size = P at *
      refine (index_any A 64 _ (by omega)).mono ?_
      rintro e _ ⟨rfl, ⟨rfl, hi⟩ | ⟨j, rfl, hi⟩⟩
      · have HC := HC ⟨#[]⟩ A P false (user_no hi) rfl
        replace HC : Hid (_ = _) := HC
        clear hi
        go_wp2_with fail
        refine bodyPost_ret (v := .agg #[.string S, .string ⟨#[]⟩, .string A, .string P, .string ⟨#[]⟩, .string ⟨#[]⟩, .bool true, .bool false, .bool false, .bool false]) (by simp [results, Try.results10, go_sem]) rfl ⟨_, _, _, _, _, _, _, _, _, _, rfl, HC, ((Below.refl _ w).alloc (Nat.le_refl _) _).alloc (by simp) _⟩
      · have hj := ix_lt hi
        rw [bytes_len] at hj
        have HC := HC (A.extract 0 j) (A.extract (j + 1) A.size) P true (user_yes hi) rfl
        replace HC : Hid (_ = _) := HC
        clear hi
        go_wp2_with fail
        refine bodyPost_ret (v := .agg #[.string S, .string (A.extract 0 j), .string (A.extract (j + 1) A.size), .string P, .string ⟨#[]⟩, .string ⟨#[]⟩, .bool true, .bool true, .bool false, .bool false]) (by simp [results, Try.results10, go_sem]) rfl ⟨_, _, _, _, _, _, _, _, _, _, rfl, HC, ((Below.refl _ w).alloc (Nat.le_refl _) _).alloc (by simp) _⟩
set_option maxHeartbeats 1600000 in
theorem cut_01 (s : ByteArray) (w : World) (hs : s.size ≤ 100000000) (h1 : ix 35 (bytesOf s) = none) (k2 : Nat) (h2 : ix 63 (bytesOf s) = some k2) : Calls Try.prog 10 #[.string s] w (CutPost s w) := by
  have O1 := off_no h1
  have O2 := off_yes h2
  have hk2 := ix_lt h2
  rw [bytes_len] at hk2
  have hz2 : (s.extract 0 k2).size ≤ 100000000 := by rw [size_head _ k2 (by omega)]; omega
  replace O1 : Hid (_ = _) := O1
  replace O2 : Hid (_ = _) := O2
  go_enter Try.func10, Try.ntmps10
  go_wp2_with fail
  refine (ix_no s 35 _ (by omega) h1).mono ?_
  rintro e _ ⟨rfl, rfl⟩
  go_wp2_with fail
  refine (ix_yes _ 63 _ (by omega) h2).mono ?_
  rintro e _ ⟨rfl, rfl⟩
  clear h1 h2
  go_wp2_with fail
  generalize s.extract (k2 + 1) s.size = Q at *
  generalize s.extract 0 k2 = T at *
  refine (scheme_any T _ (by omega)).mono ?_
  rintro e _ ⟨rfl, ⟨rfl, hse⟩ | ⟨n, rfl, hse⟩⟩
  · have HC : Hid (partsOf ⟨#[]⟩ ⟨#[]⟩ ⟨#[]⟩ T Q ⟨#[]⟩ false false true false = cut (bytesOf s)) := by
      change _ = _
      unfold cut; simp only [O1.out, O2.out, hse]; rfl
    clear hse O1 O2
    go_wp2_with fail
    refine bodyPost_ret (v := .agg #[.string ⟨#[]⟩, .string ⟨#[]⟩, .string ⟨#[]⟩, .string T, .string Q, .string ⟨#[]⟩, .bool false, .bool false, .bool true, .bool false]) (by simp [results, Try.results10, go_sem]) rfl ⟨_, _, _, _, _, _, _, _, _, _, rfl, HC, ((Below.refl _ w).alloc (Nat.le_refl _) _).alloc (by simp) _⟩
  · have hn := se_lt hse
    rw [bytes_len] at hn
    have hR : (T.extract (n + 3) T.size).size ≤ 100000000 := by rw [size_tail _ _ hn]; omega
    have HC : Hid (∀ U H P u, user ((bytesOf (T.extract (n + 3) T.size)).take (slash (bytesOf (T.extract (n + 3) T.size)))) = (bytesOf U, u, bytesOf H) → bytesOf P = (bytesOf (T.extract (n + 3) T.size)).drop (slash (bytesOf (T.extract (n + 3) T.size))) → partsOf (T.extract 0 n) U H P Q ⟨#[]⟩ true u true false = cut (bytesOf s)) := by
      intro U H P u hu hp
      rw [bytes_tail] at hu hp
      unfold cut; simp only [O1.out, O2.out, hse, hu, ← hp, ← bytes_head]; rfl
    clear hse O1 O2
    go_wp2_with fail
    generalize T.extract (n + 3) T.size = R at *
    generalize T.extract 0 n = S at *
    refine (index_any R 47 _ (by omega)).mono ?_
    rintro e _ ⟨rfl, ⟨rfl, hi⟩ | ⟨m, rfl, hi⟩⟩
    · have hsl : slash (bytesOf R) = R.size := by rw [slash, hi]; exact bytes_len R
      rw [hsl, ← bytes_len, List.take_length, List.drop_length] at HC
      clear hi hsl
      go_wp2_with fail
      refine (index_any R 64 _ (by omega)).mono ?_
      rintro e _ ⟨rfl, ⟨rfl, hi⟩ | ⟨j, rfl, hi⟩⟩
      · have HC := HC ⟨#[]⟩ R ByteArray.empty false (user_no hi) rfl
        replace HC : Hid (_ = _) := HC
        clear hi
        go_wp2_with fail
        refine bodyPost_ret (v := .agg #[.string S, .string ⟨#[]⟩, .string R, .string ByteArray.empty, .string Q, .string ⟨#[]⟩, .bool true, .bool false, .bool true, .bool false]) (by simp [results, Try.results10, go_sem]) rfl ⟨_, _, _, _, _, _, _, _, _, _, rfl, HC, ((Below.refl _ w).alloc (Nat.le_refl _) _).alloc (by simp) _⟩
      · have hj := ix_lt hi
        rw [bytes_len] at hj
        have HC := HC (R.extract 0 j) (R.extract (j + 1) R.size) ByteArray.empty true (user_yes hi) rfl
        replace HC : Hid (_ = _) := HC
        clear hi
        go_wp2_with fail
        refine bodyPost_ret (v := .agg #[.string S, .string (R.extract 0 j), .string (R.extract (j + 1) R.size), .string ByteArray.empty, .string Q, .string ⟨#[]⟩, .bool true, .bool true, .bool true, .bool false]) (by simp [results, Try.results10, go_sem]) rfl ⟨_, _, _, _, _, _, _, _, _, _, rfl, HC, ((Below.refl _ w).alloc (Nat.le_refl _) _).alloc (by simp) _⟩
    · have hm := ix_lt hi
      rw [bytes_len] at hm
      have hsl : slash (bytesOf R) = m := by rw [slash, hi]; rfl
      rw [hsl, ← bytes_head, ← bytes_tail] at HC
      have hA : (R.extract 0 m).size ≤ 100000000 := by rw [size_head _ _ (by omega)]; omega
      clear hi hsl
      go_wp2_with fail
      generalize R.extract 0 m = A at *
      generalize R.extract m R.size = P at *
      refine (index_any A 64 _ (by omega)).mono ?_
      rintro e _ ⟨rfl, ⟨rfl, hi⟩ | ⟨j, rfl, hi⟩⟩
      · have HC := HC ⟨#[]⟩ A P false (user_no hi) rfl
        replace HC : Hid (_ = _) := HC
        clear hi
        go_wp2_with fail
        refine bodyPost_ret (v := .agg #[.string S, .string ⟨#[]⟩, .string A, .string P, .string Q, .string ⟨#[]⟩, .bool true, .bool false, .bool true, .bool false]) (by simp [results, Try.results10, go_sem]) rfl ⟨_, _, _, _, _, _, _, _, _, _, rfl, HC, ((Below.refl _ w).alloc (Nat.le_refl _) _).alloc (by simp) _⟩
      · have hj := ix_lt hi
        rw [bytes_len] at hj
        have HC := HC (A.extract 0 j) (A.extract (j + 1) A.size) P true (user_yes hi) rfl
        replace HC : Hid (_ = _) := HC
        clear hi
        go_wp2_with fail
        refine bodyPost_ret (v := .agg #[.string S, .string (A.extract 0 j), .string (A.extract (j + 1) A.size), .string P, .string Q, .string ⟨#[]⟩, .bool true, .bool true, .bool true, .bool false]) (by simp [results, Try.results10, go_sem]) rfl ⟨_, _, _, _, _, _, _, _, _, _, rfl, HC, ((Below.refl _ w).alloc (Nat.le_refl _) _).alloc (by simp) _⟩
set_option maxHeartbeats 1600000 in
theorem cut_10 (s : ByteArray) (w : World) (hs : s.size ≤ 100000000) (k1 : Nat) (h1 : ix 35 (bytesOf s) = some k1) (h2 : ix 63 (bytesOf (s.extract 0 k1)) = none) : Calls Try.prog 10 #[.string s] w (CutPost s w) := by
  have O1 := off_yes h1
  have hk1 := ix_lt h1
  rw [bytes_len] at hk1
  have hz1 : (s.extract 0 k1).size ≤ 100000000 := by rw [size_head s k1 (by omega)]; omega
  have O2 := off_no h2
  replace O1 : Hid (_ = _) := O1
  replace O2 : Hid (_ = _) := O2
  go_enter Try.func10, Try.ntmps10
  go_wp2_with fail
  refine (ix_yes s 35 _ (by omega) h1).mono ?_
  rintro e _ ⟨rfl, rfl⟩
  go_wp2_with fail
  generalize s.extract (k1 + 1) s.size = F at *
  generalize s.extract 0 k1 = T1 at *
  refine (ix_no _ 63 _ (by omega) h2).mono ?_
  rintro e _ ⟨rfl, rfl⟩
  clear h1 h2
  go_wp2_with fail
  refine (scheme_any T1 _ (by omega)).mono ?_
  rintro e _ ⟨rfl, ⟨rfl, hse⟩ | ⟨n, rfl, hse⟩⟩
  · have HC : Hid (partsOf ⟨#[]⟩ ⟨#[]⟩ ⟨#[]⟩ T1 ⟨#[]⟩ F false false false true = cut (bytesOf s)) := by
      change _ = _
      unfold cut; simp only [O1.out, O2.out, hse]; rfl
    clear hse O1 O2
    go_wp2_with fail
    refine bodyPost_ret (v := .agg #[.string ⟨#[]⟩, .string ⟨#[]⟩, .string ⟨#[]⟩, .string T1, .string ⟨#[]⟩, .string F, .bool false, .bool false, .bool false, .bool true]) (by simp [results, Try.results10, go_sem]) rfl ⟨_, _, _, _, _, _, _, _, _, _, rfl, HC, ((Below.refl _ w).alloc (Nat.le_refl _) _).alloc (by simp) _⟩
  · have hn := se_lt hse
    rw [bytes_len] at hn
    have hR : (T1.extract (n + 3) T1.size).size ≤ 100000000 := by rw [size_tail _ _ hn]; omega
    have HC : Hid (∀ U H P u, user ((bytesOf (T1.extract (n + 3) T1.size)).take (slash (bytesOf (T1.extract (n + 3) T1.size)))) = (bytesOf U, u, bytesOf H) → bytesOf P = (bytesOf (T1.extract (n + 3) T1.size)).drop (slash (bytesOf (T1.extract (n + 3) T1.size))) → partsOf (T1.extract 0 n) U H P ⟨#[]⟩ F true u false true = cut (bytesOf s)) := by
      intro U H P u hu hp
      rw [bytes_tail] at hu hp
      unfold cut; simp only [O1.out, O2.out, hse, hu, ← hp, ← bytes_head]; rfl
    clear hse O1 O2
    go_wp2_with fail
    generalize T1.extract (n + 3) T1.size = R at *
    generalize T1.extract 0 n = S at *
    refine (index_any R 47 _ (by omega)).mono ?_
    rintro e _ ⟨rfl, ⟨rfl, hi⟩ | ⟨m, rfl, hi⟩⟩
    · have hsl : slash (bytesOf R) = R.size := by rw [slash, hi]; exact bytes_len R
      rw [hsl, ← bytes_len, List.take_length, List.drop_length] at HC
      clear hi hsl
      go_wp2_with fail
      refine (index_any R 64 _ (by omega)).mono ?_
      rintro e _ ⟨rfl, ⟨rfl, hi⟩ | ⟨j, rfl, hi⟩⟩
      · have HC := HC ⟨#[]⟩ R ByteArray.empty false (user_no hi) rfl
        replace HC : Hid (_ = _) := HC
        clear hi
        go_wp2_with fail
        refine bodyPost_ret (v := .agg #[.string S, .string ⟨#[]⟩, .string R, .string ByteArray.empty, .string ⟨#[]⟩, .string F, .bool true, .bool false, .bool false, .bool true]) (by simp [results, Try.results10, go_sem]) rfl ⟨_, _, _, _, _, _, _, _, _, _, rfl, HC, ((Below.refl _ w).alloc (Nat.le_refl _) _).alloc (by simp) _⟩
      · have hj := ix_lt hi
        rw [bytes_len] at hj
        have HC := HC (R.extract 0 j) (R.extract (j + 1) R.size) ByteArray.empty true (user_yes hi) rfl
        replace HC : Hid (_ = _) := HC
        clear hi
        go_wp2_with fail
        refine bodyPost_ret (v := .agg #[.string S, .string (R.extract 0 j), .string (R.extract (j + 1) R.size), .string ByteArray.empty, .string ⟨#[]⟩, .string F, .bool true, .bool true, .bool false, .bool true]) (by simp [results, Try.results10, go_sem]) rfl ⟨_, _, _, _, _, _, _, _, _, _, rfl, HC, ((Below.refl _ w).alloc (Nat.le_refl _) _).alloc (by simp) _⟩
    · have hm := ix_lt hi
      rw [bytes_len] at hm
      have hsl : slash (bytesOf R) = m := by rw [slash, hi]; rfl
      rw [hsl, ← bytes_head, ← bytes_tail] at HC
      have hA : (R.extract 0 m).size ≤ 100000000 := by rw [size_head _ _ (by omega)]; omega
      clear hi hsl
      go_wp2_with fail
      generalize R.extract 0 m = A at *
      generalize R.extract m R.size = P at *
      refine (index_any A 64 _ (by omega)).mono ?_
      rintro e _ ⟨rfl, ⟨rfl, hi⟩ | ⟨j, rfl, hi⟩⟩
      · have HC := HC ⟨#[]⟩ A P false (user_no hi) rfl
        replace HC : Hid (_ = _) := HC
        clear hi
        go_wp2_with fail
        refine bodyPost_ret (v := .agg #[.string S, .string ⟨#[]⟩, .string A, .string P, .string ⟨#[]⟩, .string F, .bool true, .bool false, .bool false, .bool true]) (by simp [results, Try.results10, go_sem]) rfl ⟨_, _, _, _, _, _, _, _, _, _, rfl, HC, ((Below.refl _ w).alloc (Nat.le_refl _) _).alloc (by simp) _⟩
      · have hj := ix_lt hi
        rw [bytes_len] at hj
        have HC := HC (A.extract 0 j) (A.extract (j + 1) A.size) P true (user_yes hi) rfl
        replace HC : Hid (_ = _) := HC
        clear hi
        go_wp2_with fail
        refine bodyPost_ret (v := .agg #[.string S, .string (A.extract 0 j), .string (A.extract (j + 1) A.size), .string P, .string ⟨#[]⟩, .string F, .bool true, .bool true, .bool false, .bool true]) (by simp [results, Try.results10, go_sem]) rfl ⟨_, _, _, _, _, _, _, _, _, _, rfl, HC, ((Below.refl _ w).alloc (Nat.le_refl _) _).alloc (by simp) _⟩
set_option maxHeartbeats 1600000 in
theorem cut_11 (s : ByteArray) (w : World) (hs : s.size ≤ 100000000) (k1 : Nat) (h1 : ix 35 (bytesOf s) = some k1) (k2 : Nat) (h2 : ix 63 (bytesOf (s.extract 0 k1)) = some k2) : Calls Try.prog 10 #[.string s] w (CutPost s w) := by
  have O1 := off_yes h1
  have hk1 := ix_lt h1
  rw [bytes_len] at hk1
  have hz1 : (s.extract 0 k1).size ≤ 100000000 := by rw [size_head s k1 (by omega)]; omega
  have O2 := off_yes h2
  have hk2 := ix_lt h2
  rw [bytes_len] at hk2
  have hz2 : ((s.extract 0 k1).extract 0 k2).size ≤ 100000000 := by rw [size_head _ k2 (by omega)]; omega
  replace O1 : Hid (_ = _) := O1
  replace O2 : Hid (_ = _) := O2
  go_enter Try.func10, Try.ntmps10
  go_wp2_with fail
  refine (ix_yes s 35 _ (by omega) h1).mono ?_
  rintro e _ ⟨rfl, rfl⟩
  go_wp2_with fail
  generalize s.extract (k1 + 1) s.size = F at *
  generalize s.extract 0 k1 = T1 at *
  refine (ix_yes _ 63 _ (by omega) h2).mono ?_
  rintro e _ ⟨rfl, rfl⟩
  clear h1 h2
  go_wp2_with fail
  generalize T1.extract (k2 + 1) T1.size = Q at *
  generalize T1.extract 0 k2 = T at *
  refine (scheme_any T _ (by omega)).mono ?_
  rintro e _ ⟨rfl, ⟨rfl, hse⟩ | ⟨n, rfl, hse⟩⟩
  · have HC : Hid (partsOf ⟨#[]⟩ ⟨#[]⟩ ⟨#[]⟩ T Q F false false true true = cut (bytesOf s)) := by
      change _ = _
      unfold cut; simp only [O1.out, O2.out, hse]; rfl
    clear hse O1 O2
    go_wp2_with fail
    refine bodyPost_ret (v := .agg #[.string ⟨#[]⟩, .string ⟨#[]⟩, .string ⟨#[]⟩, .string T, .string Q, .string F, .bool false, .bool false, .bool true, .bool true]) (by simp [results, Try.results10, go_sem]) rfl ⟨_, _, _, _, _, _, _, _, _, _, rfl, HC, ((Below.refl _ w).alloc (Nat.le_refl _) _).alloc (by simp) _⟩
  · have hn := se_lt hse
    rw [bytes_len] at hn
    have hR : (T.extract (n + 3) T.size).size ≤ 100000000 := by rw [size_tail _ _ hn]; omega
    have HC : Hid (∀ U H P u, user ((bytesOf (T.extract (n + 3) T.size)).take (slash (bytesOf (T.extract (n + 3) T.size)))) = (bytesOf U, u, bytesOf H) → bytesOf P = (bytesOf (T.extract (n + 3) T.size)).drop (slash (bytesOf (T.extract (n + 3) T.size))) → partsOf (T.extract 0 n) U H P Q F true u true true = cut (bytesOf s)) := by
      intro U H P u hu hp
      rw [bytes_tail] at hu hp
      unfold cut; simp only [O1.out, O2.out, hse, hu, ← hp, ← bytes_head]; rfl
    clear hse O1 O2
    go_wp2_with fail
    generalize T.extract (n + 3) T.size = R at *
    generalize T.extract 0 n = S at *
    refine (index_any R 47 _ (by omega)).mono ?_
    rintro e _ ⟨rfl, ⟨rfl, hi⟩ | ⟨m, rfl, hi⟩⟩
    · have hsl : slash (bytesOf R) = R.size := by rw [slash, hi]; exact bytes_len R
      rw [hsl, ← bytes_len, List.take_length, List.drop_length] at HC
      clear hi hsl
      go_wp2_with fail
      refine (index_any R 64 _ (by omega)).mono ?_
      rintro e _ ⟨rfl, ⟨rfl, hi⟩ | ⟨j, rfl, hi⟩⟩
      · have HC := HC ⟨#[]⟩ R ByteArray.empty false (user_no hi) rfl
        replace HC : Hid (_ = _) := HC
        clear hi
        go_wp2_with fail
        refine bodyPost_ret (v := .agg #[.string S, .string ⟨#[]⟩, .string R, .string ByteArray.empty, .string Q, .string F, .bool true, .bool false, .bool true, .bool true]) (by simp [results, Try.results10, go_sem]) rfl ⟨_, _, _, _, _, _, _, _, _, _, rfl, HC, ((Below.refl _ w).alloc (Nat.le_refl _) _).alloc (by simp) _⟩
      · have hj := ix_lt hi
        rw [bytes_len] at hj
        have HC := HC (R.extract 0 j) (R.extract (j + 1) R.size) ByteArray.empty true (user_yes hi) rfl
        replace HC : Hid (_ = _) := HC
        clear hi
        go_wp2_with fail
        refine bodyPost_ret (v := .agg #[.string S, .string (R.extract 0 j), .string (R.extract (j + 1) R.size), .string ByteArray.empty, .string Q, .string F, .bool true, .bool true, .bool true, .bool true]) (by simp [results, Try.results10, go_sem]) rfl ⟨_, _, _, _, _, _, _, _, _, _, rfl, HC, ((Below.refl _ w).alloc (Nat.le_refl _) _).alloc (by simp) _⟩
    · have hm := ix_lt hi
      rw [bytes_len] at hm
      have hsl : slash (bytesOf R) = m := by rw [slash, hi]; rfl
      rw [hsl, ← bytes_head, ← bytes_tail] at HC
      have hA : (R.extract 0 m).size ≤ 100000000 := by rw [size_head _ _ (by omega)]; omega
      clear hi hsl
      go_wp2_with fail
      generalize R.extract 0 m = A at *
      generalize R.extract m R.size = P at *
      refine (index_any A 64 _ (by omega)).mono ?_
      rintro e _ ⟨rfl, ⟨rfl, hi⟩ | ⟨j, rfl, hi⟩⟩
      · have HC := HC ⟨#[]⟩ A P false (user_no hi) rfl
        replace HC : Hid (_ = _) := HC
        clear hi
        go_wp2_with fail
        refine bodyPost_ret (v := .agg #[.string S, .string ⟨#[]⟩, .string A, .string P, .string Q, .string F, .bool true, .bool false, .bool true, .bool true]) (by simp [results, Try.results10, go_sem]) rfl ⟨_, _, _, _, _, _, _, _, _, _, rfl, HC, ((Below.refl _ w).alloc (Nat.le_refl _) _).alloc (by simp) _⟩
      · have hj := ix_lt hi
        rw [bytes_len] at hj
        have HC := HC (A.extract 0 j) (A.extract (j + 1) A.size) P true (user_yes hi) rfl
        replace HC : Hid (_ = _) := HC
        clear hi
        go_wp2_with fail
        refine bodyPost_ret (v := .agg #[.string S, .string (A.extract 0 j), .string (A.extract (j + 1) A.size), .string P, .string Q, .string F, .bool true, .bool true, .bool true, .bool true]) (by simp [results, Try.results10, go_sem]) rfl ⟨_, _, _, _, _, _, _, _, _, _, rfl, HC, ((Below.refl _ w).alloc (Nat.le_refl _) _).alloc (by simp) _⟩
theorem cut_any (s : ByteArray) (w : World) (hs : s.size ≤ 100000000) : Calls Try.prog 10 #[.string s] w (CutPost s w) := by
  cases h1 : ix 35 (bytesOf s) with
  | none =>
    cases h2 : ix 63 (bytesOf s) with
    | none => exact cut_00 s w hs h1 h2
    | some k2 => exact cut_01 s w hs h1 k2 h2
  | some k1 =>
    cases h2 : ix 63 (bytesOf (s.extract 0 k1)) with
    | none => exact cut_10 s w hs k1 h1 h2
    | some k2 => exact cut_11 s w hs k1 h1 k2 h2

end Go.Proofs.Qxb6600295a
