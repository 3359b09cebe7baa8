/-
  THE LIBRARY's AppendUint16, AppendUint64 AND THE LAW's OWN LOOP zzs5507cbe, walked over this dump.
-/
import Derived.Test.YbulkdjaiRows
import Derived.Test.YbulkdjaiAid
import Derived.WalkKit
import Derived.WalkSpells
import Derived.Deep.DeepMust
import Derived.OpenShut
import Derived.Deep.RegionHeld3
import Derived.Deep.DrawnRows
import Derived.Deep.QuietTactic
import Derived.BigQuiet
import Derived.RowKit3
namespace Go.Proofs.Ybulkdjai
open Go.RowKit

theorem info5 : (Yba.prog.info? 5).map (fun i => (i.zero, i.size, i.bytes)) = some (some (.int .u8 0), 1, 1) := by kernel_rfl

theorem one_of_bytes (l : List Int) : ∀ u ∈ bytesV l, u.oneCell' = true := ints_oneCell .u8 l

theorem be8 (x : Int) (h0 : 0 ≤ x) (h : x < 18446744073709551616) :
    bytesV (be x 8) = [.int .u8 (x / 72057594037927936), .int .u8 (x / 281474976710656 % 256), .int .u8 (x / 1099511627776 % 256), .int .u8 (x / 4294967296 % 256), .int .u8 (x / 16777216 % 256), .int .u8 (x / 65536 % 256), .int .u8 (x / 256 % 256), .int .u8 (x % 256)] := by
  have e : x / 72057594037927936 % 256 = x / 72057594037927936 := by omega
  simp [be, byteOf, bytesV, e]

set_option maxHeartbeats 1000000 in
theorem app64 (B n : Nat) (v : Value) (xs : List Value) (x : Int) (w : World) (hown : w.ownsRow B 5 1 v n xs) (hB : B ≤ w.heap.size) (hn : n ≤ 1000000000) (hx0 : 0 ≤ x) (hx : x < 18446744073709551616) :
    Calls Yba.prog 8 #[.agg #[], v, .int .u64 x] w fun e w' => ∃ g cap, e = .returned (.slice (some ⟨g, 0, none⟩) (n + 8) cap) ∧
      w'.ownsRow B 5 1 (.slice (some ⟨g, 0, none⟩) (n + 8) cap) (n + 8) (xs ++ bytesV (be x 8)) ∧ Grew w w' v (.slice (some ⟨g, 0, none⟩) (n + 8) cap) := by
  rw [be8 x hx0 hx]
  go_enter Yba.func8, Yba.ntmps8
  go_wp2_with (at_builtin; go_must (refine wpList_app (w.alloc (.cells #[] 33)) rfl _ _ 22 rfl 5 Yba.underlying22 info5 B v n xs (by rfl) (hown.alloc _) (w.heap.size + 1) (by simp) 8 _ (by rfl) (by rfl) (by simp [Value.oneCell']) (by omega) (by omega) (by simp; omega) ?_); intro g cap w1 hown1 hgrow1)
  go_ret
  exact ⟨g, cap, rfl, hown1, hgrow1.ofAlloc⟩

theorem be2 (x : Int) (h0 : 0 ≤ x) (h : x < 65536) : bytesV (be x 2) = [.int .u8 (x / 256), .int .u8 (x % 256)] := by
  have e : x / 256 % 256 = x / 256 := by omega
  simp [be, byteOf, bytesV, e]

set_option maxHeartbeats 1000000 in
theorem app16 (B n : Nat) (v : Value) (xs : List Value) (x : Int) (w : World) (hown : w.ownsRow B 5 1 v n xs) (hB : B ≤ w.heap.size) (hn : n ≤ 1000000000) (hx0 : 0 ≤ x) (hx : x < 65536) :
    Calls Yba.prog 7 #[.agg #[], v, .int .u16 x] w fun e w' => ∃ g cap, e = .returned (.slice (some ⟨g, 0, none⟩) (n + 2) cap) ∧
      w'.ownsRow B 5 1 (.slice (some ⟨g, 0, none⟩) (n + 2) cap) (n + 2) (xs ++ bytesV (be x 2)) ∧ Grew w w' v (.slice (some ⟨g, 0, none⟩) (n + 2) cap) := by
  rw [be2 x hx0 hx]
  go_enter Yba.func7, Yba.ntmps7
  go_wp2_with (at_builtin; go_must (refine wpList_app (w.alloc (.cells #[] 33)) rfl _ _ 22 rfl 5 Yba.underlying22 info5 B v n xs (by rfl) (hown.alloc _) (w.heap.size + 1) (by simp) 2 _ (by rfl) (by rfl) (by simp [Value.oneCell']) (by omega) (by omega) (by simp; omega) ?_); intro g cap w1 hown1 hgrow1)
  go_ret
  exact ⟨g, cap, rfl, hown1, hgrow1.ofAlloc⟩

set_option maxHeartbeats 1000000 in
theorem beloop (B n cnt : Nat) (v : Value) (xs : List Value) (x : Int) (w : World) (hown : w.ownsRow B 5 1 v n xs) (hB : B ≤ w.heap.size) (hn : n ≤ 1000000000) (hc : cnt ≤ 8) (_hx0 : 0 ≤ x) (_hx : x < 18446744073709551616) :
    Calls Yba.prog 6 #[v, .int .u64 x, .int .i64 cnt] w fun e w' => ∃ v', e = .returned v' ∧
      w'.ownsRow B 5 1 v' (n + cnt) (xs ++ bytesV (be x cnt)) ∧ Grew w w' v v' := by
  go_enter Yba.func6, Yba.ntmps6
  go_wp2_with fail
  go_loopw [0, 7] (fun u i wr => ∃ k : Nat, k ≤ cnt ∧ i = .int .i64 ((k : Int) - 1) ∧ wr.ownsRow B 5 1 u (n + (cnt - k)) (xs ++ bytesV ((be x cnt).take (cnt - k))) ∧ Grew w wr v u) (fun _ i _ => (intOf i + 1).toNat)
  case atStart => exact ⟨cnt, Nat.le_refl _, rfl, by simpa [bytesV] using hown, Grew.refl _ _⟩
  case round =>
    obtain ⟨k, hk, rfl, hown1, hg1⟩ := hrel
    have hz := hg1.size
    by_cases h0 : 0 < k
    · go_wp2_with (at_builtin; go_must (refine wpList_app wr rfl _ _ 22 rfl 5 Yba.underlying22 info5 B _ (n + (cnt - k)) _ (by rfl) hown1 wr.heap.size rfl 1 _ (by rfl) (by rfl) (by simp [Value.oneCell']) (by omega) (by omega) (by omega) ?_); intro g cap w1 hown2 hgrow2)
      have R := be_round hk h0 hown2
      have G := hg1.trans hgrow2
      clear hown2 hgrow2 hown1 hg1
      go_wp2_with fail
      go_roundw
      case rel => exact ⟨k - 1, by omega, by go_num, by simpa using R, by simpa using G⟩
      case measure => simp [intOf]; omega
    · go_wp2_with fail
      go_ret
      exact ⟨_, rfl, by simpa [show k = 0 by omega, length_be, List.take_of_length_le] using hown1, hg1⟩
end Go.Proofs.Ybulkdjai
