/-
  THE LIBRARY's AppendUint16, AppendUint64 walked over this dump.
-/
import Derived.Test.YbulkdjaiDoorRows
import Derived.Test.YbulkdjaiDoorAid
import Derived.WalkKit
import Derived.WalkSpells
import Derived.Deep.DeepMust
import Derived.OpenShut
import Derived.Deep.RegionHeld3
import Derived.Deep.DrawnRows
import Derived.Deep.QuietTactic
import Derived.BigQuiet
import Derived.RowKit3
namespace Go.Proofs.YbulkdjaiDoor
open Go.RowKit

theorem info5 : (Ybad.prog.info? 5).map (fun i => (i.zero, i.size, i.bytes)) = some (some (.int .u8 0), 1, 1) := by kernel_rfl

theorem one_of_bytes (l : List Int) : ∀ u ∈ bytesV l, u.oneCell' = true := ints_oneCell .u8 l

theorem be8 (x : Int) (h0 : 0 ≤ x) (h : x < 18446744073709551616) :
    bytesV (be x 8) = [.int .u8 (x / 72057594037927936), .int .u8 (x / 281474976710656 % 256), .int .u8 (x / 1099511627776 % 256), .int .u8 (x / 4294967296 % 256), .int .u8 (x / 16777216 % 256), .int .u8 (x / 65536 % 256), .int .u8 (x / 256 % 256), .int .u8 (x % 256)] := by
  have e : x / 72057594037927936 % 256 = x / 72057594037927936 := by omega
  simp [be, byteOf, bytesV, e]

set_option maxHeartbeats 1000000 in
theorem app64 (B n : Nat) (v : Value) (xs : List Value) (x : Int) (w : World) (hown : w.ownsRow B 5 1 v n xs) (hB : B ≤ w.heap.size) (hn : n ≤ 1000000000) (hx0 : 0 ≤ x) (hx : x < 18446744073709551616) :
    Calls Ybad.prog 22 #[.agg #[], v, .int .u64 x] w fun e w' => ∃ g cap, e = .returned (.slice (some ⟨g, 0, none⟩) (n + 8) cap) ∧
      w'.ownsRow B 5 1 (.slice (some ⟨g, 0, none⟩) (n + 8) cap) (n + 8) (xs ++ bytesV (be x 8)) ∧ Grew w w' v (.slice (some ⟨g, 0, none⟩) (n + 8) cap) := by
  rw [be8 x hx0 hx]
  go_enter Ybad.func22, Ybad.ntmps22
  go_wp2_with (at_builtin; go_must (refine wpList_app (w.alloc (.cells #[] 53)) rfl _ _ 25 rfl 5 Ybad.underlying25 info5 B v n xs (by rfl) (hown.alloc _) (w.heap.size + 1) (by simp) 8 _ (by rfl) (by rfl) (by simp [Value.oneCell']) (by omega) (by omega) (by simp; omega) ?_); intro g cap w1 hown1 hgrow1)
  go_ret
  exact ⟨g, cap, rfl, hown1, hgrow1.ofAlloc⟩

theorem be2 (x : Int) (h0 : 0 ≤ x) (h : x < 65536) : bytesV (be x 2) = [.int .u8 (x / 256), .int .u8 (x % 256)] := by
  have e : x / 256 % 256 = x / 256 := by omega
  simp [be, byteOf, bytesV, e]

set_option maxHeartbeats 1000000 in
theorem app16 (B n : Nat) (v : Value) (xs : List Value) (x : Int) (w : World) (hown : w.ownsRow B 5 1 v n xs) (hB : B ≤ w.heap.size) (hn : n ≤ 1000000000) (hx0 : 0 ≤ x) (hx : x < 65536) :
    Calls Ybad.prog 21 #[.agg #[], v, .int .u16 x] w fun e w' => ∃ g cap, e = .returned (.slice (some ⟨g, 0, none⟩) (n + 2) cap) ∧
      w'.ownsRow B 5 1 (.slice (some ⟨g, 0, none⟩) (n + 2) cap) (n + 2) (xs ++ bytesV (be x 2)) ∧ Grew w w' v (.slice (some ⟨g, 0, none⟩) (n + 2) cap) := by
  rw [be2 x hx0 hx]
  go_enter Ybad.func21, Ybad.ntmps21
  go_wp2_with (at_builtin; go_must (refine wpList_app (w.alloc (.cells #[] 53)) rfl _ _ 25 rfl 5 Ybad.underlying25 info5 B v n xs (by rfl) (hown.alloc _) (w.heap.size + 1) (by simp) 2 _ (by rfl) (by rfl) (by simp [Value.oneCell']) (by omega) (by omega) (by simp; omega) ?_); intro g cap w1 hown1 hgrow1)
  go_ret
  exact ⟨g, cap, rfl, hown1, hgrow1.ofAlloc⟩

end Go.Proofs.YbulkdjaiDoor
