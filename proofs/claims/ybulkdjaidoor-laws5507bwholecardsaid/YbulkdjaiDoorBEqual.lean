/-
  bytes.Equal of two slices that hold the same bytes, walked over this dump.
-/
import Derived.Test.YbulkdjaiDoorRows
import Derived.Test.YbulkdjaiDoorBAid
import Derived.Laws.BytesArg
import Derived.WalkSpells
import Derived.OpenShut
namespace Go.Proofs.YbulkdjaiDoor.B
open Go.RowKit

theorem info5 : (Ybad.prog.info? 5).map (fun i => (i.zero, i.size, i.bytes)) = some (some (.int .u8 0), 1, 1) := by kernel_rfl

/-- A slice of n bytes as it lies: where there is one at all, at a plain address, with its cells. -/
def BytesIn (w : World) (p : Option Addr) (n : Nat) (xs : List Int) : Prop :=
  0 < n → ∃ b o, p = some ⟨b, o, none⟩ ∧ ∀ i, i < n → w.cell? ⟨b, o + i, none⟩ = some (.int .u8 (xs.getD i 0))

theorem convert_zero {P : Program} (w : World) (src e dst : TypeId) (a : Option Addr) (c : Nat) (hs : P.underlying src = some (.slice e)) (he : P.underlying e = some (.int .u8)) (hd : P.underlying dst = some .string) :
    (convert src dst (.slice a 0 c)).run P w = .ok (.string (strOfNums [])) w := by
  rw [run_convert_bytes_string w src dst e _ 0 c hs he hd]
  cases a <;> simp [Conv.bytesToString, loadCells, loadCellsFrom, strOfNums] <;> rfl

theorem BytesIn.convert {P : Program} {w : World} {p : Option Addr} {n : Nat} {xs : List Int} (h : BytesIn w p n xs) (hx : xs.length = n) (c : Nat) (src e dst : TypeId) (hs : P.underlying src = some (.slice e)) (he : P.underlying e = some (.int .u8)) (hd : P.underlying dst = some .string) :
    (Go.convert src dst (.slice p n c)).run P w = .ok (.string (strOfNums xs)) w := by
  by_cases hn : 0 < n
  · obtain ⟨b, o, rfl, hc⟩ := h hn
    exact run_convert_bytes_arg w src e hs he b o n c xs hx hc dst hd
  · obtain rfl : n = 0 := by omega
    obtain rfl : xs = [] := List.eq_nil_of_length_eq_zero hx
    exact convert_zero w src e dst p c hs he hd

set_option maxHeartbeats 1000000 in
/-- bytes.Equal of two slices that hold the same bytes. -/
theorem equal_same (p1 p2 : Option Addr) (n c d : Nat) (xs : List Int) (w : World) (hx : xs.length = n) (h1 : BytesIn w p1 n xs) (h2 : BytesIn w p2 n xs) :
    Calls Ybad.prog 9 #[.slice p1 n c, .slice p2 n d] w fun e w' => e = .returned (.bool true) ∧ w' = w := by
  have g1 := h1.convert (P := Ybad.prog) hx c 25 5 9 Ybad.underlying25 Ybad.underlying5 Ybad.underlying9
  have g2 := h2.convert (P := Ybad.prog) hx d 25 5 9 Ybad.underlying25 Ybad.underlying5 Ybad.underlying9
  clear h1 h2 hx
  go_enter Ybad.func9, Ybad.ntmps9
  go_wp2
  go_ret
  exact ⟨by simp, rfl⟩
end Go.Proofs.YbulkdjaiDoor.B
