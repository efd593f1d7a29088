/-
  zzBytes.., ZZnewPP, ZZppBuf; zzClone.
-/
import Derived.Test.YoeddwDoorEnc
import Derived.WalkKit
import Derived.WalkSpells
namespace Go.Proofs.YoeddwDoor
open Go.RowKit

theorem info5 : (Eddg.prog.info? 5).map (fun i => (i.zero, i.size, i.bytes)) = some (some (.int .u8 0), 1, 1) := by kernel_rfl

theorem bytes_yes (ao : Option Addr) (len cap : Nat) (r : Int) (h : len ≤ 1048576) (w : World) :
    Calls Eddg.prog 4 #[.slice ao len cap, .int .i32 r] w fun e w' => e = .returned (.bool true) ∧ w' = w := by
  go_enter Eddg.func4, Eddg.ntmps4
  go_wp2
  go_ret
  exact ⟨rfl, rfl⟩
theorem bytes_no (ao : Option Addr) (len cap : Nat) (r : Int) (h : 1048576 < len) (w : World) :
    Calls Eddg.prog 4 #[.slice ao len cap, .int .i32 r] w fun e w' => e = .returned (.bool false) ∧ w' = w := by
  go_enter Eddg.func4, Eddg.ntmps4
  go_wp2
  go_ret
  exact ⟨rfl, rfl⟩

/-- The zero value of tengo's 'pp', cell by cell. -/
def ppZero : Array Value :=
  #[.slice none 0 0, .nilIface, .pointer none] ++ Array.replicate 12 (.bool false) ++ #[.int .i64 0, .int .i64 0] ++ Array.replicate 68 (.int .u8 0) ++ Array.replicate 3 (.bool false)
theorem ppZero_size : ppZero.size = 88 := by kernel_rfl
theorem ppZero_run (w : World) : (zeroValue 45).run Eddg.prog w = .ok (.agg ppZero) w := by kernel_rfl

theorem newPP_any (ao : Option Addr) (n c : Nat) (w : World) :
    Calls Eddg.prog 6 #[.slice ao n c] w fun e w' => e = .returned (.pointer (some ⟨w.heap.size, 0, none⟩)) ∧ w' = w.alloc (.cells (ppZero.setIfInBounds 0 (.slice ao n c)) 45) := by
  have hz := ppZero_run
  have hs := ppZero_size
  go_enter Eddg.func6, Eddg.ntmps6
  go_wp2
  go_ret
  exact ⟨rfl, rfl⟩

theorem ppBuf_any (b : Nat) (v : Value) (w : World) (hc : w.cell? ⟨b, 0, none⟩ = some v) :
    Calls Eddg.prog 9 #[.pointer (some ⟨b, 0, none⟩)] w fun e w' => e = .returned v ∧ w' = w := by
  go_enter Eddg.func9, Eddg.ntmps9
  go_wp2
  go_ret
  exact ⟨rfl, rfl⟩
end Go.Proofs.YoeddwDoor
