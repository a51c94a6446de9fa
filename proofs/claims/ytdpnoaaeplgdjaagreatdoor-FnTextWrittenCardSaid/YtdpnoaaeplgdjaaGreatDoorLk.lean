/-
  THE NUMBERS UNDER WHICH THIS DUMP HOLDS sync.Mutex, and the contract of (*stringVal).string.
-/
import Derived.Test.YtdpnoaaeplgdjaaGreatDoorProg
import Derived.WalkKit
import Derived.Conc.RwLib
import Derived.Conc.MuData
import Derived.Conc.MuLone
import Derived.KernelRfl
namespace Go.Proofs.YtdpnoaaeplgdjaaGreatDoor
open Go.MuLone Go.RowKit

abbrev muLink : Go.Conc.Locks.MuLink := { lock := 163, unlock := 164, ilock := 217, iunlock := 218, lockSlow := 274, unlockSlow := 277, disable := 270, enable := 272, acquire := 273, relMerge := 275, cas32 := 271, add32 := 276, tMutex := 131, tIMutex := 129, tPMutex := 256, tPIMutex := 310, tPI32 := 312, tUP := 314, tNoCopy := 126, tU32 := 127 }
theorem muLib : Go.Conc.Locks.MuLib Tryz.prog muLink :=
  ⟨Tryz.func163, Tryz.func164, Tryz.func217, Tryz.func218, Tryz.func270, Tryz.func272, Tryz.func273, Tryz.func275, Tryz.func271, Tryz.func276, Tryz.underlying129, Tryz.runUnderlying129, Tryz.sizeOf129, Tryz.isAgg129, Tryz.zeroValue129, Tryz.underlying131, Tryz.runUnderlying131, Tryz.sizeOf131, Tryz.isAgg131, Tryz.zeroValue131, Tryz.underlying256, Tryz.runUnderlying256, Tryz.sizeOf256, Tryz.isAgg256, Tryz.zeroValue256, Tryz.underlying310, Tryz.runUnderlying310, Tryz.sizeOf310, Tryz.isAgg310, Tryz.zeroValue310, Tryz.underlying312, Tryz.runUnderlying312, Tryz.sizeOf312, Tryz.isAgg312, Tryz.zeroValue312, Tryz.underlying314, Tryz.runUnderlying314, Tryz.sizeOf314, Tryz.isAgg314, Tryz.zeroValue314, Tryz.underlying126, Tryz.runUnderlying126, Tryz.sizeOf126, Tryz.isAgg126, Tryz.zeroValue126, Tryz.underlying21, Tryz.runUnderlying21, Tryz.sizeOf21, Tryz.isAgg21, Tryz.zeroValue21, (by kernel_rfl)⟩

/-- (*stringVal).string where the text stands there already: a lock taken and let go. -/
theorem string_any (b off : Nat) (s : ByteArray) (w : World)
    (h0 : w.cell? ⟨b, off, none⟩ = some (.int .i32 0)) (h2 : w.cell? ⟨b, off + 2, none⟩ = some (.string s)) (h3 : w.cell? ⟨b, off + 3, none⟩ = some (.pointer none))
    (f0 : w.frozen? ⟨b, off, none⟩ = false) :
    Calls Tryz.prog 100 #[.pointer (some ⟨b, off, none⟩)] w fun e w' => e = .returned (.string s) ∧ w' = (w.setCell ⟨b, off, none⟩ (.int .i32 1)).setCell ⟨b, off, none⟩ (.int .i32 0) := by
  go_enter_defers Tryz.func100, Tryz.ntmps100
  go_wp2_with (go_at_call 163; refine (lock_free muLib ⟨b, off, none⟩ _ h0 f0).mono ?_; rintro e w' ⟨rfl, rfl⟩)
  refine leaves_cons (f := 164) (args := #[.pointer (some ⟨b, off, none⟩)]) (by simp) (by simp [go_sem]) ?_
  refine (unlock_deferred muLib ⟨b, off, none⟩ .returning _ ?_ ?_).mono ?_
  · exact World.cell?_setCell_same w ⟨b, off, none⟩ (.int .i32 1) h0
  · simp [f0]
  rintro e u' w'' ⟨rfl, rfl, rfl⟩
  exact ⟨_, results_tmp rfl _ _ _, rfl, rfl⟩

end Go.Proofs.YtdpnoaaeplgdjaaGreatDoor
