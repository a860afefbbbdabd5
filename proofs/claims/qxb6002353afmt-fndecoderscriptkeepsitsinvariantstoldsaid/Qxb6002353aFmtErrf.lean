/-
  fmt.Errorf at this program's three formats, for every F.
-/
import Derived.Test.Qxb6002353aFmtSmall
set_option linter.all false
namespace Go.Proofs
open Go.Extern.Stop Go.Stop Go.Extern
def Tryf.shape3 : List UInt8 := [5, 3, 0, 0, 0, 0, 0, 0, 0, 105, 110, 116]
def Tryf.shape33 : List UInt8 := [9, 6, 0, 0, 0, 0, 0, 0, 0, 117, 105, 110, 116, 54, 52]
-- fmt.errorf: function 32: a plain stop
@[go_sem] theorem Tryf.call32 (args : Array Value) (w : World) : (callFunc 32 args).run Tryf.prog w = ((FmtStop.errorf #[9, 54] #[31] args).run Tryf.prog w).andThen fun v w' => .ok (.value v) w' :=
  run_callFunc_extern Tryf.func32 (by kernel_rfl) (by kernel_rfl) (by kernel_rfl) (by kernel_rfl) args w
@[go_sem] theorem Tryf.guard (name : String) (w : World) : (FmtStop.guard name).run Tryf.prog w = .ok () w := by kernel_rfl
@[go_sem] theorem Tryf.fmtA : FmtStop.printed? ⟨#[37, 100, 32, 98, 121, 116, 101, 115, 32, 97, 102, 116, 101, 114, 32, 116, 104, 101, 32, 101, 110, 100, 32, 111, 102, 32, 116, 104, 101, 32, 109, 101, 115, 115, 97, 103, 101]⟩ 1 = some [(0, 100, false)] := by kernel_rfl
@[go_sem] theorem Tryf.fmtAr (w : World) : (FmtDoors.printed ⟨#[37, 100, 32, 98, 121, 116, 101, 115, 32, 97, 102, 116, 101, 114, 32, 116, 104, 101, 32, 101, 110, 100, 32, 111, 102, 32, 116, 104, 101, 32, 109, 101, 115, 115, 97, 103, 101]⟩ 1).run Tryf.prog w = .ok [(0, 100, false)] w := by kernel_rfl
@[go_sem] theorem Tryf.fmtB : FmtStop.printed? ⟨#[116, 104, 101, 32, 110, 117, 109, 98, 101, 114, 32, 37, 100, 32, 119, 114, 105, 116, 116, 101, 110, 32, 105, 110, 32, 37, 100, 32, 98, 121, 116, 101, 115]⟩ 2 = some [(0, 100, false), (1, 100, false)] := by kernel_rfl
@[go_sem] theorem Tryf.fmtBr (w : World) : (FmtDoors.printed ⟨#[116, 104, 101, 32, 110, 117, 109, 98, 101, 114, 32, 37, 100, 32, 119, 114, 105, 116, 116, 101, 110, 32, 105, 110, 32, 37, 100, 32, 98, 121, 116, 101, 115]⟩ 2).run Tryf.prog w = .ok [(0, 100, false), (1, 100, false)] w := by kernel_rfl
@[go_sem] theorem Tryf.fmtC : FmtStop.printed? ⟨#[37, 100, 32, 101, 110, 116, 114, 105, 101, 115, 32, 105, 110, 32, 37, 100, 32, 98, 121, 116, 101, 115]⟩ 2 = some [(0, 100, false), (1, 100, false)] := by kernel_rfl
@[go_sem] theorem Tryf.fmtCr (w : World) : (FmtDoors.printed ⟨#[37, 100, 32, 101, 110, 116, 114, 105, 101, 115, 32, 105, 110, 32, 37, 100, 32, 98, 121, 116, 101, 115]⟩ 2).run Tryf.prog w = .ok [(0, 100, false), (1, 100, false)] w := by kernel_rfl
@[go_sem] theorem Tryf.op3_100w (name : String) (x : Int) (w : World) : (FmtStop.operand name true 100 false (.iface 3 (.int .i64 x))).run Tryf.prog w = .ok (Tryf.shape3, Go.Extern.Stop.digits 8 (x % 2 ^ 64).toNat) w := by kernel_rfl
@[go_sem] theorem Tryf.op33_100w (name : String) (x : Int) (w : World) : (FmtStop.operand name true 100 false (.iface 33 (.int .u64 x))).run Tryf.prog w = .ok (Tryf.shape33, Go.Extern.Stop.digits 8 (x % 2 ^ 64).toNat) w := by kernel_rfl
@[go_sem] theorem Tryf.ptr51 (w : World) : (FmtStop.ptrTo "errors.errorString").run Tryf.prog w = .ok 51 w := by kernel_rfl
@[go_sem] theorem Tryf.elem51 (w : World) : (elemOf 51).run Tryf.prog w = .ok 53 w := by kernel_rfl
@[go_sem] theorem Tryf.isError51' (w : World) : (FmtDoors.textMethod 51 "Error").run Tryf.prog w = .ok true w := by kernel_rfl
end Go.Proofs
namespace Go.Proofs.Qxb6002353aFmt
open Go.RowKit Go.Extern.Stop Go.Stop Go.Extern

theorem errorfA (F : Interp) (x : Int) (blk : Nat) (w : World) (hF : F.answers w.tape) (hc0 : w.cell? ⟨blk, 0, none⟩ = some (.iface 3 (.int .i64 x))) :
    Calls Tryf.prog 30 #[.string ⟨#[37, 100, 32, 98, 121, 116, 101, 115, 32, 97, 102, 116, 101, 114, 32, 116, 104, 101, 32, 101, 110, 100, 32, 111, 102, 32, 116, 104, 101, 32, 109, 101, 115, 115, 97, 103, 101]⟩, .slice (some ⟨blk, 0, none⟩) 1 1] w fun r w' => ∃ k, r = .returned (errV (some k)) ∧ w.heap.size ≤ k ∧ Below w.heap.size w w' := by
  have hF' : ∀ i name reading k range, w.tape i (.extern (word name reading k) range) = F name reading k := hF
  go_enter Tryf.func30, Tryf.ntmps30
  go_wp2
  go_ret
  exact ⟨_, rfl, Nat.le_refl _, ((Below.refl _ _).alloc (Nat.le_refl _) _).drew⟩

theorem errorfB (F : Interp) (x y : Int) (blk : Nat) (w : World) (hF : F.answers w.tape) (hc0 : w.cell? ⟨blk, 0, none⟩ = some (.iface 33 (.int .u64 x))) (hc1 : w.cell? ⟨blk, 1, none⟩ = some (.iface 3 (.int .i64 y))) :
    Calls Tryf.prog 30 #[.string ⟨#[116, 104, 101, 32, 110, 117, 109, 98, 101, 114, 32, 37, 100, 32, 119, 114, 105, 116, 116, 101, 110, 32, 105, 110, 32, 37, 100, 32, 98, 121, 116, 101, 115]⟩, .slice (some ⟨blk, 0, none⟩) 2 2] w fun r w' => ∃ k, r = .returned (errV (some k)) ∧ w.heap.size ≤ k ∧ Below w.heap.size w w' := by
  have hF' : ∀ i name reading k range, w.tape i (.extern (word name reading k) range) = F name reading k := hF
  go_enter Tryf.func30, Tryf.ntmps30
  go_wp2
  go_ret
  exact ⟨_, rfl, Nat.le_refl _, ((Below.refl _ _).alloc (Nat.le_refl _) _).drew⟩

theorem errorfC (F : Interp) (x y : Int) (blk : Nat) (w : World) (hF : F.answers w.tape) (hc0 : w.cell? ⟨blk, 0, none⟩ = some (.iface 33 (.int .u64 x))) (hc1 : w.cell? ⟨blk, 1, none⟩ = some (.iface 3 (.int .i64 y))) :
    Calls Tryf.prog 30 #[.string ⟨#[37, 100, 32, 101, 110, 116, 114, 105, 101, 115, 32, 105, 110, 32, 37, 100, 32, 98, 121, 116, 101, 115]⟩, .slice (some ⟨blk, 0, none⟩) 2 2] w fun r w' => ∃ k, r = .returned (errV (some k)) ∧ w.heap.size ≤ k ∧ Below w.heap.size w w' := by
  have hF' : ∀ i name reading k range, w.tape i (.extern (word name reading k) range) = F name reading k := hF
  go_enter Tryf.func30, Tryf.ntmps30
  go_wp2
  go_ret
  exact ⟨_, rfl, Nat.le_refl _, ((Below.refl _ _).alloc (Nat.le_refl _) _).drew⟩
end Go.Proofs.Qxb6002353aFmt
