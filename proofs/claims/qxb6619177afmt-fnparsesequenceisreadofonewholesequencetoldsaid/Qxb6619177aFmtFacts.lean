import Derived.Test.Qxb6619177aFmtBase
import Derived.Stop.CallBack
import Derived.Stop.IfaceNil
import GoSem.ClaimData
namespace Go.Proofs.Qxb6619177aFmt
open Go.RowKit Go.Extern.Stop Go.Stop Go.Extern
set_option linter.unusedVariables false
set_option linter.unusedSimpArgs false

/-! ### CLOSED FACTS, each by the kernel's own evaluation -/
theorem call26 (args : Array Value) (w : World) : (callFunc 26 args).run Tryf.prog w = ((FmtStop.errorf #[9, 54] #[26] args).run Tryf.prog w).andThen fun v w' => .ok (.value v) w' :=
  run_callFunc_extern Tryf.func26 (by kernel_rfl) (by kernel_rfl) (by kernel_rfl) (by kernel_rfl) args w
theorem call28 (args : Array Value) (w : World) : (callFunc 28 args).run Tryf.prog w = ((FmtStop.sprintf #[9, 54] #[9] args).run Tryf.prog w).andThen fun v w' => .ok (.value v) w' :=
  run_callFunc_extern Tryf.func28 (by kernel_rfl) (by kernel_rfl) (by kernel_rfl) (by kernel_rfl) args w
theorem fguard (name : String) (w : World) : (FmtStop.guard name).run Tryf.prog w = .ok () w := by kernel_rfl
theorem ptr58 (w : World) : (FmtStop.ptrTo "errors.errorString").run Tryf.prog w = .ok 58 w := by kernel_rfl
theorem elem58 (w : World) : (elemOf 58).run Tryf.prog w = .ok 60 w := by kernel_rfl
theorem isError58 (w : World) : (FmtDoors.textMethod 58 "Error").run Tryf.prog w = .ok true w := by kernel_rfl
def shape9 : List UInt8 := [12, 6, 0, 0, 0, 0, 0, 0, 0, 115, 116, 114, 105, 110, 103]
def shape3 : List UInt8 := [5, 3, 0, 0, 0, 0, 0, 0, 0, 105, 110, 116]
def shape5 : List UInt8 := [6, 5, 0, 0, 0, 0, 0, 0, 0, 117, 105, 110, 116, 56]
def shape46 : List UInt8 := [9, 6, 0, 0, 0, 0, 0, 0, 0, 117, 105, 110, 116, 54, 52]
theorem opS (name : String) (x : ByteArray) (w : World) : (FmtStop.operand name true 115 false (.iface 9 (.string x))).run Tryf.prog w = .ok (shape9, FmtStop.pack x.data.toList) w := by kernel_rfl
theorem opI (name : String) (x : Int) (w : World) : (FmtStop.operand name true 100 false (.iface 3 (.int .i64 x))).run Tryf.prog w = .ok (shape3, Go.Extern.Stop.digits 8 (x % 2 ^ 64).toNat) w := by kernel_rfl
theorem opU (name : String) (x : Int) (w : World) : (FmtStop.operand name true 100 false (.iface 46 (.int .u64 x))).run Tryf.prog w = .ok (shape46, Go.Extern.Stop.digits 8 (x % 2 ^ 64).toNat) w := by kernel_rfl
theorem opB1 (name : String) (x : Int) (w : World) : (FmtStop.operand name false 100 false (.iface 5 (.int .u8 x))).run Tryf.prog w = .ok (shape5, Go.Extern.Stop.digits 8 (x % 2 ^ 64).toNat) w := by kernel_rfl
theorem opB2 (name : String) (x : Int) (w : World) : (FmtStop.operand name false 120 false (.iface 5 (.int .u8 x))).run Tryf.prog w = .ok (shape5, Go.Extern.Stop.digits 8 (x % 2 ^ 64).toNat) w := by kernel_rfl
theorem opE (name : String) (a : Addr) (s : ByteArray) (w : World) (hc : w.cell? a = some (.string s)) :
    ∃ r, (FmtStop.operand name true 115 false (.iface 58 (.pointer (some a)))).run Tryf.prog w = .ok (r, s.data.toList) w := by
  have h1 : (typeStr 58).run Tryf.prog w = .ok Tryf.t58.str w := by kernel_rfl
  have d2 : Tryf.t58.desc = .pointer 60 := rfl
  have d3 : Tryf.t60.desc = .named "errors.errorString" 59 := rfl
  refine ⟨14 :: FmtStop.pack Tryf.t58.str.toUTF8.data.toList, ?_⟩
  simp [FmtStop.operand, h1, d2, d3, run_load, hc]

theorem f_s0 : FmtStop.printed? ⟨#[37, 115, 32, 101, 120, 112, 101, 99, 116, 101, 100, 44, 32, 102, 111, 117, 110, 100, 32, 116, 104, 101, 32, 101, 110, 100, 32, 111, 102, 32, 116, 104, 101, 32, 100, 97, 116, 97]⟩ 1 = some [(0, 115, false)] := by kernel_rfl
theorem f_s0r (w : World) : (FmtDoors.printed ⟨#[37, 115, 32, 101, 120, 112, 101, 99, 116, 101, 100, 44, 32, 102, 111, 117, 110, 100, 32, 116, 104, 101, 32, 101, 110, 100, 32, 111, 102, 32, 116, 104, 101, 32, 100, 97, 116, 97]⟩ 1).run Tryf.prog w = .ok [(0, 115, false)] w := by kernel_rfl
theorem g_s0 : FmtStop.printed? ⟨#[37, 115, 32, 101, 120, 112, 101, 99, 116, 101, 100, 44, 32, 102, 111, 117, 110, 100, 32, 116, 104, 101, 32, 101, 110, 100, 32, 111, 102, 32, 116, 104, 101, 32, 100, 97, 116, 97]⟩ 0 = some [] := by kernel_rfl
theorem g_s0r (w : World) : (FmtDoors.printed ⟨#[37, 115, 32, 101, 120, 112, 101, 99, 116, 101, 100, 44, 32, 102, 111, 117, 110, 100, 32, 116, 104, 101, 32, 101, 110, 100, 32, 111, 102, 32, 116, 104, 101, 32, 100, 97, 116, 97]⟩ 0).run Tryf.prog w = .ok [] w := by kernel_rfl
theorem f_ss : FmtStop.printed? ⟨#[37, 115, 32, 101, 120, 112, 101, 99, 116, 101, 100, 44, 32, 102, 111, 117, 110, 100, 32, 37, 115]⟩ 2 = some [(0, 115, false), (1, 115, false)] := by kernel_rfl
theorem f_ssr (w : World) : (FmtDoors.printed ⟨#[37, 115, 32, 101, 120, 112, 101, 99, 116, 101, 100, 44, 32, 102, 111, 117, 110, 100, 32, 37, 115]⟩ 2).run Tryf.prog w = .ok [(0, 115, false), (1, 115, false)] w := by kernel_rfl
theorem g_ss : FmtStop.printed? ⟨#[37, 115, 32, 101, 120, 112, 101, 99, 116, 101, 100, 44, 32, 102, 111, 117, 110, 100, 32, 37, 115]⟩ 0 = some [] := by kernel_rfl
theorem g_ssr (w : World) : (FmtDoors.printed ⟨#[37, 115, 32, 101, 120, 112, 101, 99, 116, 101, 100, 44, 32, 102, 111, 117, 110, 100, 32, 37, 115]⟩ 0).run Tryf.prog w = .ok [] w := by kernel_rfl
theorem f_s1 : FmtStop.printed? ⟨#[37, 115, 58, 32, 116, 104, 101, 32, 100, 97, 116, 97, 32, 101, 110, 100, 115, 32, 98, 101, 102, 111, 114, 101, 32, 105, 116, 115, 32, 108, 101, 110, 103, 116, 104]⟩ 1 = some [(0, 115, false)] := by kernel_rfl
theorem f_s1r (w : World) : (FmtDoors.printed ⟨#[37, 115, 58, 32, 116, 104, 101, 32, 100, 97, 116, 97, 32, 101, 110, 100, 115, 32, 98, 101, 102, 111, 114, 101, 32, 105, 116, 115, 32, 108, 101, 110, 103, 116, 104]⟩ 1).run Tryf.prog w = .ok [(0, 115, false)] w := by kernel_rfl
theorem g_s1 : FmtStop.printed? ⟨#[37, 115, 58, 32, 116, 104, 101, 32, 100, 97, 116, 97, 32, 101, 110, 100, 115, 32, 98, 101, 102, 111, 114, 101, 32, 105, 116, 115, 32, 108, 101, 110, 103, 116, 104]⟩ 0 = some [] := by kernel_rfl
theorem g_s1r (w : World) : (FmtDoors.printed ⟨#[37, 115, 58, 32, 116, 104, 101, 32, 100, 97, 116, 97, 32, 101, 110, 100, 115, 32, 98, 101, 102, 111, 114, 101, 32, 105, 116, 115, 32, 108, 101, 110, 103, 116, 104]⟩ 0).run Tryf.prog w = .ok [] w := by kernel_rfl
theorem f_s2 : FmtStop.printed? ⟨#[37, 115, 58, 32, 105, 110, 100, 101, 102, 105, 110, 105, 116, 101, 32, 108, 101, 110, 103, 116, 104, 32, 40, 110, 111, 116, 32, 68, 69, 82, 41]⟩ 1 = some [(0, 115, false)] := by kernel_rfl
theorem f_s2r (w : World) : (FmtDoors.printed ⟨#[37, 115, 58, 32, 105, 110, 100, 101, 102, 105, 110, 105, 116, 101, 32, 108, 101, 110, 103, 116, 104, 32, 40, 110, 111, 116, 32, 68, 69, 82, 41]⟩ 1).run Tryf.prog w = .ok [(0, 115, false)] w := by kernel_rfl
theorem g_s2 : FmtStop.printed? ⟨#[37, 115, 58, 32, 105, 110, 100, 101, 102, 105, 110, 105, 116, 101, 32, 108, 101, 110, 103, 116, 104, 32, 40, 110, 111, 116, 32, 68, 69, 82, 41]⟩ 0 = some [] := by kernel_rfl
theorem g_s2r (w : World) : (FmtDoors.printed ⟨#[37, 115, 58, 32, 105, 110, 100, 101, 102, 105, 110, 105, 116, 101, 32, 108, 101, 110, 103, 116, 104, 32, 40, 110, 111, 116, 32, 68, 69, 82, 41]⟩ 0).run Tryf.prog w = .ok [] w := by kernel_rfl
theorem f_sd : FmtStop.printed? ⟨#[37, 115, 58, 32, 108, 101, 110, 103, 116, 104, 32, 111, 102, 32, 37, 100, 32, 111, 99, 116, 101, 116, 115, 32, 105, 115, 32, 116, 111, 111, 32, 108, 111, 110, 103]⟩ 2 = some [(0, 115, false), (1, 100, false)] := by kernel_rfl
theorem f_sdr (w : World) : (FmtDoors.printed ⟨#[37, 115, 58, 32, 108, 101, 110, 103, 116, 104, 32, 111, 102, 32, 37, 100, 32, 111, 99, 116, 101, 116, 115, 32, 105, 115, 32, 116, 111, 111, 32, 108, 111, 110, 103]⟩ 2).run Tryf.prog w = .ok [(0, 115, false), (1, 100, false)] w := by kernel_rfl
theorem g_sd : FmtStop.printed? ⟨#[37, 115, 58, 32, 108, 101, 110, 103, 116, 104, 32, 111, 102, 32, 37, 100, 32, 111, 99, 116, 101, 116, 115, 32, 105, 115, 32, 116, 111, 111, 32, 108, 111, 110, 103]⟩ 0 = some [] := by kernel_rfl
theorem g_sdr (w : World) : (FmtDoors.printed ⟨#[37, 115, 58, 32, 108, 101, 110, 103, 116, 104, 32, 111, 102, 32, 37, 100, 32, 111, 99, 116, 101, 116, 115, 32, 105, 115, 32, 116, 111, 111, 32, 108, 111, 110, 103]⟩ 0).run Tryf.prog w = .ok [] w := by kernel_rfl
theorem f_s3 : FmtStop.printed? ⟨#[37, 115, 58, 32, 116, 104, 101, 32, 100, 97, 116, 97, 32, 101, 110, 100, 115, 32, 105, 110, 115, 105, 100, 101, 32, 105, 116, 115, 32, 108, 101, 110, 103, 116, 104]⟩ 1 = some [(0, 115, false)] := by kernel_rfl
theorem f_s3r (w : World) : (FmtDoors.printed ⟨#[37, 115, 58, 32, 116, 104, 101, 32, 100, 97, 116, 97, 32, 101, 110, 100, 115, 32, 105, 110, 115, 105, 100, 101, 32, 105, 116, 115, 32, 108, 101, 110, 103, 116, 104]⟩ 1).run Tryf.prog w = .ok [(0, 115, false)] w := by kernel_rfl
theorem g_s3 : FmtStop.printed? ⟨#[37, 115, 58, 32, 116, 104, 101, 32, 100, 97, 116, 97, 32, 101, 110, 100, 115, 32, 105, 110, 115, 105, 100, 101, 32, 105, 116, 115, 32, 108, 101, 110, 103, 116, 104]⟩ 0 = some [] := by kernel_rfl
theorem g_s3r (w : World) : (FmtDoors.printed ⟨#[37, 115, 58, 32, 116, 104, 101, 32, 100, 97, 116, 97, 32, 101, 110, 100, 115, 32, 105, 110, 115, 105, 100, 101, 32, 105, 116, 115, 32, 108, 101, 110, 103, 116, 104]⟩ 0).run Tryf.prog w = .ok [] w := by kernel_rfl
theorem f_s4 : FmtStop.printed? ⟨#[37, 115, 58, 32, 108, 101, 110, 103, 116, 104, 32, 110, 111, 116, 32, 105, 110, 32, 105, 116, 115, 32, 115, 104, 111, 114, 116, 101, 115, 116, 32, 102, 111, 114, 109, 32, 40, 110, 111, 116, 32, 68, 69, 82, 41]⟩ 1 = some [(0, 115, false)] := by kernel_rfl
theorem f_s4r (w : World) : (FmtDoors.printed ⟨#[37, 115, 58, 32, 108, 101, 110, 103, 116, 104, 32, 110, 111, 116, 32, 105, 110, 32, 105, 116, 115, 32, 115, 104, 111, 114, 116, 101, 115, 116, 32, 102, 111, 114, 109, 32, 40, 110, 111, 116, 32, 68, 69, 82, 41]⟩ 1).run Tryf.prog w = .ok [(0, 115, false)] w := by kernel_rfl
theorem g_s4 : FmtStop.printed? ⟨#[37, 115, 58, 32, 108, 101, 110, 103, 116, 104, 32, 110, 111, 116, 32, 105, 110, 32, 105, 116, 115, 32, 115, 104, 111, 114, 116, 101, 115, 116, 32, 102, 111, 114, 109, 32, 40, 110, 111, 116, 32, 68, 69, 82, 41]⟩ 0 = some [] := by kernel_rfl
theorem g_s4r (w : World) : (FmtDoors.printed ⟨#[37, 115, 58, 32, 108, 101, 110, 103, 116, 104, 32, 110, 111, 116, 32, 105, 110, 32, 105, 116, 115, 32, 115, 104, 111, 114, 116, 101, 115, 116, 32, 102, 111, 114, 109, 32, 40, 110, 111, 116, 32, 68, 69, 82, 41]⟩ 0).run Tryf.prog w = .ok [] w := by kernel_rfl
theorem f_sdd : FmtStop.printed? ⟨#[37, 115, 32, 111, 102, 32, 37, 100, 32, 98, 121, 116, 101, 115, 32, 114, 117, 110, 115, 32, 112, 97, 115, 116, 32, 116, 104, 101, 32, 101, 110, 100, 32, 111, 102, 32, 116, 104, 101, 32, 100, 97, 116, 97, 32, 40, 37, 100, 32, 98, 121, 116, 101, 115, 32, 108, 101, 102, 116, 41]⟩ 3 = some [(0, 115, false), (1, 100, false), (2, 100, false)] := by kernel_rfl
theorem f_sddr (w : World) : (FmtDoors.printed ⟨#[37, 115, 32, 111, 102, 32, 37, 100, 32, 98, 121, 116, 101, 115, 32, 114, 117, 110, 115, 32, 112, 97, 115, 116, 32, 116, 104, 101, 32, 101, 110, 100, 32, 111, 102, 32, 116, 104, 101, 32, 100, 97, 116, 97, 32, 40, 37, 100, 32, 98, 121, 116, 101, 115, 32, 108, 101, 102, 116, 41]⟩ 3).run Tryf.prog w = .ok [(0, 115, false), (1, 100, false), (2, 100, false)] w := by kernel_rfl
theorem g_sdd : FmtStop.printed? ⟨#[37, 115, 32, 111, 102, 32, 37, 100, 32, 98, 121, 116, 101, 115, 32, 114, 117, 110, 115, 32, 112, 97, 115, 116, 32, 116, 104, 101, 32, 101, 110, 100, 32, 111, 102, 32, 116, 104, 101, 32, 100, 97, 116, 97, 32, 40, 37, 100, 32, 98, 121, 116, 101, 115, 32, 108, 101, 102, 116, 41]⟩ 0 = some [] := by kernel_rfl
theorem g_sddr (w : World) : (FmtDoors.printed ⟨#[37, 115, 32, 111, 102, 32, 37, 100, 32, 98, 121, 116, 101, 115, 32, 114, 117, 110, 115, 32, 112, 97, 115, 116, 32, 116, 104, 101, 32, 101, 110, 100, 32, 111, 102, 32, 116, 104, 101, 32, 100, 97, 116, 97, 32, 40, 37, 100, 32, 98, 121, 116, 101, 115, 32, 108, 101, 102, 116, 41]⟩ 0).run Tryf.prog w = .ok [] w := by kernel_rfl
theorem f_se : FmtStop.printed? ⟨#[37, 115, 58, 32, 37, 115]⟩ 2 = some [(0, 115, false), (1, 115, false)] := by kernel_rfl
theorem f_ser (w : World) : (FmtDoors.printed ⟨#[37, 115, 58, 32, 37, 115]⟩ 2).run Tryf.prog w = .ok [(0, 115, false), (1, 115, false)] w := by kernel_rfl
theorem g_se : FmtStop.printed? ⟨#[37, 115, 58, 32, 37, 115]⟩ 0 = some [] := by kernel_rfl
theorem g_ser (w : World) : (FmtDoors.printed ⟨#[37, 115, 58, 32, 37, 115]⟩ 0).run Tryf.prog w = .ok [] w := by kernel_rfl
theorem f_af : FmtStop.printed? ⟨#[97, 102, 116, 101, 114, 32, 116, 104, 101, 32, 37, 115, 58, 32, 37, 115]⟩ 2 = some [(0, 115, false), (1, 115, false)] := by kernel_rfl
theorem f_afr (w : World) : (FmtDoors.printed ⟨#[97, 102, 116, 101, 114, 32, 116, 104, 101, 32, 37, 115, 58, 32, 37, 115]⟩ 2).run Tryf.prog w = .ok [(0, 115, false), (1, 115, false)] w := by kernel_rfl
theorem g_af : FmtStop.printed? ⟨#[97, 102, 116, 101, 114, 32, 116, 104, 101, 32, 37, 115, 58, 32, 37, 115]⟩ 0 = some [] := by kernel_rfl
theorem g_afr (w : World) : (FmtDoors.printed ⟨#[97, 102, 116, 101, 114, 32, 116, 104, 101, 32, 37, 115, 58, 32, 37, 115]⟩ 0).run Tryf.prog w = .ok [] w := by kernel_rfl
theorem f_d0 : FmtStop.printed? ⟨#[37, 100, 32, 98, 121, 116, 101, 115, 32, 111, 102, 32, 116, 114, 97, 105, 108, 105, 110, 103, 32, 100, 97, 116, 97]⟩ 1 = some [(0, 100, false)] := by kernel_rfl
theorem f_d0r (w : World) : (FmtDoors.printed ⟨#[37, 100, 32, 98, 121, 116, 101, 115, 32, 111, 102, 32, 116, 114, 97, 105, 108, 105, 110, 103, 32, 100, 97, 116, 97]⟩ 1).run Tryf.prog w = .ok [(0, 100, false)] w := by kernel_rfl
theorem g_d0 : FmtStop.printed? ⟨#[37, 100, 32, 98, 121, 116, 101, 115, 32, 111, 102, 32, 116, 114, 97, 105, 108, 105, 110, 103, 32, 100, 97, 116, 97]⟩ 0 = some [] := by kernel_rfl
theorem g_d0r (w : World) : (FmtDoors.printed ⟨#[37, 100, 32, 98, 121, 116, 101, 115, 32, 111, 102, 32, 116, 114, 97, 105, 108, 105, 110, 103, 32, 100, 97, 116, 97]⟩ 0).run Tryf.prog w = .ok [] w := by kernel_rfl
theorem f_br : FmtStop.printed? ⟨#[91, 37, 100, 93]⟩ 1 = some [(0, 100, false)] := by kernel_rfl
theorem f_brr (w : World) : (FmtDoors.printed ⟨#[91, 37, 100, 93]⟩ 1).run Tryf.prog w = .ok [(0, 100, false)] w := by kernel_rfl
theorem g_br : FmtStop.printed? ⟨#[91, 37, 100, 93]⟩ 0 = some [] := by kernel_rfl
theorem g_brr (w : World) : (FmtDoors.printed ⟨#[91, 37, 100, 93]⟩ 0).run Tryf.prog w = .ok [] w := by kernel_rfl
theorem f_tg : FmtStop.printed? ⟨#[116, 97, 103, 32, 48, 120, 37, 48, 50, 120]⟩ 1 = some [(0, 120, false)] := by kernel_rfl
theorem f_tgr (w : World) : (FmtDoors.printed ⟨#[116, 97, 103, 32, 48, 120, 37, 48, 50, 120]⟩ 1).run Tryf.prog w = .ok [(0, 120, false)] w := by kernel_rfl
theorem g_tg : FmtStop.printed? ⟨#[116, 97, 103, 32, 48, 120, 37, 48, 50, 120]⟩ 0 = some [] := by kernel_rfl
theorem g_tgr (w : World) : (FmtDoors.printed ⟨#[116, 97, 103, 32, 48, 120, 37, 48, 50, 120]⟩ 0).run Tryf.prog w = .ok [] w := by kernel_rfl
attribute [local go_sem] call26 call28 fguard ptr58 elem58 isError58 opS opI opU opB1 opB2 f_s0 f_s0r g_s0 g_s0r f_ss f_ssr g_ss g_ssr f_s1 f_s1r g_s1 g_s1r f_s2 f_s2r g_s2 g_s2r f_sd f_sdr g_sd g_sdr f_s3 f_s3r g_s3 g_s3r f_s4 f_s4r g_s4 g_s4r f_sdd f_sddr g_sdd g_sddr f_se f_ser g_se g_ser f_af f_afr g_af g_afr f_d0 f_d0r g_d0 g_d0r f_br f_brr g_br g_brr f_tg f_tgr g_tg g_tgr

/-- WHAT EVERY CALL OF fmt.Errorf HERE COMES TO: a new *errors.errorString, whatever its text. -/
def MadeErr (w : World) (e : Ending) (w' : World) : Prop := ∃ s : ByteArray, e = .returned (.iface 58 (.pointer (some ⟨w.heap.size, 0, none⟩))) ∧ w' = (w.alloc (.cells #[.string s] 60)).drew

set_option maxHeartbeats 800000 in
theorem errorf_s0 (F : Interp) (x0 : ByteArray) (blk : Nat) (w : World) (hF : F.answers w.tape) (hc0 : w.cell? ⟨blk, 0, none⟩ = some (.iface 9 (.string x0))) :
    Calls Tryf.prog 23 #[.string ⟨#[37, 115, 32, 101, 120, 112, 101, 99, 116, 101, 100, 44, 32, 102, 111, 117, 110, 100, 32, 116, 104, 101, 32, 101, 110, 100, 32, 111, 102, 32, 116, 104, 101, 32, 100, 97, 116, 97]⟩, .slice (some ⟨blk, 0, none⟩) 1 1] w (MadeErr w) := by
  have hF' := answers_open hF
  go_enter Tryf.func23, Tryf.ntmps23
  go_wp2
  go_ret
  exact ⟨_, rfl, rfl⟩

set_option maxHeartbeats 800000 in
theorem errorf_ss (F : Interp) (x0 : ByteArray) (x1 : ByteArray) (blk : Nat) (w : World) (hF : F.answers w.tape) (hc0 : w.cell? ⟨blk, 0, none⟩ = some (.iface 9 (.string x0))) (hc1 : w.cell? ⟨blk, 1, none⟩ = some (.iface 9 (.string x1))) :
    Calls Tryf.prog 23 #[.string ⟨#[37, 115, 32, 101, 120, 112, 101, 99, 116, 101, 100, 44, 32, 102, 111, 117, 110, 100, 32, 37, 115]⟩, .slice (some ⟨blk, 0, none⟩) 2 2] w (MadeErr w) := by
  have hF' := answers_open hF
  go_enter Tryf.func23, Tryf.ntmps23
  go_wp2
  go_ret
  exact ⟨_, rfl, rfl⟩

set_option maxHeartbeats 800000 in
theorem errorf_s1 (F : Interp) (x0 : ByteArray) (blk : Nat) (w : World) (hF : F.answers w.tape) (hc0 : w.cell? ⟨blk, 0, none⟩ = some (.iface 9 (.string x0))) :
    Calls Tryf.prog 23 #[.string ⟨#[37, 115, 58, 32, 116, 104, 101, 32, 100, 97, 116, 97, 32, 101, 110, 100, 115, 32, 98, 101, 102, 111, 114, 101, 32, 105, 116, 115, 32, 108, 101, 110, 103, 116, 104]⟩, .slice (some ⟨blk, 0, none⟩) 1 1] w (MadeErr w) := by
  have hF' := answers_open hF
  go_enter Tryf.func23, Tryf.ntmps23
  go_wp2
  go_ret
  exact ⟨_, rfl, rfl⟩

set_option maxHeartbeats 800000 in
theorem errorf_s2 (F : Interp) (x0 : ByteArray) (blk : Nat) (w : World) (hF : F.answers w.tape) (hc0 : w.cell? ⟨blk, 0, none⟩ = some (.iface 9 (.string x0))) :
    Calls Tryf.prog 23 #[.string ⟨#[37, 115, 58, 32, 105, 110, 100, 101, 102, 105, 110, 105, 116, 101, 32, 108, 101, 110, 103, 116, 104, 32, 40, 110, 111, 116, 32, 68, 69, 82, 41]⟩, .slice (some ⟨blk, 0, none⟩) 1 1] w (MadeErr w) := by
  have hF' := answers_open hF
  go_enter Tryf.func23, Tryf.ntmps23
  go_wp2
  go_ret
  exact ⟨_, rfl, rfl⟩

set_option maxHeartbeats 800000 in
theorem errorf_sd (F : Interp) (x0 : ByteArray) (x1 : Int) (blk : Nat) (w : World) (hF : F.answers w.tape) (hc0 : w.cell? ⟨blk, 0, none⟩ = some (.iface 9 (.string x0))) (hc1 : w.cell? ⟨blk, 1, none⟩ = some (.iface 3 (.int .i64 x1))) :
    Calls Tryf.prog 23 #[.string ⟨#[37, 115, 58, 32, 108, 101, 110, 103, 116, 104, 32, 111, 102, 32, 37, 100, 32, 111, 99, 116, 101, 116, 115, 32, 105, 115, 32, 116, 111, 111, 32, 108, 111, 110, 103]⟩, .slice (some ⟨blk, 0, none⟩) 2 2] w (MadeErr w) := by
  have hF' := answers_open hF
  go_enter Tryf.func23, Tryf.ntmps23
  go_wp2
  go_ret
  exact ⟨_, rfl, rfl⟩

set_option maxHeartbeats 800000 in
theorem errorf_s3 (F : Interp) (x0 : ByteArray) (blk : Nat) (w : World) (hF : F.answers w.tape) (hc0 : w.cell? ⟨blk, 0, none⟩ = some (.iface 9 (.string x0))) :
    Calls Tryf.prog 23 #[.string ⟨#[37, 115, 58, 32, 116, 104, 101, 32, 100, 97, 116, 97, 32, 101, 110, 100, 115, 32, 105, 110, 115, 105, 100, 101, 32, 105, 116, 115, 32, 108, 101, 110, 103, 116, 104]⟩, .slice (some ⟨blk, 0, none⟩) 1 1] w (MadeErr w) := by
  have hF' := answers_open hF
  go_enter Tryf.func23, Tryf.ntmps23
  go_wp2
  go_ret
  exact ⟨_, rfl, rfl⟩

set_option maxHeartbeats 800000 in
theorem errorf_s4 (F : Interp) (x0 : ByteArray) (blk : Nat) (w : World) (hF : F.answers w.tape) (hc0 : w.cell? ⟨blk, 0, none⟩ = some (.iface 9 (.string x0))) :
    Calls Tryf.prog 23 #[.string ⟨#[37, 115, 58, 32, 108, 101, 110, 103, 116, 104, 32, 110, 111, 116, 32, 105, 110, 32, 105, 116, 115, 32, 115, 104, 111, 114, 116, 101, 115, 116, 32, 102, 111, 114, 109, 32, 40, 110, 111, 116, 32, 68, 69, 82, 41]⟩, .slice (some ⟨blk, 0, none⟩) 1 1] w (MadeErr w) := by
  have hF' := answers_open hF
  go_enter Tryf.func23, Tryf.ntmps23
  go_wp2
  go_ret
  exact ⟨_, rfl, rfl⟩

set_option maxHeartbeats 800000 in
theorem errorf_sdd (F : Interp) (x0 : ByteArray) (x1 : Int) (x2 : Int) (blk : Nat) (w : World) (hF : F.answers w.tape) (hc0 : w.cell? ⟨blk, 0, none⟩ = some (.iface 9 (.string x0))) (hc1 : w.cell? ⟨blk, 1, none⟩ = some (.iface 46 (.int .u64 x1))) (hc2 : w.cell? ⟨blk, 2, none⟩ = some (.iface 46 (.int .u64 x2))) :
    Calls Tryf.prog 23 #[.string ⟨#[37, 115, 32, 111, 102, 32, 37, 100, 32, 98, 121, 116, 101, 115, 32, 114, 117, 110, 115, 32, 112, 97, 115, 116, 32, 116, 104, 101, 32, 101, 110, 100, 32, 111, 102, 32, 116, 104, 101, 32, 100, 97, 116, 97, 32, 40, 37, 100, 32, 98, 121, 116, 101, 115, 32, 108, 101, 102, 116, 41]⟩, .slice (some ⟨blk, 0, none⟩) 3 3] w (MadeErr w) := by
  have hF' := answers_open hF
  go_enter Tryf.func23, Tryf.ntmps23
  go_wp2
  go_ret
  exact ⟨_, rfl, rfl⟩

set_option maxHeartbeats 800000 in
theorem errorf_se (F : Interp) (x0 : ByteArray) (x1 : Addr) (t : ByteArray) (blk : Nat) (w : World) (hF : F.answers w.tape) (hc0 : w.cell? ⟨blk, 0, none⟩ = some (.iface 9 (.string x0))) (hc1 : w.cell? ⟨blk, 1, none⟩ = some (.iface 58 (.pointer (some x1)))) (hs : w.cell? x1 = some (.string t)) :
    Calls Tryf.prog 23 #[.string ⟨#[37, 115, 58, 32, 37, 115]⟩, .slice (some ⟨blk, 0, none⟩) 2 2] w (MadeErr w) := by
  have hF' := answers_open hF
  obtain ⟨r, hop⟩ := opE "fmt.errorf" x1 t w hs
  go_enter Tryf.func23, Tryf.ntmps23
  go_wp2
  go_ret
  exact ⟨_, rfl, rfl⟩

set_option maxHeartbeats 800000 in
theorem errorf_af (F : Interp) (x0 : ByteArray) (x1 : Addr) (t : ByteArray) (blk : Nat) (w : World) (hF : F.answers w.tape) (hc0 : w.cell? ⟨blk, 0, none⟩ = some (.iface 9 (.string x0))) (hc1 : w.cell? ⟨blk, 1, none⟩ = some (.iface 58 (.pointer (some x1)))) (hs : w.cell? x1 = some (.string t)) :
    Calls Tryf.prog 23 #[.string ⟨#[97, 102, 116, 101, 114, 32, 116, 104, 101, 32, 37, 115, 58, 32, 37, 115]⟩, .slice (some ⟨blk, 0, none⟩) 2 2] w (MadeErr w) := by
  have hF' := answers_open hF
  obtain ⟨r, hop⟩ := opE "fmt.errorf" x1 t w hs
  go_enter Tryf.func23, Tryf.ntmps23
  go_wp2
  go_ret
  exact ⟨_, rfl, rfl⟩

set_option maxHeartbeats 800000 in
theorem errorf_d0 (F : Interp) (x0 : Int) (blk : Nat) (w : World) (hF : F.answers w.tape) (hc0 : w.cell? ⟨blk, 0, none⟩ = some (.iface 3 (.int .i64 x0))) :
    Calls Tryf.prog 23 #[.string ⟨#[37, 100, 32, 98, 121, 116, 101, 115, 32, 111, 102, 32, 116, 114, 97, 105, 108, 105, 110, 103, 32, 100, 97, 116, 97]⟩, .slice (some ⟨blk, 0, none⟩) 1 1] w (MadeErr w) := by
  have hF' := answers_open hF
  go_enter Tryf.func23, Tryf.ntmps23
  go_wp2
  go_ret
  exact ⟨_, rfl, rfl⟩

end Go.Proofs.Qxb6619177aFmt
