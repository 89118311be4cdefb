/- Which function a method's call through an interface comes to, by the kind of what lies in it. -/
import Derived.Test.YtgjpohmjkhgpfaaGreatW1
import Derived.KernelRfl
set_option linter.unusedSimpArgs false
set_option linter.unusedVariables false
namespace Go.Proofs.YtgjpohmjkhgpfaaGreat
open Go.RowKit

@[go_sem] theorem m_RGBA_Bounds (a : Addr) (w : World) : (method 326 85 (.pointer (some a)) "Bounds").run Tryz.prog w = .ok (126, .pointer (some a)) w := by kernel_rfl
@[go_sem] theorem m_RGBA_RGBA64At (a : Addr) (w : World) : (method 326 85 (.pointer (some a)) "RGBA64At").run Tryz.prog w = .ok (129, .pointer (some a)) w := by kernel_rfl
@[go_sem] theorem m_RGBA_At (a : Addr) (w : World) : (method 326 85 (.pointer (some a)) "At").run Tryz.prog w = .ok (125, .pointer (some a)) w := by kernel_rfl
@[go_sem] theorem m_RGBA_Set (a : Addr) (w : World) : (method 326 85 (.pointer (some a)) "Set").run Tryz.prog w = .ok (130, .pointer (some a)) w := by kernel_rfl
@[go_sem] theorem m_RGBA_SetRGBA64 (a : Addr) (w : World) : (method 326 85 (.pointer (some a)) "SetRGBA64").run Tryz.prog w = .ok (131, .pointer (some a)) w := by kernel_rfl
@[go_sem] theorem m_NRGBA_Bounds (a : Addr) (w : World) : (method 326 88 (.pointer (some a)) "Bounds").run Tryz.prog w = .ok (136, .pointer (some a)) w := by kernel_rfl
@[go_sem] theorem m_NRGBA_RGBA64At (a : Addr) (w : World) : (method 326 88 (.pointer (some a)) "RGBA64At").run Tryz.prog w = .ok (139, .pointer (some a)) w := by kernel_rfl
@[go_sem] theorem m_NRGBA_At (a : Addr) (w : World) : (method 326 88 (.pointer (some a)) "At").run Tryz.prog w = .ok (135, .pointer (some a)) w := by kernel_rfl
@[go_sem] theorem m_Alpha_Bounds (a : Addr) (w : World) : (method 326 90 (.pointer (some a)) "Bounds").run Tryz.prog w = .ok (145, .pointer (some a)) w := by kernel_rfl
@[go_sem] theorem m_Alpha_RGBA64At (a : Addr) (w : World) : (method 326 90 (.pointer (some a)) "RGBA64At").run Tryz.prog w = .ok (148, .pointer (some a)) w := by kernel_rfl
@[go_sem] theorem m_Alpha_At (a : Addr) (w : World) : (method 326 90 (.pointer (some a)) "At").run Tryz.prog w = .ok (144, .pointer (some a)) w := by kernel_rfl
@[go_sem] theorem m_Alpha_Set (a : Addr) (w : World) : (method 326 90 (.pointer (some a)) "Set").run Tryz.prog w = .ok (149, .pointer (some a)) w := by kernel_rfl
@[go_sem] theorem m_Alpha_SetRGBA64 (a : Addr) (w : World) : (method 326 90 (.pointer (some a)) "SetRGBA64").run Tryz.prog w = .ok (150, .pointer (some a)) w := by kernel_rfl
@[go_sem] theorem m_Gray_Bounds (a : Addr) (w : World) : (method 326 92 (.pointer (some a)) "Bounds").run Tryz.prog w = .ok (155, .pointer (some a)) w := by kernel_rfl
@[go_sem] theorem m_Gray_RGBA64At (a : Addr) (w : World) : (method 326 92 (.pointer (some a)) "RGBA64At").run Tryz.prog w = .ok (158, .pointer (some a)) w := by kernel_rfl
@[go_sem] theorem m_Gray_At (a : Addr) (w : World) : (method 326 92 (.pointer (some a)) "At").run Tryz.prog w = .ok (154, .pointer (some a)) w := by kernel_rfl
@[go_sem] theorem m_RGBA64_Bounds (a : Addr) (w : World) : (method 326 94 (.pointer (some a)) "Bounds").run Tryz.prog w = .ok (165, .pointer (some a)) w := by kernel_rfl
@[go_sem] theorem m_RGBA64_RGBA64At (a : Addr) (w : World) : (method 326 94 (.pointer (some a)) "RGBA64At").run Tryz.prog w = .ok (168, .pointer (some a)) w := by kernel_rfl
@[go_sem] theorem m_RGBA64_At (a : Addr) (w : World) : (method 326 94 (.pointer (some a)) "At").run Tryz.prog w = .ok (164, .pointer (some a)) w := by kernel_rfl
@[go_sem] theorem m_RGBA64_Set (a : Addr) (w : World) : (method 326 94 (.pointer (some a)) "Set").run Tryz.prog w = .ok (169, .pointer (some a)) w := by kernel_rfl
@[go_sem] theorem m_RGBA64_SetRGBA64 (a : Addr) (w : World) : (method 326 94 (.pointer (some a)) "SetRGBA64").run Tryz.prog w = .ok (170, .pointer (some a)) w := by kernel_rfl
@[go_sem] theorem m_CMYK_Bounds (a : Addr) (w : World) : (method 326 96 (.pointer (some a)) "Bounds").run Tryz.prog w = .ok (175, .pointer (some a)) w := by kernel_rfl
@[go_sem] theorem m_CMYK_RGBA64At (a : Addr) (w : World) : (method 326 96 (.pointer (some a)) "RGBA64At").run Tryz.prog w = .ok (178, .pointer (some a)) w := by kernel_rfl
@[go_sem] theorem m_CMYK_At (a : Addr) (w : World) : (method 326 96 (.pointer (some a)) "At").run Tryz.prog w = .ok (174, .pointer (some a)) w := by kernel_rfl
@[go_sem] theorem m_Uniform_Bounds (a : Addr) (w : World) : (method 326 100 (.pointer (some a)) "Bounds").run Tryz.prog w = .ok (188, .pointer (some a)) w := by kernel_rfl
@[go_sem] theorem m_Uniform_RGBA64At (a : Addr) (w : World) : (method 326 100 (.pointer (some a)) "RGBA64At").run Tryz.prog w = .ok (192, .pointer (some a)) w := by kernel_rfl
@[go_sem] theorem m_Uniform_At (a : Addr) (w : World) : (method 326 100 (.pointer (some a)) "At").run Tryz.prog w = .ok (187, .pointer (some a)) w := by kernel_rfl
@[go_sem] theorem m_cRGBA (v0 v1 v2 v3 : Value) (w : World) : (method 326 174 (.agg #[v0, v1, v2, v3]) "RGBA").run Tryz.prog w = .ok (86, .agg #[v0, v1, v2, v3]) w := by kernel_rfl
@[go_sem] theorem m_cNRGBA (v0 v1 v2 v3 : Value) (w : World) : (method 326 176 (.agg #[v0, v1, v2, v3]) "RGBA").run Tryz.prog w = .ok (89, .agg #[v0, v1, v2, v3]) w := by kernel_rfl
@[go_sem] theorem m_cAlpha (v0 : Value) (w : World) : (method 326 208 (.agg #[v0]) "RGBA").run Tryz.prog w = .ok (222, .agg #[v0]) w := by kernel_rfl
@[go_sem] theorem m_cGray (v0 : Value) (w : World) : (method 326 212 (.agg #[v0]) "RGBA").run Tryz.prog w = .ok (223, .agg #[v0]) w := by kernel_rfl
@[go_sem] theorem m_cRGBA64 (v0 v1 v2 v3 : Value) (w : World) : (method 326 103 (.agg #[v0, v1, v2, v3]) "RGBA").run Tryz.prog w = .ok (193, .agg #[v0, v1, v2, v3]) w := by kernel_rfl
@[go_sem] theorem m_cCMYK (v0 v1 v2 v3 : Value) (w : World) : (method 326 217 (.agg #[v0, v1, v2, v3]) "RGBA").run Tryz.prog w = .ok (182, .agg #[v0, v1, v2, v3]) w := by kernel_rfl
@[go_sem] theorem m_cAlpha16 (v0 : Value) (w : World) : (method 326 154 (.agg #[v0]) "RGBA").run Tryz.prog w = .ok (218, .agg #[v0]) w := by kernel_rfl
@[go_sem] theorem m_plain_Bounds (v : Value) (w : World) : (method 326 83 (.agg #[v]) "Bounds").run Tryz.prog w = .ok (122, .agg #[v]) w := by kernel_rfl
@[go_sem] theorem m_plain_At (v : Value) (w : World) : (method 326 83 (.agg #[v]) "At").run Tryz.prog w = .ok (121, .agg #[v]) w := by kernel_rfl
@[go_sem] theorem m_plain_Set (v : Value) (w : World) : (method 326 83 (.agg #[v]) "Set").run Tryz.prog w = .ok (124, .agg #[v]) w := by kernel_rfl
@[go_sem] theorem m_model (a : Addr) (w : World) : (method 326 202 (.pointer (some a)) "Convert").run Tryz.prog w = .ok (221, .pointer (some a)) w := by kernel_rfl
@[go_sem] theorem fld_Alpha (v : Int) (w : World) : (Instr.field 208 (.agg #[.int .u8 v]) 0).run Tryz.prog w = .ok (.int .u8 v) w := by kernel_rfl
@[go_sem] theorem fld_Gray (v : Int) (w : World) : (Instr.field 212 (.agg #[.int .u8 v]) 0).run Tryz.prog w = .ok (.int .u8 v) w := by kernel_rfl
end Go.Proofs.YtgjpohmjkhgpfaaGreat
