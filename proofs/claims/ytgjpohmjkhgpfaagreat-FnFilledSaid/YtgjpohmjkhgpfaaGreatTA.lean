/- Type assertions: what each kind of image answers to each type that is asked for. No condition. -/
import Derived.Test.YtgjpohmjkhgpfaaGreatW1
import Derived.KernelRfl
set_option linter.unusedSimpArgs false
set_option linter.unusedVariables false
namespace Go.Proofs.YtgjpohmjkhgpfaaGreat
open Go.RowKit

@[go_sem] theorem ta_image_RGBA_RGBA (a : Addr) (w : World) : (Instr.typeAssert (.iface 85 (.pointer (some a))) 72 85 true).run Tryz.prog w = .ok (.tuple #[.pointer (some a), .bool true]) w := by kernel_rfl
@[go_sem] theorem ta_image_RGBA_NRGBA (a : Addr) (w : World) : (Instr.typeAssert (.iface 85 (.pointer (some a))) 72 88 true).run Tryz.prog w = .ok (.tuple #[.pointer none, .bool false]) w := by kernel_rfl
@[go_sem] theorem ta_image_RGBA_Alpha (a : Addr) (w : World) : (Instr.typeAssert (.iface 85 (.pointer (some a))) 72 90 true).run Tryz.prog w = .ok (.tuple #[.pointer none, .bool false]) w := by kernel_rfl
@[go_sem] theorem ta_image_RGBA_Gray (a : Addr) (w : World) : (Instr.typeAssert (.iface 85 (.pointer (some a))) 72 92 true).run Tryz.prog w = .ok (.tuple #[.pointer none, .bool false]) w := by kernel_rfl
@[go_sem] theorem ta_image_RGBA_RGBA64 (a : Addr) (w : World) : (Instr.typeAssert (.iface 85 (.pointer (some a))) 72 94 true).run Tryz.prog w = .ok (.tuple #[.pointer none, .bool false]) w := by kernel_rfl
@[go_sem] theorem ta_image_RGBA_CMYK (a : Addr) (w : World) : (Instr.typeAssert (.iface 85 (.pointer (some a))) 72 96 true).run Tryz.prog w = .ok (.tuple #[.pointer none, .bool false]) w := by kernel_rfl
@[go_sem] theorem ta_image_RGBA_Uniform (a : Addr) (w : World) : (Instr.typeAssert (.iface 85 (.pointer (some a))) 72 100 true).run Tryz.prog w = .ok (.tuple #[.pointer none, .bool false]) w := by kernel_rfl
@[go_sem] theorem ta_image_RGBA_YCbCr (a : Addr) (w : World) : (Instr.typeAssert (.iface 85 (.pointer (some a))) 72 113 true).run Tryz.prog w = .ok (.tuple #[.pointer none, .bool false]) w := by kernel_rfl
@[go_sem] theorem ta_image_NRGBA_RGBA (a : Addr) (w : World) : (Instr.typeAssert (.iface 88 (.pointer (some a))) 72 85 true).run Tryz.prog w = .ok (.tuple #[.pointer none, .bool false]) w := by kernel_rfl
@[go_sem] theorem ta_image_NRGBA_NRGBA (a : Addr) (w : World) : (Instr.typeAssert (.iface 88 (.pointer (some a))) 72 88 true).run Tryz.prog w = .ok (.tuple #[.pointer (some a), .bool true]) w := by kernel_rfl
@[go_sem] theorem ta_image_NRGBA_Alpha (a : Addr) (w : World) : (Instr.typeAssert (.iface 88 (.pointer (some a))) 72 90 true).run Tryz.prog w = .ok (.tuple #[.pointer none, .bool false]) w := by kernel_rfl
@[go_sem] theorem ta_image_NRGBA_Gray (a : Addr) (w : World) : (Instr.typeAssert (.iface 88 (.pointer (some a))) 72 92 true).run Tryz.prog w = .ok (.tuple #[.pointer none, .bool false]) w := by kernel_rfl
@[go_sem] theorem ta_image_NRGBA_RGBA64 (a : Addr) (w : World) : (Instr.typeAssert (.iface 88 (.pointer (some a))) 72 94 true).run Tryz.prog w = .ok (.tuple #[.pointer none, .bool false]) w := by kernel_rfl
@[go_sem] theorem ta_image_NRGBA_CMYK (a : Addr) (w : World) : (Instr.typeAssert (.iface 88 (.pointer (some a))) 72 96 true).run Tryz.prog w = .ok (.tuple #[.pointer none, .bool false]) w := by kernel_rfl
@[go_sem] theorem ta_image_NRGBA_Uniform (a : Addr) (w : World) : (Instr.typeAssert (.iface 88 (.pointer (some a))) 72 100 true).run Tryz.prog w = .ok (.tuple #[.pointer none, .bool false]) w := by kernel_rfl
@[go_sem] theorem ta_image_NRGBA_YCbCr (a : Addr) (w : World) : (Instr.typeAssert (.iface 88 (.pointer (some a))) 72 113 true).run Tryz.prog w = .ok (.tuple #[.pointer none, .bool false]) w := by kernel_rfl
@[go_sem] theorem ta_image_Alpha_RGBA (a : Addr) (w : World) : (Instr.typeAssert (.iface 90 (.pointer (some a))) 72 85 true).run Tryz.prog w = .ok (.tuple #[.pointer none, .bool false]) w := by kernel_rfl
@[go_sem] theorem ta_image_Alpha_NRGBA (a : Addr) (w : World) : (Instr.typeAssert (.iface 90 (.pointer (some a))) 72 88 true).run Tryz.prog w = .ok (.tuple #[.pointer none, .bool false]) w := by kernel_rfl
@[go_sem] theorem ta_image_Alpha_Alpha (a : Addr) (w : World) : (Instr.typeAssert (.iface 90 (.pointer (some a))) 72 90 true).run Tryz.prog w = .ok (.tuple #[.pointer (some a), .bool true]) w := by kernel_rfl
@[go_sem] theorem ta_image_Alpha_Gray (a : Addr) (w : World) : (Instr.typeAssert (.iface 90 (.pointer (some a))) 72 92 true).run Tryz.prog w = .ok (.tuple #[.pointer none, .bool false]) w := by kernel_rfl
@[go_sem] theorem ta_image_Alpha_RGBA64 (a : Addr) (w : World) : (Instr.typeAssert (.iface 90 (.pointer (some a))) 72 94 true).run Tryz.prog w = .ok (.tuple #[.pointer none, .bool false]) w := by kernel_rfl
@[go_sem] theorem ta_image_Alpha_CMYK (a : Addr) (w : World) : (Instr.typeAssert (.iface 90 (.pointer (some a))) 72 96 true).run Tryz.prog w = .ok (.tuple #[.pointer none, .bool false]) w := by kernel_rfl
@[go_sem] theorem ta_image_Alpha_Uniform (a : Addr) (w : World) : (Instr.typeAssert (.iface 90 (.pointer (some a))) 72 100 true).run Tryz.prog w = .ok (.tuple #[.pointer none, .bool false]) w := by kernel_rfl
@[go_sem] theorem ta_image_Alpha_YCbCr (a : Addr) (w : World) : (Instr.typeAssert (.iface 90 (.pointer (some a))) 72 113 true).run Tryz.prog w = .ok (.tuple #[.pointer none, .bool false]) w := by kernel_rfl
@[go_sem] theorem ta_image_Gray_RGBA (a : Addr) (w : World) : (Instr.typeAssert (.iface 92 (.pointer (some a))) 72 85 true).run Tryz.prog w = .ok (.tuple #[.pointer none, .bool false]) w := by kernel_rfl
@[go_sem] theorem ta_image_Gray_NRGBA (a : Addr) (w : World) : (Instr.typeAssert (.iface 92 (.pointer (some a))) 72 88 true).run Tryz.prog w = .ok (.tuple #[.pointer none, .bool false]) w := by kernel_rfl
@[go_sem] theorem ta_image_Gray_Alpha (a : Addr) (w : World) : (Instr.typeAssert (.iface 92 (.pointer (some a))) 72 90 true).run Tryz.prog w = .ok (.tuple #[.pointer none, .bool false]) w := by kernel_rfl
@[go_sem] theorem ta_image_Gray_Gray (a : Addr) (w : World) : (Instr.typeAssert (.iface 92 (.pointer (some a))) 72 92 true).run Tryz.prog w = .ok (.tuple #[.pointer (some a), .bool true]) w := by kernel_rfl
@[go_sem] theorem ta_image_Gray_RGBA64 (a : Addr) (w : World) : (Instr.typeAssert (.iface 92 (.pointer (some a))) 72 94 true).run Tryz.prog w = .ok (.tuple #[.pointer none, .bool false]) w := by kernel_rfl
@[go_sem] theorem ta_image_Gray_CMYK (a : Addr) (w : World) : (Instr.typeAssert (.iface 92 (.pointer (some a))) 72 96 true).run Tryz.prog w = .ok (.tuple #[.pointer none, .bool false]) w := by kernel_rfl
@[go_sem] theorem ta_image_Gray_Uniform (a : Addr) (w : World) : (Instr.typeAssert (.iface 92 (.pointer (some a))) 72 100 true).run Tryz.prog w = .ok (.tuple #[.pointer none, .bool false]) w := by kernel_rfl
@[go_sem] theorem ta_image_Gray_YCbCr (a : Addr) (w : World) : (Instr.typeAssert (.iface 92 (.pointer (some a))) 72 113 true).run Tryz.prog w = .ok (.tuple #[.pointer none, .bool false]) w := by kernel_rfl
@[go_sem] theorem ta_image_RGBA64_RGBA (a : Addr) (w : World) : (Instr.typeAssert (.iface 94 (.pointer (some a))) 72 85 true).run Tryz.prog w = .ok (.tuple #[.pointer none, .bool false]) w := by kernel_rfl
@[go_sem] theorem ta_image_RGBA64_NRGBA (a : Addr) (w : World) : (Instr.typeAssert (.iface 94 (.pointer (some a))) 72 88 true).run Tryz.prog w = .ok (.tuple #[.pointer none, .bool false]) w := by kernel_rfl
@[go_sem] theorem ta_image_RGBA64_Alpha (a : Addr) (w : World) : (Instr.typeAssert (.iface 94 (.pointer (some a))) 72 90 true).run Tryz.prog w = .ok (.tuple #[.pointer none, .bool false]) w := by kernel_rfl
@[go_sem] theorem ta_image_RGBA64_Gray (a : Addr) (w : World) : (Instr.typeAssert (.iface 94 (.pointer (some a))) 72 92 true).run Tryz.prog w = .ok (.tuple #[.pointer none, .bool false]) w := by kernel_rfl
@[go_sem] theorem ta_image_RGBA64_RGBA64 (a : Addr) (w : World) : (Instr.typeAssert (.iface 94 (.pointer (some a))) 72 94 true).run Tryz.prog w = .ok (.tuple #[.pointer (some a), .bool true]) w := by kernel_rfl
@[go_sem] theorem ta_image_RGBA64_CMYK (a : Addr) (w : World) : (Instr.typeAssert (.iface 94 (.pointer (some a))) 72 96 true).run Tryz.prog w = .ok (.tuple #[.pointer none, .bool false]) w := by kernel_rfl
@[go_sem] theorem ta_image_RGBA64_Uniform (a : Addr) (w : World) : (Instr.typeAssert (.iface 94 (.pointer (some a))) 72 100 true).run Tryz.prog w = .ok (.tuple #[.pointer none, .bool false]) w := by kernel_rfl
@[go_sem] theorem ta_image_RGBA64_YCbCr (a : Addr) (w : World) : (Instr.typeAssert (.iface 94 (.pointer (some a))) 72 113 true).run Tryz.prog w = .ok (.tuple #[.pointer none, .bool false]) w := by kernel_rfl
@[go_sem] theorem ta_image_CMYK_RGBA (a : Addr) (w : World) : (Instr.typeAssert (.iface 96 (.pointer (some a))) 72 85 true).run Tryz.prog w = .ok (.tuple #[.pointer none, .bool false]) w := by kernel_rfl
@[go_sem] theorem ta_image_CMYK_NRGBA (a : Addr) (w : World) : (Instr.typeAssert (.iface 96 (.pointer (some a))) 72 88 true).run Tryz.prog w = .ok (.tuple #[.pointer none, .bool false]) w := by kernel_rfl
@[go_sem] theorem ta_image_CMYK_Alpha (a : Addr) (w : World) : (Instr.typeAssert (.iface 96 (.pointer (some a))) 72 90 true).run Tryz.prog w = .ok (.tuple #[.pointer none, .bool false]) w := by kernel_rfl
@[go_sem] theorem ta_image_CMYK_Gray (a : Addr) (w : World) : (Instr.typeAssert (.iface 96 (.pointer (some a))) 72 92 true).run Tryz.prog w = .ok (.tuple #[.pointer none, .bool false]) w := by kernel_rfl
@[go_sem] theorem ta_image_CMYK_RGBA64 (a : Addr) (w : World) : (Instr.typeAssert (.iface 96 (.pointer (some a))) 72 94 true).run Tryz.prog w = .ok (.tuple #[.pointer none, .bool false]) w := by kernel_rfl
@[go_sem] theorem ta_image_CMYK_CMYK (a : Addr) (w : World) : (Instr.typeAssert (.iface 96 (.pointer (some a))) 72 96 true).run Tryz.prog w = .ok (.tuple #[.pointer (some a), .bool true]) w := by kernel_rfl
@[go_sem] theorem ta_image_CMYK_Uniform (a : Addr) (w : World) : (Instr.typeAssert (.iface 96 (.pointer (some a))) 72 100 true).run Tryz.prog w = .ok (.tuple #[.pointer none, .bool false]) w := by kernel_rfl
@[go_sem] theorem ta_image_CMYK_YCbCr (a : Addr) (w : World) : (Instr.typeAssert (.iface 96 (.pointer (some a))) 72 113 true).run Tryz.prog w = .ok (.tuple #[.pointer none, .bool false]) w := by kernel_rfl
@[go_sem] theorem ta_image_Uniform_RGBA (a : Addr) (w : World) : (Instr.typeAssert (.iface 100 (.pointer (some a))) 72 85 true).run Tryz.prog w = .ok (.tuple #[.pointer none, .bool false]) w := by kernel_rfl
@[go_sem] theorem ta_image_Uniform_NRGBA (a : Addr) (w : World) : (Instr.typeAssert (.iface 100 (.pointer (some a))) 72 88 true).run Tryz.prog w = .ok (.tuple #[.pointer none, .bool false]) w := by kernel_rfl
@[go_sem] theorem ta_image_Uniform_Alpha (a : Addr) (w : World) : (Instr.typeAssert (.iface 100 (.pointer (some a))) 72 90 true).run Tryz.prog w = .ok (.tuple #[.pointer none, .bool false]) w := by kernel_rfl
@[go_sem] theorem ta_image_Uniform_Gray (a : Addr) (w : World) : (Instr.typeAssert (.iface 100 (.pointer (some a))) 72 92 true).run Tryz.prog w = .ok (.tuple #[.pointer none, .bool false]) w := by kernel_rfl
@[go_sem] theorem ta_image_Uniform_RGBA64 (a : Addr) (w : World) : (Instr.typeAssert (.iface 100 (.pointer (some a))) 72 94 true).run Tryz.prog w = .ok (.tuple #[.pointer none, .bool false]) w := by kernel_rfl
@[go_sem] theorem ta_image_Uniform_CMYK (a : Addr) (w : World) : (Instr.typeAssert (.iface 100 (.pointer (some a))) 72 96 true).run Tryz.prog w = .ok (.tuple #[.pointer none, .bool false]) w := by kernel_rfl
@[go_sem] theorem ta_image_Uniform_Uniform (a : Addr) (w : World) : (Instr.typeAssert (.iface 100 (.pointer (some a))) 72 100 true).run Tryz.prog w = .ok (.tuple #[.pointer (some a), .bool true]) w := by kernel_rfl
@[go_sem] theorem ta_image_Uniform_YCbCr (a : Addr) (w : World) : (Instr.typeAssert (.iface 100 (.pointer (some a))) 72 113 true).run Tryz.prog w = .ok (.tuple #[.pointer none, .bool false]) w := by kernel_rfl
@[go_sem] theorem ta_draw_RGBA_RGBA (a : Addr) (w : World) : (Instr.typeAssert (.iface 85 (.pointer (some a))) 70 85 true).run Tryz.prog w = .ok (.tuple #[.pointer (some a), .bool true]) w := by kernel_rfl
@[go_sem] theorem ta_draw_RGBA_Paletted (a : Addr) (w : World) : (Instr.typeAssert (.iface 85 (.pointer (some a))) 70 128 true).run Tryz.prog w = .ok (.tuple #[.pointer none, .bool false]) w := by kernel_rfl
@[go_sem] theorem ta_draw_RGBA_NRGBA (a : Addr) (w : World) : (Instr.typeAssert (.iface 85 (.pointer (some a))) 70 88 true).run Tryz.prog w = .ok (.tuple #[.pointer none, .bool false]) w := by kernel_rfl
@[go_sem] theorem ta_draw_RGBA_NRGBA64 (a : Addr) (w : World) : (Instr.typeAssert (.iface 85 (.pointer (some a))) 70 142 true).run Tryz.prog w = .ok (.tuple #[.pointer none, .bool false]) w := by kernel_rfl
@[go_sem] theorem ta_draw_RGBA64_RGBA (a : Addr) (w : World) : (Instr.typeAssert (.iface 94 (.pointer (some a))) 70 85 true).run Tryz.prog w = .ok (.tuple #[.pointer none, .bool false]) w := by kernel_rfl
@[go_sem] theorem ta_draw_RGBA64_Paletted (a : Addr) (w : World) : (Instr.typeAssert (.iface 94 (.pointer (some a))) 70 128 true).run Tryz.prog w = .ok (.tuple #[.pointer none, .bool false]) w := by kernel_rfl
@[go_sem] theorem ta_draw_RGBA64_NRGBA (a : Addr) (w : World) : (Instr.typeAssert (.iface 94 (.pointer (some a))) 70 88 true).run Tryz.prog w = .ok (.tuple #[.pointer none, .bool false]) w := by kernel_rfl
@[go_sem] theorem ta_draw_RGBA64_NRGBA64 (a : Addr) (w : World) : (Instr.typeAssert (.iface 94 (.pointer (some a))) 70 142 true).run Tryz.prog w = .ok (.tuple #[.pointer none, .bool false]) w := by kernel_rfl
@[go_sem] theorem ta_draw_Alpha_RGBA (a : Addr) (w : World) : (Instr.typeAssert (.iface 90 (.pointer (some a))) 70 85 true).run Tryz.prog w = .ok (.tuple #[.pointer none, .bool false]) w := by kernel_rfl
@[go_sem] theorem ta_draw_Alpha_Paletted (a : Addr) (w : World) : (Instr.typeAssert (.iface 90 (.pointer (some a))) 70 128 true).run Tryz.prog w = .ok (.tuple #[.pointer none, .bool false]) w := by kernel_rfl
@[go_sem] theorem ta_draw_Alpha_NRGBA (a : Addr) (w : World) : (Instr.typeAssert (.iface 90 (.pointer (some a))) 70 88 true).run Tryz.prog w = .ok (.tuple #[.pointer none, .bool false]) w := by kernel_rfl
@[go_sem] theorem ta_draw_Alpha_NRGBA64 (a : Addr) (w : World) : (Instr.typeAssert (.iface 90 (.pointer (some a))) 70 142 true).run Tryz.prog w = .ok (.tuple #[.pointer none, .bool false]) w := by kernel_rfl
@[go_sem] theorem ta_image_RGBA_R64 (a : Addr) (w : World) : (Instr.typeAssert (.iface 85 (.pointer (some a))) 72 122 true).run Tryz.prog w = .ok (.tuple #[.iface 85 (.pointer (some a)), .bool true]) w := by kernel_rfl
@[go_sem] theorem ta_image_NRGBA_R64 (a : Addr) (w : World) : (Instr.typeAssert (.iface 88 (.pointer (some a))) 72 122 true).run Tryz.prog w = .ok (.tuple #[.iface 88 (.pointer (some a)), .bool true]) w := by kernel_rfl
@[go_sem] theorem ta_image_Alpha_R64 (a : Addr) (w : World) : (Instr.typeAssert (.iface 90 (.pointer (some a))) 72 122 true).run Tryz.prog w = .ok (.tuple #[.iface 90 (.pointer (some a)), .bool true]) w := by kernel_rfl
@[go_sem] theorem ta_image_Gray_R64 (a : Addr) (w : World) : (Instr.typeAssert (.iface 92 (.pointer (some a))) 72 122 true).run Tryz.prog w = .ok (.tuple #[.iface 92 (.pointer (some a)), .bool true]) w := by kernel_rfl
@[go_sem] theorem ta_image_RGBA64_R64 (a : Addr) (w : World) : (Instr.typeAssert (.iface 94 (.pointer (some a))) 72 122 true).run Tryz.prog w = .ok (.tuple #[.iface 94 (.pointer (some a)), .bool true]) w := by kernel_rfl
@[go_sem] theorem ta_image_CMYK_R64 (a : Addr) (w : World) : (Instr.typeAssert (.iface 96 (.pointer (some a))) 72 122 true).run Tryz.prog w = .ok (.tuple #[.iface 96 (.pointer (some a)), .bool true]) w := by kernel_rfl
@[go_sem] theorem ta_image_Uniform_R64 (a : Addr) (w : World) : (Instr.typeAssert (.iface 100 (.pointer (some a))) 72 122 true).run Tryz.prog w = .ok (.tuple #[.iface 100 (.pointer (some a)), .bool true]) w := by kernel_rfl
@[go_sem] theorem ta_draw_RGBA_R64 (a : Addr) (w : World) : (Instr.typeAssert (.iface 85 (.pointer (some a))) 70 146 true).run Tryz.prog w = .ok (.tuple #[.iface 85 (.pointer (some a)), .bool true]) w := by kernel_rfl
@[go_sem] theorem ta_img_RGBA_draw (a : Addr) (w : World) : (Instr.typeAssert (.iface 85 (.pointer (some a))) 72 70 false).run Tryz.prog w = .ok (.iface 85 (.pointer (some a))) w := by kernel_rfl
@[go_sem] theorem ta_draw_RGBA64_R64 (a : Addr) (w : World) : (Instr.typeAssert (.iface 94 (.pointer (some a))) 70 146 true).run Tryz.prog w = .ok (.tuple #[.iface 94 (.pointer (some a)), .bool true]) w := by kernel_rfl
@[go_sem] theorem ta_img_RGBA64_draw (a : Addr) (w : World) : (Instr.typeAssert (.iface 94 (.pointer (some a))) 72 70 false).run Tryz.prog w = .ok (.iface 94 (.pointer (some a))) w := by kernel_rfl
@[go_sem] theorem ta_draw_Alpha_R64 (a : Addr) (w : World) : (Instr.typeAssert (.iface 90 (.pointer (some a))) 70 146 true).run Tryz.prog w = .ok (.tuple #[.iface 90 (.pointer (some a)), .bool true]) w := by kernel_rfl
@[go_sem] theorem ta_img_Alpha_draw (a : Addr) (w : World) : (Instr.typeAssert (.iface 90 (.pointer (some a))) 72 70 false).run Tryz.prog w = .ok (.iface 90 (.pointer (some a))) w := by kernel_rfl
@[go_sem] theorem ta_draw_plain_RGBA (v : Value) (w : World) : (Instr.typeAssert (.iface 83 v) 70 85 true).run Tryz.prog w = .ok (.tuple #[.pointer none, .bool false]) w := by kernel_rfl
@[go_sem] theorem ta_draw_plain_Paletted (v : Value) (w : World) : (Instr.typeAssert (.iface 83 v) 70 128 true).run Tryz.prog w = .ok (.tuple #[.pointer none, .bool false]) w := by kernel_rfl
@[go_sem] theorem ta_draw_plain_NRGBA (v : Value) (w : World) : (Instr.typeAssert (.iface 83 v) 70 88 true).run Tryz.prog w = .ok (.tuple #[.pointer none, .bool false]) w := by kernel_rfl
@[go_sem] theorem ta_draw_plain_NRGBA64 (v : Value) (w : World) : (Instr.typeAssert (.iface 83 v) 70 142 true).run Tryz.prog w = .ok (.tuple #[.pointer none, .bool false]) w := by kernel_rfl
@[go_sem] theorem ta_image_nil_Alpha (w : World) : (Instr.typeAssert .nilIface 72 90 true).run Tryz.prog w = .ok (.tuple #[.pointer none, .bool false]) w := by kernel_rfl
@[go_sem] theorem ta_image_nil_R64 (w : World) : (Instr.typeAssert .nilIface 72 122 true).run Tryz.prog w = .ok (.tuple #[.nilIface, .bool false]) w := by kernel_rfl
end Go.Proofs.YtgjpohmjkhgpfaaGreat
