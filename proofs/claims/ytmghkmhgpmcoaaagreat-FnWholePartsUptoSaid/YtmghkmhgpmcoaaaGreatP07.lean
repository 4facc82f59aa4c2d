/- What the claim's theorem 'proved' rests on: AnyLaws. -/
import Derived.Test.YtmghkmhgpmcoaaaGreatProg
import Derived.Test.YtmghkmhgpmcoaaaGreatP01
set_option linter.unusedVariables false
set_option linter.unusedSimpArgs false
set_option maxRecDepth 100000
set_option maxHeartbeats 10000000
namespace Go.Proofs.YtmghkmhgpmcoaaaGreat
section
section
variable (w:World) (T:TypeId) (v:Value)
@[go_sem] theorem any_eq_nil:(binOp .eql 20 (.iface T v) .nilIface).run Tryz.prog w= .ok (.bool false) w:=by kernel_rfl
@[go_sem] theorem any_nil_nil:(binOp .eql 20 .nilIface .nilIface).run Tryz.prog w= .ok (.bool true) w:=by kernel_rfl
def notIface:TypeDesc→Bool| .interface _=>false|_=>true
theorem BX {T A:TypeId}{v z:Value}{w:World}{x:TypeId}(h:¬T=A){d:TypeDesc}(hd:Tryz.prog.underlying A=some d)(hi:notIface d=true)(hz:(zeroValue A).run Tryz.prog w= .ok z w):
  (Instr.typeAssert (.iface T v) x A true).run Tryz.prog w= .ok (.tuple #[z, .bool false]) w:=by
 simp [Instr.typeAssert,run_underlying hd]
 cases d<;>first|(simp [h,hz];done)|(simp [notIface]at hi)
@[go_sem] theorem ta_bool:(Instr.typeAssert (.iface 4 v) 20 4 true).run Tryz.prog w= .ok (.tuple #[v, .bool true]) w:=by kernel_rfl
@[go_sem] theorem ta_int64:(Instr.typeAssert (.iface 2 v) 20 2 true).run Tryz.prog w= .ok (.tuple #[v, .bool true]) w:=by kernel_rfl
@[go_sem] theorem ta_flt:(Instr.typeAssert (.iface 31 v) 20 31 true).run Tryz.prog w= .ok (.tuple #[v, .bool true]) w:=by kernel_rfl
@[go_sem] theorem ta_str:(Instr.typeAssert (.iface 9 v) 20 9 true).run Tryz.prog w= .ok (.tuple #[v, .bool true]) w:=by kernel_rfl
@[go_sem] theorem ta_list:(Instr.typeAssert (.iface 189 v) 20 189 true).run Tryz.prog w= .ok (.tuple #[v, .bool true]) w:=by kernel_rfl
@[go_sem] theorem ta_map:(Instr.typeAssert (.iface 190 v) 20 190 true).run Tryz.prog w= .ok (.tuple #[v, .bool true]) w:=by kernel_rfl
@[go_sem] theorem ta1_bool:(Instr.typeAssert (.iface 4 v) 20 4 false).run Tryz.prog w= .ok v w:=by kernel_rfl
@[go_sem] theorem ta1_int64:(Instr.typeAssert (.iface 2 v) 20 2 false).run Tryz.prog w= .ok v w:=by kernel_rfl
@[go_sem] theorem ta1_flt:(Instr.typeAssert (.iface 31 v) 20 31 false).run Tryz.prog w= .ok v w:=by kernel_rfl
@[go_sem] theorem ta1_str:(Instr.typeAssert (.iface 9 v) 20 9 false).run Tryz.prog w= .ok v w:=by kernel_rfl
@[go_sem] theorem ta1_list:(Instr.typeAssert (.iface 189 v) 20 189 false).run Tryz.prog w= .ok v w:=by kernel_rfl
@[go_sem] theorem ta1_map:(Instr.typeAssert (.iface 190 v) 20 190 false).run Tryz.prog w= .ok v w:=by kernel_rfl
@[go_sem] theorem ta_no_4 (h:¬T=4):(Instr.typeAssert (.iface T v) 20 4 true).run Tryz.prog w= .ok (.tuple #[.bool false, .bool false]) w:=BX h (d:=(Tryz.prog.underlying 4).getD default) (by kernel_rfl) (by kernel_rfl) (by kernel_rfl)
@[go_sem] theorem ta_nil_4:(Instr.typeAssert .nilIface 20 4 true).run Tryz.prog w= .ok (.tuple #[.bool false, .bool false]) w:=by kernel_rfl
@[go_sem] theorem ta_no_3 (h:¬T=3):(Instr.typeAssert (.iface T v) 20 3 true).run Tryz.prog w= .ok (.tuple #[.int .i64 0, .bool false]) w:=BX h (d:=(Tryz.prog.underlying 3).getD default) (by kernel_rfl) (by kernel_rfl) (by kernel_rfl)
@[go_sem] theorem ta_nil_3:(Instr.typeAssert .nilIface 20 3 true).run Tryz.prog w= .ok (.tuple #[.int .i64 0, .bool false]) w:=by kernel_rfl
@[go_sem] theorem ta_no_435 (h:¬T=435):(Instr.typeAssert (.iface T v) 20 435 true).run Tryz.prog w= .ok (.tuple #[.int .i8 0, .bool false]) w:=BX h (d:=(Tryz.prog.underlying 435).getD default) (by kernel_rfl) (by kernel_rfl) (by kernel_rfl)
@[go_sem] theorem ta_nil_435:(Instr.typeAssert .nilIface 20 435 true).run Tryz.prog w= .ok (.tuple #[.int .i8 0, .bool false]) w:=by kernel_rfl
@[go_sem] theorem ta_no_437 (h:¬T=437):(Instr.typeAssert (.iface T v) 20 437 true).run Tryz.prog w= .ok (.tuple #[.int .i16 0, .bool false]) w:=BX h (d:=(Tryz.prog.underlying 437).getD default) (by kernel_rfl) (by kernel_rfl) (by kernel_rfl)
@[go_sem] theorem ta_nil_437:(Instr.typeAssert .nilIface 20 437 true).run Tryz.prog w= .ok (.tuple #[.int .i16 0, .bool false]) w:=by kernel_rfl
@[go_sem] theorem ta_no_21 (h:¬T=21):(Instr.typeAssert (.iface T v) 20 21 true).run Tryz.prog w= .ok (.tuple #[.int .i32 0, .bool false]) w:=BX h (d:=(Tryz.prog.underlying 21).getD default) (by kernel_rfl) (by kernel_rfl) (by kernel_rfl)
@[go_sem] theorem ta_nil_21:(Instr.typeAssert .nilIface 20 21 true).run Tryz.prog w= .ok (.tuple #[.int .i32 0, .bool false]) w:=by kernel_rfl
@[go_sem] theorem ta_no_2 (h:¬T=2):(Instr.typeAssert (.iface T v) 20 2 true).run Tryz.prog w= .ok (.tuple #[.int .i64 0, .bool false]) w:=BX h (d:=(Tryz.prog.underlying 2).getD default) (by kernel_rfl) (by kernel_rfl) (by kernel_rfl)
@[go_sem] theorem ta_nil_2:(Instr.typeAssert .nilIface 20 2 true).run Tryz.prog w= .ok (.tuple #[.int .i64 0, .bool false]) w:=by kernel_rfl
@[go_sem] theorem ta_no_311 (h:¬T=311):(Instr.typeAssert (.iface T v) 20 311 true).run Tryz.prog w= .ok (.tuple #[.int .u64 0, .bool false]) w:=BX h (d:=(Tryz.prog.underlying 311).getD default) (by kernel_rfl) (by kernel_rfl) (by kernel_rfl)
@[go_sem] theorem ta_nil_311:(Instr.typeAssert .nilIface 20 311 true).run Tryz.prog w= .ok (.tuple #[.int .u64 0, .bool false]) w:=by kernel_rfl
@[go_sem] theorem ta_no_5 (h:¬T=5):(Instr.typeAssert (.iface T v) 20 5 true).run Tryz.prog w= .ok (.tuple #[.int .u8 0, .bool false]) w:=BX h (d:=(Tryz.prog.underlying 5).getD default) (by kernel_rfl) (by kernel_rfl) (by kernel_rfl)
@[go_sem] theorem ta_nil_5:(Instr.typeAssert .nilIface 20 5 true).run Tryz.prog w= .ok (.tuple #[.int .u8 0, .bool false]) w:=by kernel_rfl
@[go_sem] theorem ta_no_442 (h:¬T=442):(Instr.typeAssert (.iface T v) 20 442 true).run Tryz.prog w= .ok (.tuple #[.int .u16 0, .bool false]) w:=BX h (d:=(Tryz.prog.underlying 442).getD default) (by kernel_rfl) (by kernel_rfl) (by kernel_rfl)
@[go_sem] theorem ta_nil_442:(Instr.typeAssert .nilIface 20 442 true).run Tryz.prog w= .ok (.tuple #[.int .u16 0, .bool false]) w:=by kernel_rfl
@[go_sem] theorem ta_no_358 (h:¬T=358):(Instr.typeAssert (.iface T v) 20 358 true).run Tryz.prog w= .ok (.tuple #[.int .u32 0, .bool false]) w:=BX h (d:=(Tryz.prog.underlying 358).getD default) (by kernel_rfl) (by kernel_rfl) (by kernel_rfl)
@[go_sem] theorem ta_nil_358:(Instr.typeAssert .nilIface 20 358 true).run Tryz.prog w= .ok (.tuple #[.int .u32 0, .bool false]) w:=by kernel_rfl
@[go_sem] theorem ta_no_31 (h:¬T=31):(Instr.typeAssert (.iface T v) 20 31 true).run Tryz.prog w= .ok (.tuple #[.float .f64 0, .bool false]) w:=BX h (d:=(Tryz.prog.underlying 31).getD default) (by kernel_rfl) (by kernel_rfl) (by kernel_rfl)
@[go_sem] theorem ta_nil_31:(Instr.typeAssert .nilIface 20 31 true).run Tryz.prog w= .ok (.tuple #[.float .f64 0, .bool false]) w:=by kernel_rfl
@[go_sem] theorem ta_no_433 (h:¬T=433):(Instr.typeAssert (.iface T v) 20 433 true).run Tryz.prog w= .ok (.tuple #[.float .f32 0, .bool false]) w:=BX h (d:=(Tryz.prog.underlying 433).getD default) (by kernel_rfl) (by kernel_rfl) (by kernel_rfl)
@[go_sem] theorem ta_nil_433:(Instr.typeAssert .nilIface 20 433 true).run Tryz.prog w= .ok (.tuple #[.float .f32 0, .bool false]) w:=by kernel_rfl
@[go_sem] theorem ta_no_9 (h:¬T=9):(Instr.typeAssert (.iface T v) 20 9 true).run Tryz.prog w= .ok (.tuple #[.string ⟨#[]⟩, .bool false]) w:=BX h (d:=(Tryz.prog.underlying 9).getD default) (by kernel_rfl) (by kernel_rfl) (by kernel_rfl)
@[go_sem] theorem ta_nil_9:(Instr.typeAssert .nilIface 20 9 true).run Tryz.prog w= .ok (.tuple #[.string ⟨#[]⟩, .bool false]) w:=by kernel_rfl
@[go_sem] theorem ta_no_189 (h:¬T=189):(Instr.typeAssert (.iface T v) 20 189 true).run Tryz.prog w= .ok (.tuple #[.slice none 0 0, .bool false]) w:=BX h (d:=(Tryz.prog.underlying 189).getD default) (by kernel_rfl) (by kernel_rfl) (by kernel_rfl)
@[go_sem] theorem ta_nil_189:(Instr.typeAssert .nilIface 20 189 true).run Tryz.prog w= .ok (.tuple #[.slice none 0 0, .bool false]) w:=by kernel_rfl
@[go_sem] theorem ta_no_190 (h:¬T=190):(Instr.typeAssert (.iface T v) 20 190 true).run Tryz.prog w= .ok (.tuple #[.map none, .bool false]) w:=BX h (d:=(Tryz.prog.underlying 190).getD default) (by kernel_rfl) (by kernel_rfl) (by kernel_rfl)
@[go_sem] theorem ta_nil_190:(Instr.typeAssert .nilIface 20 190 true).run Tryz.prog w= .ok (.tuple #[.map none, .bool false]) w:=by kernel_rfl
end
end
end Go.Proofs.YtmghkmhgpmcoaaaGreat
