/- Texts Facts to W70, as far as the statement reaches them, laid together by a program of ours. Conditions: those that each theorem names. -/
import Derived.Test.YtgnagohmccbjcaaGreatK1
import Derived.Test.YtgnagohmccbjcaaGreatProg
import Derived.Test.YtgnagohmccbjcaaGreatRows
import Derived.ProofKit
import Derived.Deep.Slices
set_option linter.unusedVariables false
set_option linter.unusedSimpArgs false
set_option linter.unusedSectionVars false
set_option maxRecDepth 100000
set_option maxHeartbeats 2000000
namespace Go.Proofs.YtgnagohmccbjcaaGreat
open Go.Tess
theorem u_int:Tryz.prog.underlying 3=some (.int .i64):=by kernel_rfl
theorem u_bool:Tryz.prog.underlying 4=some (.bool):=by kernel_rfl
theorem zgd:Tryz.prog.underlying 5=some (.int .u8):=by kernel_rfl
theorem zeg:Tryz.prog.underlying 9=some (.string):=by kernel_rfl
theorem u_sl_sl_spec_Span:Tryz.prog.underlying 22=some (.slice 25):=by kernel_rfl
theorem zca:Tryz.prog.underlying 25=some (.slice 40):=by kernel_rfl
theorem zdf:Tryz.prog.underlying 29=some (.slice 55):=by kernel_rfl
theorem zim:Tryz.prog.underlying 32=some (.slice 29):=by kernel_rfl
theorem zoo:Tryz.prog.underlying 35=some (.int .u64):=by kernel_rfl
theorem zbn:Tryz.prog.underlying 38=some (.slice 42):=by kernel_rfl
theorem zeq:Tryz.prog.underlying 44=some (.slice 138):=by kernel_rfl
theorem zis:Tryz.prog.underlying 46=some (.slice 57):=by kernel_rfl
theorem zfe:Tryz.prog.underlying 53=some (.slice 267):=by kernel_rfl
theorem zdk:Tryz.prog.underlying 66=some (.slice 5):=by kernel_rfl
theorem zec:Tryz.prog.underlying 69=some (.slice 213):=by kernel_rfl
theorem zde:Tryz.prog.underlying 79=some (.pointer 73):=by kernel_rfl
theorem zbj:Tryz.prog.underlying 92=some (.slice 213):=by kernel_rfl
theorem zat:Tryz.prog.underlying 93=some (.slice 83):=by kernel_rfl
theorem zal:Tryz.prog.underlying 96=some (.slice 87):=by kernel_rfl
theorem zet:Tryz.prog.underlying 123=some (.slice 77):=by kernel_rfl
theorem zpd:Tryz.prog.underlying 142=some (.pointer 91):=by kernel_rfl
theorem zan:Tryz.prog.underlying 148=some (.slice 73):=by kernel_rfl
theorem ztu:Tryz.prog.underlying 178=some (.pointer 250):=by kernel_rfl
theorem u_uint:Tryz.prog.underlying 210=some (.int .u64):=by kernel_rfl
theorem zne:Tryz.prog.underlying 232=some (.pointer 230):=by kernel_rfl
theorem zoa:Tryz.prog.underlying 270=some (.pointer 223):=by kernel_rfl
theorem zgs:Tryz.prog.underlying 271=some (.pointer 92):=by kernel_rfl
theorem zuj:Tryz.prog.underlying 327=some (.int .u64):=by kernel_rfl
theorem zei:IsIface Tryz.prog 75:=by unfold IsIface;kernel_rfl
theorem znf:IsFunc Tryz.prog 208:=by unfold IsFunc;kernel_rfl
theorem zge:FA Tryz.prog 40 0 0:=fun _ _ _=>by kernel_rfl
theorem zgf:FA Tryz.prog 40 1 1:=fun _ _ _=>by kernel_rfl
theorem zew:FA Tryz.prog 40 2 2:=fun _ _ _=>by kernel_rfl
theorem zgn:FA Tryz.prog 42 0 0:=fun _ _ _=>by kernel_rfl
theorem zhc:FA Tryz.prog 42 1 1:=fun _ _ _=>by kernel_rfl
theorem zkh:FA Tryz.prog 42 2 2:=fun _ _ _=>by kernel_rfl
theorem zmj:FA Tryz.prog 55 0 0:=fun _ _ _=>by kernel_rfl
theorem zmk:FA Tryz.prog 55 1 1:=fun _ _ _=>by kernel_rfl
theorem zml:FA Tryz.prog 55 2 2:=fun _ _ _=>by kernel_rfl
theorem zjz:FA Tryz.prog 57 0 0:=fun _ _ _=>by kernel_rfl
theorem zqi:FA Tryz.prog 57 1 1:=fun _ _ _=>by kernel_rfl
theorem zcg:FA Tryz.prog 73 0 0:=fun _ _ _=>by kernel_rfl
theorem zcu:FA Tryz.prog 73 1 1:=fun _ _ _=>by kernel_rfl
theorem zdm:FA Tryz.prog 73 2 2:=fun _ _ _=>by kernel_rfl
theorem zta:FA Tryz.prog 73 3 3:=fun _ _ _=>by kernel_rfl
theorem zbw:FA Tryz.prog 81 0 0:=fun _ _ _=>by kernel_rfl
theorem zcw:FA Tryz.prog 81 1 1:=fun _ _ _=>by kernel_rfl
theorem zfm:FA Tryz.prog 81 2 2:=fun _ _ _=>by kernel_rfl
theorem zcf:FA Tryz.prog 83 0 0:=fun _ _ _=>by kernel_rfl
theorem zap:FA Tryz.prog 83 1 1:=fun _ _ _=>by kernel_rfl
theorem zbk:FA Tryz.prog 87 0 0:=fun _ _ _=>by kernel_rfl
theorem zgt:FA Tryz.prog 87 1 1:=fun _ _ _=>by kernel_rfl
theorem zhe:FA Tryz.prog 89 0 0:=fun _ _ _=>by kernel_rfl
theorem zhf:FA Tryz.prog 89 1 40:=fun _ _ _=>by kernel_rfl
theorem zae:FA Tryz.prog 91 0 0:=fun _ _ _=>by kernel_rfl
theorem zcq:FA Tryz.prog 91 1 1:=fun _ _ _=>by kernel_rfl
theorem zcr:FA Tryz.prog 91 2 2:=fun _ _ _=>by kernel_rfl
theorem zjm:FA Tryz.prog 91 3 3:=fun _ _ _=>by kernel_rfl
theorem zdy:FA Tryz.prog 91 4 4:=fun _ _ _=>by kernel_rfl
theorem zbl:FA Tryz.prog 91 5 8:=fun _ _ _=>by kernel_rfl
theorem zdc:FA Tryz.prog 91 6 9:=fun _ _ _=>by kernel_rfl
theorem zjn:FA Tryz.prog 91 7 10:=fun _ _ _=>by kernel_rfl
theorem zej:FA Tryz.prog 98 0 0:=fun _ _ _=>by kernel_rfl
theorem zgu:FA Tryz.prog 98 1 1:=fun _ _ _=>by kernel_rfl
theorem zag:FA Tryz.prog 98 2 2:=fun _ _ _=>by kernel_rfl
theorem zbu:FA Tryz.prog 100 0 0:=fun _ _ _=>by kernel_rfl
theorem zau:FA Tryz.prog 100 1 1:=fun _ _ _=>by kernel_rfl
theorem zaf:FA Tryz.prog 100 2 2:=fun _ _ _=>by kernel_rfl
theorem zcm:FA Tryz.prog 100 3 5:=fun _ _ _=>by kernel_rfl
theorem zic:FA Tryz.prog 120 0 0:=fun _ _ _=>by kernel_rfl
theorem zlm:FA Tryz.prog 138 1 1:=fun _ _ _=>by kernel_rfl
theorem zln:FA Tryz.prog 138 2 2:=fun _ _ _=>by kernel_rfl
theorem zgv:FA Tryz.prog 213 0 0:=fun _ _ _=>by kernel_rfl
theorem ztv:FA Tryz.prog 213 1 1:=fun _ _ _=>by kernel_rfl
theorem ztw:FA Tryz.prog 213 2 2:=fun _ _ _=>by kernel_rfl
theorem zjd:FA Tryz.prog 223 0 0:=fun _ _ _=>by kernel_rfl
theorem zdp:FA Tryz.prog 223 1 1:=fun _ _ _=>by kernel_rfl
theorem zeo:FA Tryz.prog 225 0 0:=fun _ _ _=>by kernel_rfl
theorem zpe:FA Tryz.prog 225 2 2:=fun _ _ _=>by kernel_rfl
theorem zco:FA Tryz.prog 225 3 3:=fun _ _ _=>by kernel_rfl
theorem zkf:FA Tryz.prog 225 4 4:=fun _ _ _=>by kernel_rfl
theorem zhw:FA Tryz.prog 225 5 5:=fun _ _ _=>by kernel_rfl
theorem zee:FA Tryz.prog 225 6 7:=fun _ _ _=>by kernel_rfl
theorem zgp:FA Tryz.prog 225 7 8:=fun _ _ _=>by kernel_rfl
theorem zhx:FA Tryz.prog 225 8 9:=fun _ _ _=>by kernel_rfl
theorem zmm:FA Tryz.prog 230 0 0:=fun _ _ _=>by kernel_rfl
theorem zdt:FA Tryz.prog 230 1 1:=fun _ _ _=>by kernel_rfl
theorem znv:FA Tryz.prog 250 0 0:=fun _ _ _=>by kernel_rfl
theorem zcj:FA Tryz.prog 250 1 1:=fun _ _ _=>by kernel_rfl
theorem zbi:FA Tryz.prog 250 2 2:=fun _ _ _=>by kernel_rfl
theorem ztb:FA Tryz.prog 267 0 0:=fun _ _ _=>by kernel_rfl
theorem ztc:FA Tryz.prog 267 1 1:=fun _ _ _=>by kernel_rfl
theorem ztd:FA Tryz.prog 267 2 2:=fun _ _ _=>by kernel_rfl
theorem zdw:One Tryz.prog 3:=fun _=>by kernel_rfl
theorem zrb:One Tryz.prog 4:=fun _=>by kernel_rfl
theorem zpj:One Tryz.prog 5:=fun _=>by kernel_rfl
theorem zcn:One Tryz.prog 9:=fun _=>by kernel_rfl
theorem zhk:One Tryz.prog 25:=fun _=>by kernel_rfl
theorem zkq:One Tryz.prog 29:=fun _=>by kernel_rfl
theorem zfj:One Tryz.prog 35:=fun _=>by kernel_rfl
theorem zea:One Tryz.prog 38:=fun _=>by kernel_rfl
theorem zjh:One Tryz.prog 53:=fun _=>by kernel_rfl
theorem zab:One Tryz.prog 65:=fun _=>by kernel_rfl
theorem zas:One Tryz.prog 66:=fun _=>by kernel_rfl
theorem zkg:One Tryz.prog 68:=fun _=>by kernel_rfl
theorem zdz:One Tryz.prog 69:=fun _=>by kernel_rfl
theorem zjo:One Tryz.prog 70:=fun _=>by kernel_rfl
theorem zqj:One Tryz.prog 71:=fun _=>by kernel_rfl
theorem zem:One Tryz.prog 75:=fun _=>by kernel_rfl
theorem zcc:One Tryz.prog 77:=fun _=>by kernel_rfl
theorem zbx:One Tryz.prog 78:=fun _=>by kernel_rfl
theorem zgg:One Tryz.prog 79:=fun _=>by kernel_rfl
theorem zbs:One Tryz.prog 85:=fun _=>by kernel_rfl
theorem zba:One Tryz.prog 92:=fun _=>by kernel_rfl
theorem zaq:One Tryz.prog 93:=fun _=>by kernel_rfl
theorem zcs:One Tryz.prog 95:=fun _=>by kernel_rfl
theorem zai:One Tryz.prog 96:=fun _=>by kernel_rfl
theorem zcd:One Tryz.prog 143:=fun _=>by kernel_rfl
theorem zng:One Tryz.prog 145:=fun _=>by kernel_rfl
theorem zqk:One Tryz.prog 146:=fun _=>by kernel_rfl
theorem zaw:One Tryz.prog 148:=fun _=>by kernel_rfl
theorem zfv:One Tryz.prog 327:=fun _=>by kernel_rfl
theorem zdn:Many Tryz.prog 40 3:=⟨fun _=>by kernel_rfl,fun _=>by kernel_rfl⟩
theorem zdo:Many Tryz.prog 42 3:=⟨fun _=>by kernel_rfl,fun _=>by kernel_rfl⟩
theorem zex:Many Tryz.prog 55 3:=⟨fun _=>by kernel_rfl,fun _=>by kernel_rfl⟩
theorem zuw:Many Tryz.prog 57 2:=⟨fun _=>by kernel_rfl,fun _=>by kernel_rfl⟩
theorem zct:Many Tryz.prog 73 4:=⟨fun _=>by kernel_rfl,fun _=>by kernel_rfl⟩
theorem zkz:Many Tryz.prog 81 3:=⟨fun _=>by kernel_rfl,fun _=>by kernel_rfl⟩
theorem zit:Many Tryz.prog 87 2:=⟨fun _=>by kernel_rfl,fun _=>by kernel_rfl⟩
theorem ziz:Many Tryz.prog 138 5:=⟨fun _=>by kernel_rfl,fun _=>by kernel_rfl⟩
theorem zfr:Many Tryz.prog 213 3:=⟨fun _=>by kernel_rfl,fun _=>by kernel_rfl⟩
theorem zki:Many Tryz.prog 267 3:=⟨fun _=>by kernel_rfl,fun _=>by kernel_rfl⟩
theorem zhy:Siz Tryz.prog 3 1:=fun _=>by kernel_rfl
theorem zrc:Siz Tryz.prog 4 1:=fun _=>by kernel_rfl
theorem znh:Siz Tryz.prog 5 1:=fun _=>by kernel_rfl
theorem zhl:Siz Tryz.prog 25 1:=fun _=>by kernel_rfl
theorem zkr:Siz Tryz.prog 29 1:=fun _=>by kernel_rfl
theorem zsd:Siz Tryz.prog 38 1:=fun _=>by kernel_rfl
theorem zdd:Siz Tryz.prog 40 3:=fun _=>by kernel_rfl
theorem zck:Siz Tryz.prog 42 3:=fun _=>by kernel_rfl
theorem zed:Siz Tryz.prog 55 3:=fun _=>by kernel_rfl
theorem zkp:Siz Tryz.prog 57 2:=fun _=>by kernel_rfl
theorem zdg:Siz Tryz.prog 66 1:=fun _=>by kernel_rfl
theorem zni:Siz Tryz.prog 69 1:=fun _=>by kernel_rfl
theorem siz_int8:Siz Tryz.prog 70 1:=fun _=>by kernel_rfl
theorem zax:Siz Tryz.prog 73 4:=fun _=>by kernel_rfl
theorem zpk:Siz Tryz.prog 75 1:=fun _=>by kernel_rfl
theorem ziu:Siz Tryz.prog 77 1:=fun _=>by kernel_rfl
theorem zcp:Siz Tryz.prog 81 3:=fun _=>by kernel_rfl
theorem zbg:Siz Tryz.prog 83 4:=fun _=>by kernel_rfl
theorem zar:Siz Tryz.prog 87 2:=fun _=>by kernel_rfl
theorem zpf:Siz Tryz.prog 91 70:=fun _=>by kernel_rfl
theorem zdh:Siz Tryz.prog 92 1:=fun _=>by kernel_rfl
theorem zlc:Siz Tryz.prog 93 1:=fun _=>by kernel_rfl
theorem zop:Siz Tryz.prog 95 1:=fun _=>by kernel_rfl
theorem zfk:Siz Tryz.prog 96 1:=fun _=>by kernel_rfl
theorem zfz:Siz Tryz.prog 138 5:=fun _=>by kernel_rfl
theorem zff:Siz Tryz.prog 148 1:=fun _=>by kernel_rfl
theorem zbv:Siz Tryz.prog 213 3:=fun _=>by kernel_rfl
theorem znj:Siz Tryz.prog 230 2:=fun _=>by kernel_rfl
theorem ztx:Siz Tryz.prog 250 3:=fun _=>by kernel_rfl
theorem zgw:Siz Tryz.prog 267 3:=fun _=>by kernel_rfl
theorem zin:Siz Tryz.prog 327 1:=fun _=>by kernel_rfl
theorem zero_int:Zero Tryz.prog 3 [.int .i64 0]:=fun _=>⟨.int .i64 0,by kernel_rfl,by kernel_rfl⟩
theorem znw:Zero Tryz.prog 29 [.slice none 0 0]:=fun _=>⟨.slice none 0 0,by kernel_rfl,by kernel_rfl⟩
theorem zfb:Zero Tryz.prog 40 [.string ByteArray.empty,.string ByteArray.empty,.slice none 0 0]:=fun _=>⟨.agg #[.string ByteArray.empty,.string ByteArray.empty,.slice none 0 0],by kernel_rfl,by kernel_rfl⟩
theorem zgo:Zero Tryz.prog 42 [.int .u64 0,.string ByteArray.empty,.string ByteArray.empty]:=fun _=>⟨.agg #[.int .u64 0,.string ByteArray.empty,.string ByteArray.empty],by kernel_rfl,by kernel_rfl⟩
theorem zfc:Zero Tryz.prog 55 [.string ByteArray.empty,.string ByteArray.empty,.slice none 0 0]:=fun _=>⟨.agg #[.string ByteArray.empty,.string ByteArray.empty,.slice none 0 0],by kernel_rfl,by kernel_rfl⟩
theorem zmn:Zero Tryz.prog 57 [.int .u8 0,.string ByteArray.empty]:=fun _=>⟨.agg #[.int .u8 0,.string ByteArray.empty],by kernel_rfl,by kernel_rfl⟩
theorem zdv:Zero Tryz.prog 73 [.slice none 0 0,.slice none 0 0,.slice none 0 0,.int .i8 0]:=fun _=>⟨.agg #[.slice none 0 0,.slice none 0 0,.slice none 0 0,.int .i8 0],by kernel_rfl,by kernel_rfl⟩
theorem zlu:Zero Tryz.prog 77 [.nilIface]:=fun _=>⟨.nilIface,by kernel_rfl,by kernel_rfl⟩
theorem zmo:Zero Tryz.prog 87 [.pointer none,.int .i64 0]:=fun _=>⟨.agg #[.pointer none,.int .i64 0],by kernel_rfl,by kernel_rfl⟩
theorem zoq:Zero Tryz.prog 91 [.pointer none,.slice none 0 0,.slice none 0 0,.nilIface,.slice none 0 0,.slice none 0 0,.slice none 0 0,.int .i8 0,.nilIface,.int .i8 0,.nilIface,.int .i8 0,.slice none 0 0,.pointer none,.nilIface,.int .i8 0,.slice none 0 0,.pointer none,.nilIface,.int .i8 0,.slice none 0 0,.pointer none,.nilIface,.int .i8 0,.slice none 0 0,.pointer none,.nilIface,.int .i8 0,.slice none 0 0,.pointer none,.nilIface,.int .i8 0,.slice none 0 0,.pointer none,.nilIface,.int .i8 0,.slice none 0 0,.pointer none,.nilIface,.int .i8 0,.slice none 0 0,.pointer none,.nilIface,.int .i8 0,.slice none 0 0,.pointer none,.nilIface,.int .i8 0,.slice none 0 0,.pointer none,.pointer none,.int .i64 0,.pointer none,.int .i64 0,.pointer none,.int .i64 0,.pointer none,.int .i64 0,.pointer none,.int .i64 0,.pointer none,.int .i64 0,.pointer none,.int .i64 0,.pointer none,.int .i64 0,.pointer none,.int .i64 0,.pointer none,.int .i64 0]:=fun _=>⟨.agg #[.pointer none,.slice none 0 0,.slice none 0 0,.nilIface,.slice none 0 0,.slice none 0 0,.slice none 0 0,.int .i8 0,.nilIface,.int .i8 0,.nilIface,.int .i8 0,.slice none 0 0,.pointer none,.nilIface,.int .i8 0,.slice none 0 0,.pointer none,.nilIface,.int .i8 0,.slice none 0 0,.pointer none,.nilIface,.int .i8 0,.slice none 0 0,.pointer none,.nilIface,.int .i8 0,.slice none 0 0,.pointer none,.nilIface,.int .i8 0,.slice none 0 0,.pointer none,.nilIface,.int .i8 0,.slice none 0 0,.pointer none,.nilIface,.int .i8 0,.slice none 0 0,.pointer none,.nilIface,.int .i8 0,.slice none 0 0,.pointer none,.nilIface,.int .i8 0,.slice none 0 0,.pointer none,.pointer none,.int .i64 0,.pointer none,.int .i64 0,.pointer none,.int .i64 0,.pointer none,.int .i64 0,.pointer none,.int .i64 0,.pointer none,.int .i64 0,.pointer none,.int .i64 0,.pointer none,.int .i64 0,.pointer none,.int .i64 0,.pointer none,.int .i64 0],by kernel_rfl,by kernel_rfl⟩
theorem znk:Zero Tryz.prog 100 [.slice none 0 0,.slice none 0 0,.nilFunc,.bool false,.slice none 0 0,.slice none 0 0]:=fun _=>⟨.agg #[.slice none 0 0,.slice none 0 0,.nilFunc,.bool false,.slice none 0 0,.slice none 0 0],by kernel_rfl,by kernel_rfl⟩
theorem zgl:Zero Tryz.prog 138 [.bool false,.bool false,.string ByteArray.empty,.string ByteArray.empty,.slice none 0 0]:=fun _=>⟨.agg #[.bool false,.bool false,.string ByteArray.empty,.string ByteArray.empty,.slice none 0 0],by kernel_rfl,by kernel_rfl⟩
theorem zja:Zero Tryz.prog 213 [.int .u64 0,.slice none 0 0,.slice none 0 0]:=fun _=>⟨.agg #[.int .u64 0,.slice none 0 0,.slice none 0 0],by kernel_rfl,by kernel_rfl⟩
theorem zmp:Zero Tryz.prog 230 [.nilFunc,.slice none 0 0]:=fun _=>⟨.agg #[.nilFunc,.slice none 0 0],by kernel_rfl,by kernel_rfl⟩
theorem zio:Zero Tryz.prog 267 [.int .u64 0,.string ByteArray.empty,.string ByteArray.empty]:=fun _=>⟨.agg #[.int .u64 0,.string ByteArray.empty,.string ByteArray.empty],by kernel_rfl,by kernel_rfl⟩
theorem zsk:Zero Tryz.prog 327 [.int .u64 0]:=fun _=>⟨.int .u64 0,by kernel_rfl,by kernel_rfl⟩
theorem zse (x0:ByteArray) (x1:ByteArray) (x2:Option Addr) (x2n x2c:Nat):∀w,(Instr.build 40 #[(0,.string x0),(1,.string x1),(2,.slice x2 x2n x2c)]).run Tryz.prog w=.ok (.agg #[.string x0,.string x1,.slice x2 x2n x2c]) w:=fun _=>by kernel_rfl
theorem zmb (x0:ByteArray) (x1:ByteArray) (x2:Option Addr) (x2n x2c:Nat):∀w,(Instr.build 55 #[(0,.string x0),(1,.string x1),(2,.slice x2 x2n x2c)]).run Tryz.prog w=.ok (.agg #[.string x0,.string x1,.slice x2 x2n x2c]) w:=fun _=>by kernel_rfl
theorem zpl (x0:Int):∀w,(Instr.build 57 #[(0,.int .u8 x0)]).run Tryz.prog w=.ok (.agg #[.int .u8 x0,.string ByteArray.empty]) w:=fun _=>by kernel_rfl
theorem zgb (x0:Option Addr) (x0n x0c:Nat) (x1:Option Addr) (x1n x1c:Nat) (x2:Option Addr) (x2n x2c:Nat):∀w,(Instr.build 73 #[(0,.slice x0 x0n x0c),(1,.slice x1 x1n x1c),(2,.slice x2 x2n x2c)]).run Tryz.prog w=.ok (.agg #[.slice x0 x0n x0c,.slice x1 x1n x1c,.slice x2 x2n x2c,.int .i8 0]) w:=fun _=>by kernel_rfl
theorem zjp (x0:Option Addr) (x0n x0c:Nat) (x1:Option Addr) (x1n x1c:Nat) (x2:Option Addr) (x2n x2c:Nat) (x3:Int):∀w,(Instr.build 73 #[(0,.slice x0 x0n x0c),(1,.slice x1 x1n x1c),(2,.slice x2 x2n x2c),(3,.int .i8 x3)]).run Tryz.prog w=.ok (.agg #[.slice x0 x0n x0c,.slice x1 x1n x1c,.slice x2 x2n x2c,.int .i8 x3]) w:=fun _=>by kernel_rfl
theorem zfd (x0:Int):∀w,(Instr.build 81 #[(0,.int .i8 x0)]).run Tryz.prog w=.ok (.agg #[.int .i8 x0,.slice none 0 0,.pointer none]) w:=fun _=>by kernel_rfl
theorem zda (x0:Int) (x1:Option Addr) (x1n x1c:Nat) (x2:Option Addr):∀w,(Instr.build 81 #[(0,.int .i8 x0),(1,.slice x1 x1n x1c),(2,.pointer x2)]).run Tryz.prog w=.ok (.agg #[.int .i8 x0,.slice x1 x1n x1c,.pointer x2]) w:=fun _=>by kernel_rfl
theorem zlo (x0t:TypeId) (x0:Value):∀w,(Instr.build 83 #[(0,.iface x0t x0)]).run Tryz.prog w=.ok (.agg #[.iface x0t x0,.int .i8 0,.slice none 0 0,.pointer none]) w:=fun _=>by kernel_rfl
theorem znl (x0:Option Addr) (x3t:TypeId) (x3:Value):∀w,(Instr.build 91 #[(0,.pointer x0),(3,.iface x3t x3)]).run Tryz.prog w=.ok (.agg #[.pointer x0,.slice none 0 0,.slice none 0 0,.iface x3t x3,.slice none 0 0,.slice none 0 0,.slice none 0 0,.int .i8 0,.nilIface,.int .i8 0,.nilIface,.int .i8 0,.slice none 0 0,.pointer none,.nilIface,.int .i8 0,.slice none 0 0,.pointer none,.nilIface,.int .i8 0,.slice none 0 0,.pointer none,.nilIface,.int .i8 0,.slice none 0 0,.pointer none,.nilIface,.int .i8 0,.slice none 0 0,.pointer none,.nilIface,.int .i8 0,.slice none 0 0,.pointer none,.nilIface,.int .i8 0,.slice none 0 0,.pointer none,.nilIface,.int .i8 0,.slice none 0 0,.pointer none,.nilIface,.int .i8 0,.slice none 0 0,.pointer none,.nilIface,.int .i8 0,.slice none 0 0,.pointer none,.pointer none,.int .i64 0,.pointer none,.int .i64 0,.pointer none,.int .i64 0,.pointer none,.int .i64 0,.pointer none,.int .i64 0,.pointer none,.int .i64 0,.pointer none,.int .i64 0,.pointer none,.int .i64 0,.pointer none,.int .i64 0,.pointer none,.int .i64 0]) w:=fun _=>by kernel_rfl
theorem zld (x0:FuncId) (x0a x0b:Array Value) (x1:FuncId) (x1a x1b:Array Value) (x2:FuncId) (x2a x2b:Array Value) (x4:FuncId) (x4a x4b:Array Value) (x6:FuncId) (x6a x6b:Array Value) (x7:FuncId) (x7a x7b:Array Value) (x8:ByteArray):∀w,(Instr.build 120 #[(0,.func (.func x0) x0a x0b),(1,.func (.func x1) x1a x1b),(2,.func (.func x2) x2a x2b),(4,.func (.func x4) x4a x4b),(6,.func (.func x6) x6a x6b),(7,.func (.func x7) x7a x7b),(8,.string x8)]).run Tryz.prog w=.ok (.agg #[.func (.func x0) x0a x0b,.func (.func x1) x1a x1b,.func (.func x2) x2a x2b,.nilFunc,.func (.func x4) x4a x4b,.nilFunc,.func (.func x6) x6a x6b,.func (.func x7) x7a x7b,.string x8]) w:=fun _=>by kernel_rfl
theorem zrd:∀w,(Instr.build 138 #[]).run Tryz.prog w=.ok (.agg #[.bool false,.bool false,.string ByteArray.empty,.string ByteArray.empty,.slice none 0 0]) w:=fun _=>by kernel_rfl
theorem zql (x0:Bool):∀w,(Instr.build 138 #[(0,.bool x0)]).run Tryz.prog w=.ok (.agg #[.bool x0,.bool false,.string ByteArray.empty,.string ByteArray.empty,.slice none 0 0]) w:=fun _=>by kernel_rfl
theorem zty:∀w,(Instr.build 213 #[]).run Tryz.prog w=.ok (.agg #[.int .u64 0,.slice none 0 0,.slice none 0 0]) w:=fun _=>by kernel_rfl
theorem zqm (x0:Int) (x1:Option Addr) (x1n x1c:Nat) (x2:Option Addr) (x2n x2c:Nat):∀w,(Instr.build 213 #[(0,.int .u64 x0),(1,.slice x1 x1n x1c),(2,.slice x2 x2n x2c)]).run Tryz.prog w=.ok (.agg #[.int .u64 x0,.slice x1 x1n x1c,.slice x2 x2n x2c]) w:=fun _=>by kernel_rfl
theorem zns (x0:FuncId) (x0a x0b:Array Value) (x2:FuncId) (x2a x2b:Array Value):∀w,(Instr.build 225 #[(0,.func (.func x0) x0a x0b),(2,.func (.func x2) x2a x2b)]).run Tryz.prog w=.ok (.agg #[.func (.func x0) x0a x0b,.nilFunc,.func (.func x2) x2a x2b,.slice none 0 0,.slice none 0 0,.nilFunc,.slice none 0 0,.slice none 0 0,.slice none 0 0,.bool false]) w:=fun _=>by kernel_rfl
theorem zle (x0:FuncId) (x0a x0b:Array Value) (x1:Option Addr) (x1n x1c:Nat):∀w,(Instr.build 230 #[(0,.func (.func x0) x0a x0b),(1,.slice x1 x1n x1c)]).run Tryz.prog w=.ok (.agg #[.func (.func x0) x0a x0b,.slice x1 x1n x1c]) w:=fun _=>by kernel_rfl
theorem zte:∀w,(Instr.build 250 #[]).run Tryz.prog w=.ok (.agg #[.nilFunc,.slice none 0 0,.int .i64 0]) w:=fun _=>by kernel_rfl
theorem zpv (x0:FuncId) (x0a x0b:Array Value) (x1:Option Addr) (x1n x1c:Nat) (x2:Int):∀w,(Instr.build 250 #[(0,.func (.func x0) x0a x0b),(1,.slice x1 x1n x1c),(2,.int .i64 x2)]).run Tryz.prog w=.ok (.agg #[.func (.func x0) x0a x0b,.slice x1 x1n x1c,.int .i64 x2]) w:=fun _=>by kernel_rfl
theorem zpw (x0:Int) (x1:ByteArray) (x2:ByteArray):∀w,(Instr.build 267 #[(0,.int .u64 x0),(1,.string x1),(2,.string x2)]).run Tryz.prog w=.ok (.agg #[.int .u64 x0,.string x1,.string x2]) w:=fun _=>by kernel_rfl
theorem info_uint8:(Tryz.prog.info? 5).map (fun i=>(i.zero,i.size,i.bytes))=some (some (.int .u8 0),1,1):=by kernel_rfl
theorem ztf:(Tryz.prog.info? 29).map (fun i=>(i.zero,i.size,i.bytes))=some (some (.slice none 0 0),1,24):=by kernel_rfl
theorem zmq:(Tryz.prog.info? 40).map (fun i=>(i.zero,i.size,i.bytes))=some (some (.agg #[.string ByteArray.empty,.string ByteArray.empty,.slice none 0 0]),3,56):=by kernel_rfl
theorem znx:(Tryz.prog.info? 42).map (fun i=>(i.zero,i.size,i.bytes))=some (some (.agg #[.int .u64 0,.string ByteArray.empty,.string ByteArray.empty]),3,40):=by kernel_rfl
theorem zka:(Tryz.prog.info? 55).map (fun i=>(i.zero,i.size,i.bytes))=some (some (.agg #[.string ByteArray.empty,.string ByteArray.empty,.slice none 0 0]),3,56):=by kernel_rfl
theorem zux:(Tryz.prog.info? 57).map (fun i=>(i.zero,i.size,i.bytes))=some (some (.agg #[.int .u8 0,.string ByteArray.empty]),2,24):=by kernel_rfl
theorem zfw:(Tryz.prog.info? 73).map (fun i=>(i.zero,i.size,i.bytes))=some (some (.agg #[.slice none 0 0,.slice none 0 0,.slice none 0 0,.int .i8 0]),4,80):=by kernel_rfl
theorem zlv:(Tryz.prog.info? 77).map (fun i=>(i.zero,i.size,i.bytes))=some (some (.nilIface),1,16):=by kernel_rfl
theorem zjb:(Tryz.prog.info? 138).map (fun i=>(i.zero,i.size,i.bytes))=some (some (.agg #[.bool false,.bool false,.string ByteArray.empty,.string ByteArray.empty,.slice none 0 0]),5,64):=by kernel_rfl
theorem zks:(Tryz.prog.info? 213).map (fun i=>(i.zero,i.size,i.bytes))=some (some (.agg #[.int .u64 0,.slice none 0 0,.slice none 0 0]),3,56):=by kernel_rfl
theorem zny:(Tryz.prog.info? 267).map (fun i=>(i.zero,i.size,i.bytes))=some (some (.agg #[.int .u64 0,.string ByteArray.empty,.string ByteArray.empty]),3,40):=by kernel_rfl
theorem zuk:callOk Tryz.prog 7=true:=by kernel_rfl
theorem zjq:callOk Tryz.prog 8=true:=by kernel_rfl
theorem zul:callOk Tryz.prog 10=true:=by kernel_rfl
theorem ztz:callOk Tryz.prog 12=true:=by kernel_rfl
theorem zua:callOk Tryz.prog 13=true:=by kernel_rfl
theorem zub:callOk Tryz.prog 14=true:=by kernel_rfl
theorem zsl:callOk Tryz.prog 15=true:=by kernel_rfl
theorem ztg:callOk Tryz.prog 16=true:=by kernel_rfl
theorem zre:callOk Tryz.prog 17=true:=by kernel_rfl
theorem zuc:callOk Tryz.prog 18=true:=by kernel_rfl
theorem zpm:callOk Tryz.prog 19=true:=by kernel_rfl
theorem zpn:callOk Tryz.prog 20=true:=by kernel_rfl
theorem zum:callOk Tryz.prog 28=true:=by kernel_rfl
theorem zud:callOk Tryz.prog 29=true:=by kernel_rfl
theorem zth:callOk Tryz.prog 31=true:=by kernel_rfl
theorem zgq:callOk Tryz.prog 33=true:=by kernel_rfl
theorem zti:callOk Tryz.prog 34=true:=by kernel_rfl
theorem zkj:callOk Tryz.prog 39=true:=by kernel_rfl
theorem zkn:callOk Tryz.prog 41=true:=by kernel_rfl
theorem ztj:callOk Tryz.prog 42=true:=by kernel_rfl
theorem znm:callOk Tryz.prog 43=true:=by kernel_rfl
theorem znn:callOk Tryz.prog 44=true:=by kernel_rfl
theorem zno:callOk Tryz.prog 45=true:=by kernel_rfl
theorem ztk:callOk Tryz.prog 46=true:=by kernel_rfl
theorem zqn:callOk Tryz.prog 47=true:=by kernel_rfl
theorem zob:callOk Tryz.prog 48=true:=by kernel_rfl
theorem zkk:callOk Tryz.prog 49=true:=by kernel_rfl
theorem zmr:callOk Tryz.prog 50=true:=by kernel_rfl
theorem zry:callOk Tryz.prog 51=true:=by kernel_rfl
theorem zun:callOk Tryz.prog 52=true:=by kernel_rfl
theorem zuy:callOk Tryz.prog 53=true:=by kernel_rfl
theorem zuz:callOk Tryz.prog 54=true:=by kernel_rfl
theorem zor:callOk Tryz.prog 55=true:=by kernel_rfl
theorem zue:callOk Tryz.prog 57=true:=by kernel_rfl
theorem zsm:callOk Tryz.prog 64=true:=by kernel_rfl
theorem zuo:callOk Tryz.prog 68=true:=by kernel_rfl
theorem zsf:callOk Tryz.prog 70=true:=by kernel_rfl
theorem zdu:callOk Tryz.prog 72=true:=by kernel_rfl
theorem zms:callOk Tryz.prog 80=true:=by kernel_rfl
theorem znp:callOk Tryz.prog 82=true:=by kernel_rfl
theorem ztl:callOk Tryz.prog 84=true:=by kernel_rfl
theorem zuf:callOk Tryz.prog 85=true:=by kernel_rfl
theorem zlp:callOk Tryz.prog 86=true:=by kernel_rfl
theorem zup:callOk Tryz.prog 87=true:=by kernel_rfl
theorem zqo:callOk Tryz.prog 88=true:=by kernel_rfl
theorem ok_impl_taken:callOk Tryz.prog 89=true:=by kernel_rfl
theorem zos:callOk Tryz.prog 90=true:=by kernel_rfl
theorem zji:callOk Tryz.prog 93=true:=by kernel_rfl
theorem zot:callOk Tryz.prog 94=true:=by kernel_rfl
theorem ziw:callOk Tryz.prog 95=true:=by kernel_rfl
theorem zjr:callOk Tryz.prog 96=true:=by kernel_rfl
theorem zva:callOk Tryz.prog 97=true:=by kernel_rfl
theorem zvb:callOk Tryz.prog 98=true:=by kernel_rfl
theorem zkt:callOk Tryz.prog 99=true:=by kernel_rfl
theorem zrf:callOk Tryz.prog 105=true:=by kernel_rfl
theorem zuq:callOk Tryz.prog 112=true:=by kernel_rfl
theorem zey:callOk Tryz.prog 116=true:=by kernel_rfl
theorem zfx:callOk Tryz.prog 117=true:=by kernel_rfl
theorem zcx:callOk Tryz.prog 118=true:=by kernel_rfl
theorem zfg:callOk Tryz.prog 119=true:=by kernel_rfl
theorem zrg:callOk Tryz.prog 120=true:=by kernel_rfl
theorem zrz:callOk Tryz.prog 121=true:=by kernel_rfl
theorem zou:callOk Tryz.prog 122=true:=by kernel_rfl
theorem zlq:callOk Tryz.prog 123=true:=by kernel_rfl
theorem zur:callOk Tryz.prog 134=true:=by kernel_rfl
theorem zhs:callOk Tryz.prog 135=true:=by kernel_rfl
theorem zci:callOk Tryz.prog 136=true:=by kernel_rfl
theorem zhm:callOk Tryz.prog 137=true:=by kernel_rfl
theorem zep:callOk Tryz.prog 138=true:=by kernel_rfl
theorem zht:callOk Tryz.prog 139=true:=by kernel_rfl
theorem zen:callOk Tryz.prog 140=true:=by kernel_rfl
theorem zft:callOk Tryz.prog 141=true:=by kernel_rfl
theorem zhn:callOk Tryz.prog 142=true:=by kernel_rfl
theorem zsn:callOk Tryz.prog 144=true:=by kernel_rfl
theorem zqp:callOk Tryz.prog 145=true:=by kernel_rfl
theorem zug:callOk Tryz.prog 146=true:=by kernel_rfl
theorem zqq:callOk Tryz.prog 147=true:=by kernel_rfl
theorem zsg:callOk Tryz.prog 148=true:=by kernel_rfl
theorem zrh:callOk Tryz.prog 149=true:=by kernel_rfl
theorem zmt:callOk Tryz.prog 150=true:=by kernel_rfl
theorem zpx:callOk Tryz.prog 151=true:=by kernel_rfl
theorem ztm:callOk Tryz.prog 152=true:=by kernel_rfl
theorem zqr:callOk Tryz.prog 170=true:=by kernel_rfl
theorem zlf:callOk Tryz.prog 171=true:=by kernel_rfl
theorem zjj:callOk Tryz.prog 172=true:=by kernel_rfl
theorem zid:callOk Tryz.prog 173=true:=by kernel_rfl
theorem zie:callOk Tryz.prog 174=true:=by kernel_rfl
theorem zov:callOk Tryz.prog 175=true:=by kernel_rfl
theorem zpy:callOk Tryz.prog 176=true:=by kernel_rfl
theorem zqs:callOk Tryz.prog 177=true:=by kernel_rfl
theorem zik:callOk Tryz.prog 178=true:=by kernel_rfl
theorem zqt:callOk Tryz.prog 179=true:=by kernel_rfl
theorem zgj:callOk Tryz.prog 194=true:=by kernel_rfl
theorem zhu:callOk Tryz.prog 195=true:=by kernel_rfl
theorem zlw:callOk Tryz.prog 196=true:=by kernel_rfl
theorem zmu:callOk Tryz.prog 197=true:=by kernel_rfl
theorem zhv:callOk Tryz.prog 204=true:=by kernel_rfl
theorem zmv:callOk Tryz.prog 224=true:=by kernel_rfl
theorem znq:callOk Tryz.prog 225=true:=by kernel_rfl
theorem znr:callOk Tryz.prog 226=true:=by kernel_rfl
theorem zlx:callOk Tryz.prog 227=true:=by kernel_rfl
theorem zly:callOk Tryz.prog 228=true:=by kernel_rfl
theorem zfy:callOk Tryz.prog 230=true:=by kernel_rfl
theorem zcy:callOk Tryz.prog 231=true:=by kernel_rfl
theorem zfh:callOk Tryz.prog 232=true:=by kernel_rfl
theorem zho:callOk Tryz.prog 233=true:=by kernel_rfl
theorem zhp:callOk Tryz.prog 234=true:=by kernel_rfl
theorem zha:callOk Tryz.prog 236=true:=by kernel_rfl
theorem zqu:callOk Tryz.prog 237=true:=by kernel_rfl
theorem zri:callOk Tryz.prog 238=true:=by kernel_rfl
theorem zrj:callOk Tryz.prog 239=true:=by kernel_rfl
theorem zrk:callOk Tryz.prog 240=true:=by kernel_rfl
theorem zpz:callOk Tryz.prog 241=true:=by kernel_rfl
theorem zqa:callOk Tryz.prog 242=true:=by kernel_rfl
theorem zjs:callOk Tryz.prog 280=true:=by kernel_rfl
theorem zif:callOk Tryz.prog 283=true:=by kernel_rfl
theorem zlg:callOk Tryz.prog 284=true:=by kernel_rfl
theorem zlh:callOk Tryz.prog 285=true:=by kernel_rfl
theorem ziv:callOk Tryz.prog 288=true:=by kernel_rfl
theorem zlz:callOk Tryz.prog 289=true:=by kernel_rfl
theorem zma:callOk Tryz.prog 290=true:=by kernel_rfl
theorem zez:callOk Tryz.prog 291=true:=by kernel_rfl
theorem zhq:callOk Tryz.prog 292=true:=by kernel_rfl
theorem zhr:callOk Tryz.prog 293=true:=by kernel_rfl
def mostB (L:List SpanD) (n:Int):Bool:=L.all (fun s=>decide (s.ks.length≤40))&&decide ((L.length:Int)≤n)
theorem zrl {α:Type} {p:α→Bool} {L:List α} {k:Nat} {x:α} (hx:L[k]? =some x):(L.take (k+1)).all p=((L.take k).all p&&p x):=by
 have hlt:=(List.getElem?_eq_some_iff.1 hx).1
 rw [List.take_succ_eq_append_getElem hlt]
 have:=(List.getElem?_eq_some_iff.1 hx).2
 simp [this]
theorem all_hit {α:Type} {p:α→Bool} {L:List α} {k:Nat} {x:α} (hx:L[k]? =some x) (h:p x=false):L.all p=false:=
 List.all_eq_false.2 ⟨x,List.mem_of_getElem? hx,by simp [h]⟩
theorem ex_get {α:Type} {L:List α} {k:Nat} (h:k<L.length):∃x,L[k]? =some x:=⟨L[k],List.getElem?_eq_getElem h⟩
abbrev MX:Nat:=2147483647
def fit7 (k:KeyD):Bool:=decide (k.suf.size≤MX)&&decide (k.val.size≤MX)
def fit6 (l:List KeyD):Bool:=decide (l.length≤MX)&&l.all fit7
def fit5 (s:SpanD):Bool:=decide (s.s.size≤MX)&&decide (s.e.size≤MX)&&fit6 s.ks
def fit4 (l:List SpanD):Bool:=decide (l.length≤MX)&&l.all fit5
theorem zku {n:Nat} (h:(2147483647:Int)< (n:Int)):decide (n≤MX)=false:=by simp [MX];omega
theorem ofNat_le {n:Nat} (h:¬(2147483647:Int)< (n:Int)):decide (n≤MX)=true:=by simp [MX];omega
theorem c_spanMost (χ:Chi) (h:Heap) (A:Nat→Prop) (v:Value) (L:List SpanD) (n:Int) (hL:RSpans A h v L):
 Cl Tryz.prog χ 55 #[v,.int .i64 n] h (fun r h'=>r=.bool (mostB L n)∧Keep [] h h'):=by
 obtain ⟨hlen,a,c,rfl,hx⟩:=hL.form
 refine zak Tryz.func55 rfl rfl rfl ?_
 have K:Keep [] h h:=Keep.refl _ _
 refine rG<|rA rfl rfl<|rN<|tr_seq<|rG<|rM rfl rfl<|rs_v (v_len zca rfl) rfl ?_
 refine rM rfl rfl<|rN<|zaj ?_
 refine zbo (fun m E h'=>∃k,k≤L.length∧m=L.length - k∧E= [(0,.slice a L.length c),(1,.int .i64 n),(7,.slice a L.length c),(8,.int .i64 (L.length:Int)),(9,.int .i64 (k:Int))]∧Keep [] h h'∧(L.take k).all (fun s=>decide (s.ks.length≤40))=true) L.length [(0,_),(1,_),(7,_),(8,_),(9,_)] ⟨rfl,rfl,rfl,rfl,rfl,trivial⟩ ⟨0,Nat.zero_le _,rfl,rfl,K,rfl⟩ ?_
 rintro m E hL1 ⟨k,hk,rfl,rfl,K,hall⟩
 refine rG<|rs_v (v_lt rfl rfl) rfl<|rN<|tr_seq ?_
 refine tr_ifn rfl (fun hif=>?_) (fun hif=>?_)
 ·
  simp only [dT,dF] at hif
  have hkk:k=L.length:=by omega
  subst hkk
  refine zbm<|zay<|zbd<|zbb<|q_thn<|rG<|rM rfl rfl<|rs_v (v_len zca rfl) rfl ?_
  refine rM rfl rfl<|rs_v (v_le rfl rfl) rfl ?_
  refine rA rfl rfl<|rN<|tr_ret<|q_ret (zao rfl rfl) ?_
  refine ⟨?_,K⟩
  rw [List.take_length] at hall
  simp only [mostB,hall,Bool.true_and]
 simp only [dT,dF] at hif
 rcases hx with rfl|⟨b,o,rfl,hAb,hR⟩
 · simp at hif;omega
 obtain ⟨x,hxk⟩:=ex_get (L:=L) (k:=k) (by omega)
 obtain ⟨kv,hcells,hkeys⟩:=hR k x hxk
 obtain ⟨hkl,ka,kc,rfl,hkx⟩:=hkeys.form
 have hcells:=K.cells (by simp) hcells
 refine zah<|q_thn<|tr_seq<|zaj<|rG<|rs_v (zcb zca zdd rfl rfl (by omega)) rfl ?_
 refine rs_v (zbe (vs:= [_,_,_]) zdn rfl (by exact hcells)) rfl ?_
 refine rs_w (w_new zfb) rfl ?_
 rintro _ h2 ⟨rfl,B2,K2,Z2⟩
 have S2:=K.1;have K:=K.new0 K2
 refine rs_w0 (w_put zdd rfl rfl rfl rfl B2 rfl) ?_
 rintro _ h3 ⟨B3,K3⟩
 have B2:=B3;have K:=K.new1 K3 (by first|(right;omega)|(left;simp;done));have Z3:=K3.1
 refine rN<|rG<|rF zew rfl rfl<|rs_v (v_load zea rfl (by exact B2.cell _ rfl)) rfl ?_
 refine rs_v (v_len zbn rfl) rfl ?_
 refine rs_v (v_gt rfl rfl) rfl ?_
 refine rN ?_
 refine tr_if rfl (fun hif=>?_) (fun hif=>?_)
 ·
  simp only [dT,dF] at hif
  refine rG<|rA rfl rfl<|rN<|tr_ret<|zbr<|zaz ?_
  refine zfu ?_
  refine zbr<|zaz<|q_ret (zao rfl rfl) ?_
  refine ⟨?_,K⟩
  simp only [mostB,all_hit (p:=fun s:SpanD=>decide (s.ks.length≤40)) hxk (by simp;omega),Bool.false_and]
 simp only [dT,dF] at hif
 refine zah<|zbc<|q_thn<|tr_reg<|rs_v (v_add rfl rfl (by omega) (by omega)) rfl ?_
 refine rM rfl rfl<|rs_nil ?_
 refine q_lp (L.length - (k+1)) [(0,_),(1,_),(7,_),(8,_),(9,_)] (by omega) ⟨rfl,rfl,rfl,rfl,rfl,trivial⟩ ⟨k+1,by omega,rfl,rfl,K,?_⟩
 rw [zrl hxk,hall]
 simp
 omega
theorem c_zzFits7 (χ:Chi) (h:Heap) (k:KeyD):
 Cl Tryz.prog χ 134 #[.agg k.cells.toArray] h (fun r h'=>r=.bool (fit7 k)∧Keep [] h h'):=by
 refine zak Tryz.func134 rfl rfl rfl ?_
 have K:Keep [] h h:=Keep.refl _ _
 refine rG<|rs_w (zdx rfl) rfl ?_
 rintro _ h1 ⟨rfl,B1,K1,Z1⟩
 have S1:=K.1;have K:=K.new0 K1
 refine rA rfl rfl<|rN<|tr_seq<|rG<|rF zhc rfl rfl<|rs_v (v_load zcn rfl (by exact B1.cell _ rfl)) rfl ?_
 refine rs_v (zqv zeg rfl) rfl ?_
 refine rs_v (v_gt rfl rfl) rfl ?_
 refine rN ?_
 refine tr_if rfl (fun hif=>?_) (fun hif=>?_)
 ·
  simp only [dT,dF] at hif
  refine rG<|rA rfl rfl<|rN<|tr_ret<|zaz<|q_ret (zao rfl rfl) ?_
  exact ⟨by simp only [fit7,zku hif,Bool.false_and],K⟩
 simp only [dT,dF] at hif
 have f1:=hif;clear hif
 refine zah<|q_thn<|tr_seq<|rG<|rF zkh rfl rfl<|rs_v (v_load zcn rfl (by exact B1.cell _ rfl)) rfl ?_
 refine rs_v (zqv zeg rfl) rfl ?_
 refine rs_v (v_gt rfl rfl) rfl ?_
 refine rN ?_
 refine tr_if rfl (fun hif=>?_) (fun hif=>?_)
 ·
  simp only [dT,dF] at hif
  refine rG<|rA rfl rfl<|rN<|tr_ret<|zaz<|q_ret (zao rfl rfl) ?_
  exact ⟨by simp only [fit7,zku hif,Bool.and_false],K⟩
 simp only [dT,dF] at hif
 refine zah<|q_thn<|rG<|rA rfl rfl<|rN<|tr_ret<|q_ret (zao rfl rfl) ?_
 exact ⟨by simp only [fit7,ofNat_le f1,ofNat_le hif];rfl,K⟩
theorem c_zzFits6 (χ:Chi) (h:Heap) (A:Nat→Prop) (v:Value) (L:List KeyD) (hL:RKeys A h v L):
 Cl Tryz.prog χ 112 #[v] h (fun r h'=>r=.bool (fit6 L)∧Keep [] h h'):=by
 obtain ⟨hlen,a,c,rfl,hx⟩:=hL.form
 refine zak Tryz.func112 rfl rfl rfl ?_
 have K:Keep [] h h:=Keep.refl _ _
 refine rG<|rA rfl rfl<|rN<|tr_seq<|rG<|rM rfl rfl<|rs_v (v_len zbn rfl) rfl ?_
 refine rs_v (v_gt rfl rfl) rfl ?_
 refine rN ?_
 refine tr_if rfl (fun hif=>?_) (fun hif=>?_)
 ·
  simp only [dT,dF] at hif
  refine rG<|rA rfl rfl<|rN<|tr_ret<|zaz<|q_ret (zao rfl rfl) ?_
  refine ⟨?_,K⟩
  simp only [fit6,zku hif,Bool.false_and]
 simp only [dT,dF] at hif
 have hmx:=ofNat_le hif
 clear hif
 refine zah<|q_thn<|tr_seq<|rG<|rM rfl rfl<|rs_v (v_len zbn rfl) rfl ?_
 refine rM rfl rfl<|rN<|zaj ?_
 refine zbo (fun m E h'=>∃k,k≤L.length∧m=L.length - k∧E= [(0,.slice a L.length c),(8,.slice a L.length c),(9,.int .i64 (L.length:Int)),(10,.int .i64 (k:Int))]∧Keep [] h h'∧(L.take k).all fit7=true) L.length [(0,_),(8,_),(9,_),(10,_)] ⟨rfl,rfl,rfl,rfl,trivial⟩ ⟨0,Nat.zero_le _,rfl,rfl,K,rfl⟩ ?_
 rintro m E hL1 ⟨k,hk,rfl,rfl,K,hall⟩
 refine rG<|rs_v (v_lt rfl rfl) rfl<|rN<|tr_seq ?_
 refine tr_ifn rfl (fun hif=>?_) (fun hif=>?_)
 ·
  simp only [dT,dF] at hif
  have hkk:k=L.length:=by omega
  subst hkk
  refine zbm<|zay<|zbd<|zbb<|q_thn<|rG<|rA rfl rfl<|rN<|tr_ret<|q_ret (zao rfl rfl) ?_
  refine ⟨?_,K⟩
  rw [List.take_length] at hall
  simp only [fit6,hall,hmx,Bool.true_and]
 simp only [dT,dF] at hif
 rcases hx with rfl|⟨b,o,rfl,hAb,hR⟩
 · simp at hif;omega
 obtain ⟨x,hxk⟩:=ex_get (L:=L) (k:=k) (by omega)
 have hcells:=K.cells (by simp) (hR k x hxk)
 refine zah<|q_thn<|tr_seq<|zaj<|rG<|rs_v (zcb zbn zck rfl rfl (by omega)) rfl ?_
 refine rs_v (zbe (vs:= [_,_,_]) zdo rfl (by exact hcells)) rfl ?_
 refine rs_w (w_new zgo) rfl ?_
 rintro _ h2 ⟨rfl,B2,K2,Z2⟩
 have S2:=K.1;have K:=K.new0 K2
 refine rs_w0 (w_put zck rfl rfl rfl rfl B2 rfl) ?_
 rintro _ h3 ⟨B3,K3⟩
 have B2:=B3;have K:=K.new1 K3 (by first|(right;omega)|(left;simp;done));have Z3:=K3.1
 refine rN<|rG<|rs_v (zbe (vs:= [_,_,_]) zdo rfl (by exact B2.sub _ 3 rfl)) rfl ?_
 refine rs_w (w_call (vs:= [_]) zur rfl ⟨rfl,trivial⟩ (c_zzFits7 χ _ x)) rfl ?_
 rintro _ h4 ⟨rfl,K4⟩
 have B2:=K4.blk (by simp) B2
 have K:=K.new0 K4;have Z4:=K4.1
 refine rs_v (v_not rfl) rfl<|rN ?_
 refine tr_if rfl (fun hif=>?_) (fun hif=>?_)
 ·
  simp only [Bool.not_eq_true'] at hif
  refine rG<|rA rfl rfl<|rN<|tr_ret<|zbr<|zaz ?_
  refine zfu ?_
  refine zbr<|zaz<|q_ret (zao rfl rfl) ?_
  refine ⟨?_,K⟩
  simp only [fit6,all_hit hxk hif,Bool.and_false]
 simp only [Bool.not_eq_false'] at hif
 refine zah<|zbc<|q_thn<|tr_reg<|rs_v (v_add rfl rfl (by omega) (by omega)) rfl ?_
 refine rM rfl rfl<|rs_nil ?_
 refine q_lp (L.length - (k+1)) [(0,_),(8,_),(9,_),(10,_)] (by omega) ⟨rfl,rfl,rfl,rfl,trivial⟩ ⟨k+1,by omega,rfl,rfl,K,?_⟩
 rw [zrl hxk,hall,hif]
 rfl
theorem c_zzFits5 (χ:Chi) (h:Heap) (A:Nat→Prop) (kv:Value) (s:SpanD) (hA:∀b,A b→b<h.size) (hk:RKeys A h kv s.ks):
 Cl Tryz.prog χ 68 #[.agg #[.string s.s,.string s.e,kv]] h (fun r h'=>r=.bool (fit5 s)∧Keep [] h h'):=by
 refine zak Tryz.func68 rfl rfl rfl ?_
 have K:Keep [] h h:=Keep.refl _ _
 refine rG<|rs_w (zdx rfl) rfl ?_
 rintro _ h1 ⟨rfl,B1,K1,Z1⟩
 have S1:=K.1;have K:=K.new0 K1
 refine rA rfl rfl<|rN<|tr_seq<|rG<|rF zge rfl rfl<|rs_v (v_load zcn rfl (by exact B1.cell _ rfl)) rfl ?_
 refine rs_v (zqv zeg rfl) rfl ?_
 refine rs_v (v_gt rfl rfl) rfl ?_
 refine rN ?_
 refine tr_if rfl (fun hif=>?_) (fun hif=>?_)
 ·
  simp only [dT,dF] at hif
  refine rG<|rA rfl rfl<|rN<|tr_ret<|zaz<|q_ret (zao rfl rfl) ?_
  exact ⟨by simp only [fit5,zku hif,Bool.false_and],K⟩
 simp only [dT,dF] at hif
 have f1:=ofNat_le hif;clear hif
 refine zah<|q_thn<|tr_seq<|rG<|rF zgf rfl rfl<|rs_v (v_load zcn rfl (by exact B1.cell _ rfl)) rfl ?_
 refine rs_v (zqv zeg rfl) rfl ?_
 refine rs_v (v_gt rfl rfl) rfl ?_
 refine rN ?_
 refine tr_if rfl (fun hif=>?_) (fun hif=>?_)
 ·
  simp only [dT,dF] at hif
  refine rG<|rA rfl rfl<|rN<|tr_ret<|zaz<|q_ret (zao rfl rfl) ?_
  exact ⟨by simp only [fit5,zku hif,Bool.and_false,Bool.false_and],K⟩
 simp only [dT,dF] at hif
 have f2:=ofNat_le hif;clear hif
 refine zah<|q_thn<|tr_seq<|rG<|rF zew rfl rfl<|rs_v (v_load zea rfl (by exact B1.cell _ rfl)) rfl ?_
 refine rs_w (w_call (vs:= [_]) zuq rfl ⟨rfl,trivial⟩ (c_zzFits6 χ _ A kv s.ks (hk.stab (K.stab fun b hb=>⟨hA b hb,by simp⟩)))) rfl ?_
 rintro _ h2 ⟨rfl,K2⟩
 have B1:=K2.blk (by simp) B1
 have K:=K.new0 K2;have Z2:=K2.1
 refine rs_v (v_not rfl) rfl<|rN ?_
 refine tr_if rfl (fun hif=>?_) (fun hif=>?_)
 ·
  simp only [Bool.not_eq_true'] at hif
  refine rG<|rA rfl rfl<|rN<|tr_ret<|zaz<|q_ret (zao rfl rfl) ?_
  exact ⟨by simp only [fit5,hif,Bool.and_false],K⟩
 simp only [Bool.not_eq_false'] at hif
 refine zah<|q_thn<|rG<|rA rfl rfl<|rN<|tr_ret<|q_ret (zao rfl rfl) ?_
 exact ⟨by simp only [fit5,f1,f2,hif];rfl,K⟩
theorem c_zzFits4 (χ:Chi) (h:Heap) (A:Nat→Prop) (hA:∀b,A b→b<h.size) (v:Value) (L:List SpanD) (hL:RSpans A h v L):
 Cl Tryz.prog χ 28 #[v] h (fun r h'=>r=.bool (fit4 L)∧Keep [] h h'):=by
 obtain ⟨hlen,a,c,rfl,hx⟩:=hL.form
 refine zak Tryz.func28 rfl rfl rfl ?_
 have K:Keep [] h h:=Keep.refl _ _
 refine rG<|rA rfl rfl<|rN<|tr_seq<|rG<|rM rfl rfl<|rs_v (v_len zca rfl) rfl ?_
 refine rs_v (v_gt rfl rfl) rfl ?_
 refine rN ?_
 refine tr_if rfl (fun hif=>?_) (fun hif=>?_)
 ·
  simp only [dT,dF] at hif
  refine rG<|rA rfl rfl<|rN<|tr_ret<|zaz<|q_ret (zao rfl rfl) ?_
  refine ⟨?_,K⟩
  simp only [fit4,zku hif,Bool.false_and]
 simp only [dT,dF] at hif
 have hmx:=ofNat_le hif
 clear hif
 refine zah<|q_thn<|tr_seq<|rG<|rM rfl rfl<|rs_v (v_len zca rfl) rfl ?_
 refine rM rfl rfl<|rN<|zaj ?_
 refine zbo (fun m E h'=>∃k,k≤L.length∧m=L.length - k∧E= [(0,.slice a L.length c),(8,.slice a L.length c),(9,.int .i64 (L.length:Int)),(10,.int .i64 (k:Int))]∧Keep [] h h'∧(L.take k).all fit5=true) L.length [(0,_),(8,_),(9,_),(10,_)] ⟨rfl,rfl,rfl,rfl,trivial⟩ ⟨0,Nat.zero_le _,rfl,rfl,K,rfl⟩ ?_
 rintro m E hL1 ⟨k,hk,rfl,rfl,K,hall⟩
 refine rG<|rs_v (v_lt rfl rfl) rfl<|rN<|tr_seq ?_
 refine tr_ifn rfl (fun hif=>?_) (fun hif=>?_)
 ·
  simp only [dT,dF] at hif
  have hkk:k=L.length:=by omega
  subst hkk
  refine zbm<|zay<|zbd<|zbb<|q_thn<|rG<|rA rfl rfl<|rN<|tr_ret<|q_ret (zao rfl rfl) ?_
  refine ⟨?_,K⟩
  rw [List.take_length] at hall
  simp only [fit4,hall,hmx,Bool.true_and]
 simp only [dT,dF] at hif
 rcases hx with rfl|⟨b,o,rfl,hAb,hR⟩
 · simp at hif;omega
 obtain ⟨x,hxk⟩:=ex_get (L:=L) (k:=k) (by omega)
 obtain ⟨kv,hcells,hkeys⟩:=hR k x hxk
 obtain ⟨ka,kc,hkv⟩:=hkeys.form2
 subst hkv
 have hcells:=K.cells (by simp) hcells
 refine zah<|q_thn<|tr_seq<|zaj<|rG<|rs_v (zcb zca zdd rfl rfl (by omega)) rfl ?_
 refine rs_v (zbe (vs:= [_,_,_]) zdn rfl (by exact hcells)) rfl ?_
 refine rs_w (w_new zfb) rfl ?_
 rintro _ h2 ⟨rfl,B2,K2,Z2⟩
 have S2:=K.1;have K:=K.new0 K2
 refine rs_w0 (w_put zdd rfl rfl rfl rfl B2 rfl) ?_
 rintro _ h3 ⟨B3,K3⟩
 have B2:=B3;have K:=K.new1 K3 (by first|(right;omega)|(left;simp;done));have Z3:=K3.1
 refine rN<|rG<|rs_v (zbe (vs:= [_,_,_]) zdn rfl (by exact B2.sub _ 3 rfl)) rfl ?_
 refine rs_w (w_call (vs:= [_]) zuo rfl ⟨rfl,trivial⟩ (c_zzFits5 χ _ A _ x (fun b hb=>by have:=hA b hb;have:=K.1;omega) (hkeys.stab (K.stab fun b hb=>⟨hA b hb,by simp⟩)))) rfl ?_
 rintro _ h4 ⟨rfl,K4⟩
 have B2:=K4.blk (by simp) B2
 have K:=K.new0 K4;have Z4:=K4.1
 refine rs_v (v_not rfl) rfl<|rN ?_
 refine tr_if rfl (fun hif=>?_) (fun hif=>?_)
 ·
  simp only [Bool.not_eq_true'] at hif
  refine rG<|rA rfl rfl<|rN<|tr_ret<|zbr<|zaz ?_
  refine zfu ?_
  refine zbr<|zaz<|q_ret (zao rfl rfl) ?_
  refine ⟨?_,K⟩
  simp only [fit4,all_hit hxk hif,Bool.and_false]
 simp only [Bool.not_eq_false'] at hif
 refine zah<|zbc<|q_thn<|tr_reg<|rs_v (v_add rfl rfl (by omega) (by omega)) rfl ?_
 refine rM rfl rfl<|rs_nil ?_
 refine q_lp (L.length - (k+1)) [(0,_),(8,_),(9,_),(10,_)] (by omega) ⟨rfl,rfl,rfl,rfl,trivial⟩ ⟨k+1,by omega,rfl,rfl,K,?_⟩
 rw [zrl hxk,hall,hif]
 rfl
def chainB {α:Type} (r:α→α→Bool):List α→Bool
 |a::b::l=>r a b&&chainB r (b::l)
 |_=>true
theorem zkb {α:Type} (r:α→α→Bool):∀l:List α,chainB r l=true↔∀(i:Nat) a b,l[i]? =some a→l[i+1]? =some b→r a b=true
 | []=>by simp [chainB]
 | [a]=>by simp [chainB]
 |a::b::l=>by
  simp only [chainB,Bool.and_eq_true,zkb r (b::l)]
  constructor
  · rintro ⟨h1,h2⟩ i x y hx hy
    cases i with
    |zero=>simp at hx hy;subst hx;subst hy;exact h1
    |succ i=>exact h2 i x y (by simpa using hx) (by simpa using hy)
  · intro h
    exact ⟨h 0 a b rfl rfl,fun i x y hx hy=>h (i+1) x y (by simpa using hx) (by simpa using hy)⟩
theorem chainB_hit {α:Type} {r:α→α→Bool} {l:List α} {i:Nat} {a b:α} (ha:l[i]? =some a) (hb:l[i+1]? =some b) (h:r a b=false):chainB r l=false:=by
 cases hc:chainB r l with
 |false=>rfl
 |true=>rw [(zkb r l).1 hc i a b ha hb] at h;cases h
def descB (ks:List KeyD):Bool:=chainB (fun a b:KeyD=>decide (b.tr≤a.tr)) ks
def fullB (s:SpanD):Bool:=slt s.s s.e&&(decide ((0:Int)< (s.ks.length:Int))&&descB s.ks)
def wellB (L:List SpanD):Bool:=L.all fullB&&chainB (fun a b:SpanD=>sle a.e b.s) L
theorem zow (χ:Chi) (h:Heap) (A:Nat→Prop) (v:Value) (ks:List KeyD) (hk:RKeys A h v ks):
 Cl Tryz.prog χ 41 #[v] h (fun r h'=>r=.bool (descB ks)∧h'=h):=by
 obtain ⟨hlen,a,c,rfl,hx⟩:=hk.form
 refine zak Tryz.func41 rfl rfl rfl ?_
 have K:Keep [] h h:=Keep.refl _ _
 refine rG<|rA rfl rfl<|rN<|tr_seq<|rG<|rA rfl rfl<|rN<|zaj ?_
 refine zbo (fun m E h'=>∃k,m=ks.length - k∧E= [(0,.slice a ks.length c),(3,.int .i64 ((k+1:Nat):Int))]∧h'=h∧(k=0∨k+1≤ks.length)∧∀(i:Nat) x y,i<k→ks[i]? =some x→ks[i+1]? =some y→decide (y.tr≤x.tr)=true) ks.length [(0,_),(3,_)] ⟨rfl,rfl,trivial⟩ ⟨0,rfl,rfl,rfl,.inl rfl,fun i _ _ hi=>by omega⟩ ?_
 rintro m E hL1 ⟨k,rfl,rfl,rfl,hk1,hall⟩
 refine tr_seq<|rG<|rM rfl rfl<|rM rfl rfl<|rs_v (v_len zbn rfl) rfl ?_
 refine rs_v (v_lt rfl rfl) rfl<|rN ?_
 refine tr_ifn rfl (fun hif=>?_) (fun hif=>?_)
 ·
  simp only [dT,dF] at hif
  refine zbm<|zay<|zbd<|zbb<|q_thn<|rG<|rA rfl rfl<|rN<|tr_ret<|q_ret (zao rfl rfl) ?_
  refine ⟨?_,rfl⟩
  have:descB ks=true:=(zkb _ ks).2 fun i x y hx hy=>by
   have hlt:=(List.getElem?_eq_some_iff.1 hy).1
   exact hall i x y (by omega) hx hy
  rw [this]
 simp only [dT,dF] at hif
 rcases hx with rfl|⟨b,o,rfl,hAb,hR⟩
 · simp at hif;omega
 obtain ⟨x,hxk⟩:=ex_get (L:=ks) (k:=k) (by omega)
 obtain ⟨y,hyk⟩:=ex_get (L:=ks) (k:=k+1) (by omega)
 refine zah<|q_thn<|tr_seq<|zaj<|tr_seq ?_
 refine zdb (by kernel_rfl) (by kernel_rfl) ?_
 refine rq_v (v_move rfl)<|rq_v (v_move rfl)<|rq_v (v_sub rfl rfl (by omega) (by omega)) ?_
 refine rq_v (zam (i:=k) zbn zck rfl rfl (by omega) (by omega)) ?_
 refine rq_v (zac zgn rfl)<|rq_v (v_load zfj rfl (by exact (hR k x hxk).at 0 rfl)) ?_
 refine rq_v (v_move rfl)<|rq_v (v_move rfl)<|rq_v (zcb zbn zck rfl rfl (by omega)) ?_
 refine rq_v (zac zgn rfl)<|rq_v (v_load zfj rfl (by exact (hR (k+1) y hyk).at 0 rfl)) ?_
 refine rq_v (v_lt rfl rfl) ?_
 refine rm_end ?_;simp only [endM,hypF,ofE,argE]
 refine q_thn ?_
 refine tr_if rfl (fun hif=>?_) (fun hif=>?_)
 ·
  simp only [dT,dF] at hif
  refine rG<|rA rfl rfl<|rN<|tr_ret<|zbr<|zaz ?_
  refine zfu ?_
  refine zbr<|zaz<|q_ret (zao rfl rfl) ?_
  exact ⟨by rw [show descB ks=false from chainB_hit hxk hyk (by simpa using hif)],rfl⟩
 simp only [dT,dF] at hif
 have hno:=hif
 refine zah<|zbc<|q_thn<|tr_reg<|rM rfl rfl<|rs_v (v_add rfl rfl (by omega) (by omega)) rfl ?_
 refine rA rfl rfl<|rs_nil ?_
 refine q_lp (ks.length - (k+1)) [(0,_),(3,_)] (by omega) ⟨rfl,rfl,trivial⟩ ⟨k+1,rfl,rfl,rfl,.inr (by omega),fun i x' y' hi hx' hy'=>?_⟩
 rcases Nat.lt_or_ge i k with hlt|hge
 · exact hall i x' y' hlt hx' hy'
 · have:i=k:=by omega
   subst this
   rw [hxk] at hx';rw [hyk] at hy';cases hx';cases hy'
   simpa using hno
theorem c_SpanFull_a (χ:Chi) (h:Heap) (A:Nat→Prop) (kv:Value) (s:SpanD) (hA:∀b,A b→b<h.size) (hk:RKeys A h kv s.ks) (hs:slt s.s s.e=false):
 Cl Tryz.prog χ 99 #[.agg #[.string s.s,.string s.e,kv]] h (fun r h'=>r=.bool (fullB s)∧Keep [] h h'):=by
 obtain ⟨ka,kc,rfl⟩:=hk.form2
 refine zak Tryz.func99 rfl rfl rfl ?_
 have K:Keep [] h h:=Keep.refl _ _
 refine rG<|rs_w (zdx rfl) rfl ?_
 rintro _ h1 ⟨rfl,B1,K1,Z1⟩
 have S1:=K.1;have K:=K.new0 K1
 refine rA rfl rfl<|rN<|rG<|rF zge rfl rfl<|rs_v (v_load zcn rfl (by exact B1.cell _ rfl)) rfl ?_
 refine rF zgf rfl rfl<|rs_v (v_load zcn rfl (by exact B1.cell _ rfl)) rfl ?_
 refine rs_v (v_slt rfl rfl) rfl ?_
 refine rM rfl rfl ?_
 refine rs_gs rfl (lkb hs) rfl rfl ?_
 refine rs_gs rfl (lkb hs) rfl rfl ?_
 refine rs_gs rfl (lkb hs) rfl rfl ?_
 refine rs_gs rfl (lkb hs) rfl rfl ?_
 refine rs_v (zbf (lkb hs) rfl) rfl ?_
 refine rM rfl rfl<|rs_gs rfl rfl rfl rfl<|rs_gs rfl rfl rfl rfl<|rs_gs rfl rfl rfl rfl<|rs_v (zbf rfl rfl) rfl ?_
 refine rA rfl rfl<|rN<|tr_ret<|q_ret (zao rfl rfl) ?_
 exact ⟨by simp only [fullB,hs,Bool.false_and],K⟩
theorem c_SpanFull_b (χ:Chi) (h:Heap) (A:Nat→Prop) (kv:Value) (s:SpanD) (hA:∀b,A b→b<h.size) (hk:RKeys A h kv s.ks) (hs:slt s.s s.e=true) (hz:decide ((0:Int)< (s.ks.length:Int))=false):
 Cl Tryz.prog χ 99 #[.agg #[.string s.s,.string s.e,kv]] h (fun r h'=>r=.bool (fullB s)∧Keep [] h h'):=by
 obtain ⟨ka,kc,rfl⟩:=hk.form2
 refine zak Tryz.func99 rfl rfl rfl ?_
 have K:Keep [] h h:=Keep.refl _ _
 refine rG<|rs_w (zdx rfl) rfl ?_
 rintro _ h1 ⟨rfl,B1,K1,Z1⟩
 have S1:=K.1;have K:=K.new0 K1
 refine rA rfl rfl<|rN<|rG<|rF zge rfl rfl<|rs_v (v_load zcn rfl (by exact B1.cell _ rfl)) rfl ?_
 refine rF zgf rfl rfl<|rs_v (v_load zcn rfl (by exact B1.cell _ rfl)) rfl ?_
 refine rs_v (v_slt rfl rfl) rfl ?_
 refine rM rfl rfl<|rs_gv rfl (lkb hs) (zac zew rfl) rfl ?_
 refine rs_gv rfl (lkb hs) (v_load zea rfl (by exact B1.cell _ rfl)) rfl ?_
 refine rs_gv rfl (lkb hs) (v_len zbn rfl) rfl ?_
 refine rs_gv rfl (lkb hs) (v_gt rfl rfl) rfl ?_
 refine rs_v (zbq (lkb hs) rfl) rfl ?_
 refine rM rfl rfl ?_
 refine rs_gs rfl (lkb hz) rfl rfl ?_
 refine rs_gs rfl (lkb hz) rfl rfl ?_
 refine rs_gs rfl (lkb hz) rfl rfl ?_
 refine rs_v (zbf (lkb hz) rfl) rfl ?_
 refine rA rfl rfl<|rN<|tr_ret<|q_ret (zao rfl rfl) ?_
 exact ⟨by simp only [fullB,hs,hz,Bool.false_and,Bool.and_false],K⟩
theorem c_SpanFull_c (χ:Chi) (h:Heap) (A:Nat→Prop) (kv:Value) (s:SpanD) (hA:∀b,A b→b<h.size) (hk:RKeys A h kv s.ks) (hs:slt s.s s.e=true) (hz:decide ((0:Int)< (s.ks.length:Int))=true):
 Cl Tryz.prog χ 99 #[.agg #[.string s.s,.string s.e,kv]] h (fun r h'=>r=.bool (fullB s)∧Keep [] h h'):=by
 obtain ⟨ka,kc,rfl⟩:=hk.form2
 refine zak Tryz.func99 rfl rfl rfl ?_
 have K:Keep [] h h:=Keep.refl _ _
 refine rG<|rs_w (zdx rfl) rfl ?_
 rintro _ h1 ⟨rfl,B1,K1,Z1⟩
 have S1:=K.1;have K:=K.new0 K1
 refine rA rfl rfl<|rN<|rG<|rF zge rfl rfl<|rs_v (v_load zcn rfl (by exact B1.cell _ rfl)) rfl ?_
 refine rF zgf rfl rfl<|rs_v (v_load zcn rfl (by exact B1.cell _ rfl)) rfl ?_
 refine rs_v (v_slt rfl rfl) rfl ?_
 refine rM rfl rfl<|rs_gv rfl (lkb hs) (zac zew rfl) rfl ?_
 refine rs_gv rfl (lkb hs) (v_load zea rfl (by exact B1.cell _ rfl)) rfl ?_
 refine rs_gv rfl (lkb hs) (v_len zbn rfl) rfl ?_
 refine rs_gv rfl (lkb hs) (v_gt rfl rfl) rfl ?_
 refine rs_v (zbq (lkb hs) rfl) rfl ?_
 refine rM rfl rfl<|rs_gv rfl (lkb hz) (zac zew rfl) rfl ?_
 refine rs_gv rfl (lkb hz) (v_load zea rfl (by exact B1.cell _ rfl)) rfl ?_
 refine rs_gw rfl (lkb hz) (w_call (vs:= [_]) zkn rfl ⟨rfl,trivial⟩ (zow χ _ A _ s.ks (hk.stab (K.stab fun b hb=>⟨hA b hb,by simp⟩)))) rfl ?_
 rintro _ h2 ⟨rfl,hsame⟩;have hsame:=hsame.symm;subst hsame
 refine rs_v (zbq (lkb hz) rfl) rfl ?_
 refine rA rfl rfl<|rN<|tr_ret<|q_ret (zao rfl rfl) ?_
 exact ⟨by simp only [fullB,hs,hz,Bool.true_and],K⟩
theorem c_SpanFull (χ:Chi) (h:Heap) (A:Nat→Prop) (kv:Value) (s:SpanD) (hA:∀b,A b→b<h.size) (hk:RKeys A h kv s.ks):
 Cl Tryz.prog χ 99 #[.agg #[.string s.s,.string s.e,kv]] h (fun r h'=>r=.bool (fullB s)∧Keep [] h h'):=by
 rcases Bool.eq_false_or_eq_true (slt s.s s.e) with hs|hs
 · rcases Bool.eq_false_or_eq_true (decide ((0:Int)< (s.ks.length:Int))) with hz|hz
   · exact c_SpanFull_c χ h A kv s hA hk hs hz
   · exact c_SpanFull_b χ h A kv s hA hk hs hz
 · exact c_SpanFull_a χ h A kv s hA hk hs
theorem c_SpanWell (χ:Chi) (h:Heap) (A:Nat→Prop) (hA:∀b,A b→b<h.size) (v:Value) (L:List SpanD) (hL:RSpans A h v L):
 Cl Tryz.prog χ 57 #[v] h (fun r h'=>r=.bool (wellB L)∧Keep [] h h'):=by
 obtain ⟨hlen,a,c,rfl,hx⟩:=hL.form
 refine zak Tryz.func57 rfl rfl rfl ?_
 have K:Keep [] h h:=Keep.refl _ _
 refine rG<|rA rfl rfl<|rN<|tr_seq<|rG<|rM rfl rfl<|rs_v (v_len zca rfl) rfl ?_
 refine rM rfl rfl<|rN<|zaj ?_
 refine zbo (fun m E h'=>∃k,k≤L.length∧m=L.length - k∧E= [(0,.slice a L.length c),(5,.slice a L.length c),(6,.int .i64 (L.length:Int)),(7,.int .i64 (k:Int))]∧Keep [] h h'∧(L.take k).all fullB=true∧∀(i:Nat) x y,i+1<k→L[i]? =some x→L[i+1]? =some y→sle x.e y.s=true) L.length [(0,_),(5,_),(6,_),(7,_)] ⟨rfl,rfl,rfl,rfl,trivial⟩ ⟨0,Nat.zero_le _,rfl,rfl,K,rfl,fun i _ _ hi=>by omega⟩ ?_
 rintro m E hL1 ⟨k,hk,rfl,rfl,K,hall,hch⟩
 refine rG<|rs_v (v_lt rfl rfl) rfl<|rN<|tr_seq ?_
 refine tr_ifn rfl (fun hif=>?_) (fun hif=>?_)
 ·
  simp only [dT,dF] at hif
  have hkk:k=L.length:=by omega
  subst hkk
  refine zbm<|zay<|zbd<|zbb<|q_thn<|rG<|rA rfl rfl<|rN<|tr_ret<|q_ret (zao rfl rfl) ?_
  refine ⟨?_,K⟩
  rw [List.take_length] at hall
  have:chainB (fun a b:SpanD=>sle a.e b.s) L=true:=(zkb _ L).2 fun i x y hx hy=>hch i x y (by have:=(List.getElem?_eq_some_iff.1 hy).1;omega) hx hy
  simp only [wellB,hall,this];rfl
 simp only [dT,dF] at hif
 rcases hx with rfl|⟨b,o,rfl,hAb,hR⟩
 · simp at hif;omega
 obtain ⟨x,hxk⟩:=ex_get (L:=L) (k:=k) (by omega)
 obtain ⟨kv,hcells,hkeys⟩:=hR k x hxk
 obtain ⟨ka,kc,hkv⟩:=hkeys.form2
 subst hkv
 have hcells:=K.cells (by simp) hcells
 refine zah<|q_thn<|tr_seq<|zaj<|rG<|rM rfl rfl<|rs_v (zcb zca zdd rfl rfl (by omega)) rfl ?_
 refine rs_v (zbe (vs:= [_,_,_]) zdn rfl (by exact hcells)) rfl ?_
 refine rs_w (w_new zfb) rfl ?_
 rintro _ h2 ⟨rfl,B2,K2,Z2⟩
 have S2:=K.1;have K:=K.new0 K2
 refine rA rfl rfl<|rs_w0 (w_put zdd rfl rfl rfl rfl B2 rfl) ?_
 rintro _ h3 ⟨B3,K3⟩
 have B2:=B3;have K:=K.new1 K3 (by first|(right;omega)|(left;simp;done));have Z3:=K3.1
 refine rN ?_
 refine tr_cut (fun E h'=>∃bad,E= [(0,.slice (some ⟨b,o,none⟩) L.length c),(5,.slice (some ⟨b,o,none⟩) L.length c),(6,.int .i64 (L.length:Int)),(7,.int .i64 (k:Int)),(29,.bool bad)]∧Keep [] h h'∧(bad=false↔fullB x=true∧∀j y,k=j+1→L[j]? =some y→sle y.e x.s=true)) ?_ ?_
 ·
  have hcall:∀h',Keep [] h3 h'→Cl Tryz.prog χ 99 #[.agg #[.string x.s,.string x.e,.slice ka x.ks.length kc]] h' (fun r h''=>r=.bool (fullB x)∧Keep [] h' h''):=fun h' hk=>c_SpanFull χ h' A _ x (fun b hb=>by have:=hA b hb;have:=K.1;have:=hk.1;omega) (hkeys.stab ((K.new0 hk).stab fun b hb=>⟨hA b hb,by simp⟩))
  rcases Bool.eq_false_or_eq_true (fullB x) with hf|hf
  rcases Nat.eq_zero_or_pos k with hk0|hk0
  · -- the first one
    have hz:decide ((0:Int)< (k:Int))=false:=by simp;omega
    have hf2:(!fullB x)=false:=by rw [hf];rfl
    refine tr_any (Keep []) (zaa _) (by kernel_rfl) (by kernel_rfl) ?_
    refine rm_v (zaa _) (fun h' hk=>zbe (vs:= [_,_,_]) zdn rfl (by exact (hk.blk (by simp) B2).sub _ 3 rfl)) ?_
    refine rm_c (fun h' hk=>w_call (vs:= [_]) zkt rfl ⟨rfl,trivial⟩ (hcall h' hk)) ?_
    refine rm_v (zaa _) (fun h' hk=>v_not rfl) ?_
    refine rm_v (zaa _) (fun h' hk=>v_move rfl) ?_
    refine rm_gv (zaa _) rfl (lkm hf2) (fun h' hk=>v_move rfl) ?_
    refine rm_gv (zaa _) rfl (lkm hf2) (fun h' hk=>v_gt rfl rfl) ?_
    refine rm_gv (zaa _) rfl (lkm hf2) (fun h' hk=>v_move rfl) ?_
    refine rm_gs (zaa _) rfl (lkm hz) rfl ?_
    refine rm_gs (zaa _) rfl (lkm hz) rfl ?_
    refine rm_gs (zaa _) rfl (lkm hz) rfl ?_
    refine rm_gs (zaa _) rfl (lkm hz) rfl ?_
    refine rm_gs (zaa _) rfl (lkm hz) rfl ?_
    refine rm_gs (zaa _) rfl (lkm hz) rfl ?_
    refine rm_gs (zaa _) rfl (lkm hz) rfl ?_
    refine rm_gs (zaa _) rfl (lkm hz) rfl ?_
    refine rm_gs (zaa _) rfl (lkm hz) rfl ?_
    refine rm_gv (zaa _) rfl (lkm hf2) (fun h' hk=>zbf (lkb hz) rfl) ?_
    refine rm_v (zaa _) (fun h' hk=>zbf (lkb hf2) rfl) ?_
    refine rm_end ?_;intro h4 K4;simp only [endM,hypF,ofE,argE,List.nil_append]
    have B2:=K4.blk (by simp) B2
    have K:=K.new0 K4;have Z4:=K4.1
    refine q_cut [(0,_),(5,_),(6,_),(7,_),(29,_)] ⟨rfl,rfl,rfl,rfl,rfl,trivial⟩ ⟨_,rfl,K,⟨fun _=>⟨hf,fun j y hj=>by omega⟩,fun _=>rfl⟩⟩
  · -- a later one
    obtain ⟨j,rfl⟩:∃j,k=j+1:=⟨k - 1,by omega⟩
    obtain ⟨y,hyj⟩:=ex_get (L:=L) (k:=j) (by omega)
    obtain ⟨kv2,hcells2,hkeys2⟩:=hR j y hyj
    have hcells2:=K.cells (by simp) hcells2
    have hz:decide ((0:Int)< ((j+1:Nat):Int))=true:=by simp
    have hf2:(!fullB x)=false:=by rw [hf];rfl
    refine tr_any (Keep []) (zaa _) (by kernel_rfl) (by kernel_rfl) ?_
    refine rm_v (zaa _) (fun h' hk=>zbe (vs:= [_,_,_]) zdn rfl (by exact (hk.blk (by simp) B2).sub _ 3 rfl)) ?_
    refine rm_c (fun h' hk=>w_call (vs:= [_]) zkt rfl ⟨rfl,trivial⟩ (hcall h' hk)) ?_
    refine rm_v (zaa _) (fun h' hk=>v_not rfl) ?_
    refine rm_v (zaa _) (fun h' hk=>v_move rfl) ?_
    refine rm_gv (zaa _) rfl (lkm hf2) (fun h' hk=>v_move rfl) ?_
    refine rm_gv (zaa _) rfl (lkm hf2) (fun h' hk=>v_gt rfl rfl) ?_
    refine rm_gv (zaa _) rfl (lkm hf2) (fun h' hk=>v_move rfl) ?_
    refine rm_gv (zaa _) rfl (lkm hz) (fun h' hk=>v_move rfl) ?_
    refine rm_gv (zaa _) rfl (lkm hz) (fun h' hk=>v_move rfl) ?_
    refine rm_gv (zaa _) rfl (lkm hz) (fun h' hk=>v_sub rfl rfl (by omega) (by omega)) ?_
    refine rm_gv (zaa _) rfl (lkm hz) (fun h' hk=>zam (i:=j) zca zdd rfl rfl (by omega) (by omega)) ?_
    refine rm_gv (zaa _) rfl (lkm hz) (fun h' hk=>zac zgf rfl) ?_
    refine rm_gv (zaa _) rfl (lkm hz) (fun h' hk=>v_load zcn rfl (by exact hk.cell (by simp) (hcells2.at 1 rfl))) ?_
    refine rm_gv (zaa _) rfl (lkm hz) (fun h' hk=>zac zge rfl) ?_
    refine rm_gv (zaa _) rfl (lkm hz) (fun h' hk=>v_load zcn rfl (by exact (hk.blk (by simp) B2).cell _ rfl)) ?_
    refine rm_gv (zaa _) rfl (lkm hz) (fun h' hk=>v_sgt rfl rfl) ?_
    refine rm_gv (zaa _) rfl (lkm hf2) (fun h' hk=>zbq (lkb hz) rfl) ?_
    refine rm_v (zaa _) (fun h' hk=>zbf (lkb hf2) rfl) ?_
    refine rm_end ?_;intro h5 K5;simp only [endM,hypF,ofE,argE,List.nil_append]
    have B2:=K5.blk (by simp) B2
    have K:=K.new0 K5;have Z5:=K5.1
    refine q_cut [(0,_),(5,_),(6,_),(7,_),(29,_)] ⟨rfl,rfl,rfl,rfl,rfl,trivial⟩ ⟨_,rfl,K,⟨fun hb=>⟨hf,fun i z hi hz2=>?_⟩,fun hb=>?_⟩⟩
    · have:i=j:=by omega
      subst this
      rw [hyj] at hz2;cases hz2
      simpa using hb
    · have:=hb.2 j y rfl hyj
      simpa using this
  · -- not full
    have hf2:(!fullB x)=true:=by rw [hf];rfl
    refine tr_any (Keep []) (zaa _) (by kernel_rfl) (by kernel_rfl) ?_
    refine rm_v (zaa _) (fun h' hk=>zbe (vs:= [_,_,_]) zdn rfl (by exact (hk.blk (by simp) B2).sub _ 3 rfl)) ?_
    refine rm_c (fun h' hk=>w_call (vs:= [_]) zkt rfl ⟨rfl,trivial⟩ (hcall h' hk)) ?_
    refine rm_v (zaa _) (fun h' hk=>v_not rfl) ?_
    refine rm_v (zaa _) (fun h' hk=>v_move rfl) ?_
    refine rm_gs (zaa _) rfl (lkm hf2) rfl ?_
    refine rm_gs (zaa _) rfl (lkm hf2) rfl ?_
    refine rm_gs (zaa _) rfl (lkm hf2) rfl ?_
    refine rm_gu (zaa _) rfl rfl ?_
    refine rm_gu (zaa _) rfl rfl ?_
    refine rm_gu (zaa _) rfl rfl ?_
    refine rm_gu (zaa _) rfl rfl ?_
    refine rm_gu (zaa _) rfl rfl ?_
    refine rm_gu (zaa _) rfl rfl ?_
    refine rm_gu (zaa _) rfl rfl ?_
    refine rm_gu (zaa _) rfl rfl ?_
    refine rm_gu (zaa _) rfl rfl ?_
    refine rm_gs (zaa _) rfl (lkm hf2) rfl ?_
    refine rm_v (zaa _) (fun h' hk=>zbq (lkb hf2) rfl) ?_
    refine rm_end ?_;intro h6 K6;simp only [endM,hypF,ofE,argE,List.nil_append]
    have B2:=K6.blk (by simp) B2
    have K:=K.new0 K6;have Z6:=K6.1
    refine q_cut [(0,_),(5,_),(6,_),(7,_),(29,_)] ⟨rfl,rfl,rfl,rfl,rfl,trivial⟩ ⟨true,rfl,K,⟨fun e=>(by cases e),fun e=>(by rw [hf] at e;cases e.1)⟩⟩
 rintro E h4 ⟨bad,rfl,K,hbad⟩
 refine tr_if rfl (fun hif=>?_) (fun hif=>?_)
 ·
  subst hif
  refine rG<|rA rfl rfl<|rN<|tr_ret<|zbr<|zaz ?_
  refine zfu ?_
  refine zbr<|zaz<|q_ret (zao rfl rfl) ?_
  refine ⟨?_,K⟩
  have:wellB L=false:=by
   cases hw:wellB L with
   |false=>rfl
   |true=>
    simp only [wellB,Bool.and_eq_true] at hw
    have h1:fullB x=true:=List.all_eq_true.1 hw.1 x (List.mem_of_getElem? hxk)
    have:=hbad.2 ⟨h1,fun j y hj hy=>(zkb _ L).1 hw.2 j y x hy (by rw [←hj];exact hxk)⟩
    cases this
  rw [this]
 subst hif
 refine zah<|zbc<|q_thn<|tr_reg<|rs_v (v_add rfl rfl (by omega) (by omega)) rfl ?_
 refine rM rfl rfl<|rs_nil ?_
 have hb2:=hbad.1 rfl
 refine q_lp (L.length - (k+1)) [(0,_),(5,_),(6,_),(7,_)] (by omega) ⟨rfl,rfl,rfl,rfl,trivial⟩ ⟨k+1,by omega,rfl,rfl,K,?_,?_⟩
 · rw [zrl hxk,hall,hb2.1];rfl
 · intro i x' y' hi hx' hy'
   rcases Nat.lt_or_ge (i+1) k with hlt|hge
   · exact hch i x' y' hlt hx' hy'
   · have hik:k=i+1:=by omega
     subst hik
     rw [hxk] at hy';cases hy'
     exact hb2.2 i x' rfl hx'
def posX (n:Int):Pos→Int→Prop
 | .pt j,x=>x=j∧x<n
 | .behind,x=>x=n
 | .ahead,x=>x= -1
 | .nowhere,_=>True
theorem c_toKeys (χ:Chi) (h:Heap) (A:Nat→Prop) (hA:Low A h) (kv:Value) (ks:List KeyD) (hk:RKeys A h kv ks) (hn:ks.length≤100000):
 Cl Tryz.prog χ 97 #[kv] h (fun r h'=>RKeys (Up A h h') h' r ks∧Keep [] h h'):=by
 obtain ⟨hlen,a,c,rfl,hx⟩:=hk.form
 refine zak Tryz.func97 rfl rfl rfl ?_
 have K:Keep [] h h:=Keep.refl _ _
 refine rG<|rA rfl rfl<|rN<|rG<|rA rfl rfl<|rN<|tr_seq<|rG<|rM rfl rfl<|rs_v (v_len zbn rfl) rfl ?_
 refine rM rfl rfl<|rN<|zaj ?_
 refine zbo (fun m E h'=>∃k v n,k≤ks.length∧m=ks.length - k∧E= [(3,v),(6,.slice a ks.length c),(7,.int .i64 (ks.length:Int)),(8,.int .i64 (k:Int))]∧Keep [] h h'∧n=(ks.take k).length∧OutR A h h' h.size 267 3 cKey v n (ks.take k)) ks.length [(3,_),(6,_),(7,_),(8,_)] ⟨rfl,rfl,rfl,rfl,trivial⟩ ⟨0,_,0,Nat.zero_le _,rfl,rfl,K,rfl,OutR.nil _ _ _ _ _ _ _⟩ ?_
 rintro m E hL1 ⟨k,v,n,hk,rfl,rfl,K,hn,hout⟩
 have hout0:=hout
 obtain ⟨xs,F,O,hrow,hF⟩:=hout
 have hob:=own_ne O;have KL:=Keep.refl [] hL1
 refine rG<|rs_v (v_lt rfl rfl) rfl<|rN<|tr_seq ?_
 refine tr_ifn rfl (fun hif=>?_) (fun hif=>?_)
 ·
  simp only [dT,dF] at hif
  have hkk:k=ks.length:=by omega
  subst hkk
  refine zbm<|zay<|zbd<|zbb<|q_thn<|rG<|rM rfl rfl<|rA rfl rfl<|rN<|tr_ret<|q_ret (zao rfl rfl) ?_
  rw [List.take_length] at hout0 hn
  exact ⟨hout0.fin zmd hn (Nat.le_refl _) cKey_r,K⟩
 simp only [dT,dF] at hif
 rcases hx with rfl|⟨b,o,rfl,hAb,hR⟩
 · simp at hif;omega
 obtain ⟨x,hsk⟩:=ex_get (L:=ks) (k:=k) (by omega)
 have hkl:k<ks.length:=(List.getElem?_eq_some_iff.1 hsk).1
 have KL0:=K.1
 have hcells:=K.cells (by simp) (hR k x hsk)
 have hnk:n=k:=by rw [hn,List.length_take];omega
 refine zah<|q_thn<|tr_seq<|zaj<|rG<|rs_v (zcb zbn zck rfl rfl (by omega)) rfl ?_
 refine rs_v (zbe (vs:= [_,_,_]) zdo rfl (by exact hcells)) rfl ?_
 refine rs_w (w_new zgo) rfl ?_
 rintro _ h2 ⟨rfl,B2,K2,Z2⟩
 have O:=O.keep2 K2 (fun x hm=>by have:=hob x hm;simp;try omega)
 have S2:=K.1;have K:=K.new0 K2;have KL:=KL.new0 K2
 refine rs_w0 (w_put zck rfl rfl rfl rfl B2 rfl) ?_
 rintro _ h3 ⟨B3,K3⟩
 have O:=O.keep2 K3 (fun x hm=>by have:=hob x hm;simp;try omega)
 have B2:=B3;have K:=K.new1 K3 (by first|(right;omega)|(left;simp;done));have Z3:=K3.1;have KL:=KL.new1 K3 (.inr (by omega))
 refine rN<|tr_reg<|rM rfl rfl<|rs_v (zbe (vs:= [_,_,_]) zdo rfl (by exact B2.sub _ 3 rfl)) rfl ?_
 refine rs_w (w_new1 zfe zgw zio rfl rfl rfl rfl rfl) rfl ?_
 rintro _ h4 ⟨rfl,B4,K4,Z4⟩
 have B2:=K4.blk (by simp) B2
 have O:=O.keep2 K4 (fun x hm=>by have:=hob x hm;simp;try omega)
 have S4:=K.1;have K:=K.new0 K4;have KL:=KL.new0 K4
 refine rs_w (w_app1 zfe zny rfl rfl rfl O rfl rfl B4 rfl (by omega) (by omega) (by omega)) rfl ?_
 rintro v5 h5 ⟨O5,K5,N5,F5⟩
 have K:=K.newX K5 (fun x hm=>.inr (by have:=hob x hm;omega));have Z5:=K5.1
 have B2:=K5.blk (fun hm=>by first|(have:=hob _ hm;omega)|exact absurd rfl (hnb _ hm)) B2
 have B4:=K5.blk (fun hm=>by first|(have:=hob _ hm;omega)|exact absurd rfl (hnb _ hm)) B4
 refine rA rfl rfl<|rs_nil<|zbc<|q_thn<|tr_reg<|rs_v (v_add rfl rfl (by omega) (by omega)) rfl ?_
 refine rM rfl rfl<|rs_nil ?_
 refine q_lp (ks.length - (k+1)) [(3,_),(6,_),(7,_),(8,_)] (by omega) ⟨rfl,rfl,rfl,rfl,trivial⟩ ⟨k+1,v5,n+1,by omega,rfl,rfl,K,?_,?_⟩
 · rw [zbt hsk];rw [List.length_append,←hn];rfl
 · rw [zbt hsk]
   exact OutR.snoc zmd hA (by omega) hob hrow hF KL0 KL O5 K5 F5 rfl (show _=_ from rfl)
theorem c_ofKeys (χ:Chi) (h:Heap) (A:Nat→Prop) (hA:Low A h) (kv:Value) (ks:List KeyD) (hk:RKeys A h kv ks) (hn:ks.length≤100000):
 Cl Tryz.prog χ 98 #[kv] h (fun r h'=>RKeys (Up A h h') h' r ks∧Keep [] h h'):=by
 obtain ⟨hlen,a,c,rfl,hx⟩:=hk.form
 refine zak Tryz.func98 rfl rfl rfl ?_
 have K:Keep [] h h:=Keep.refl _ _
 refine rG<|rA rfl rfl<|rN<|rG<|rA rfl rfl<|rN<|tr_seq<|rG<|rM rfl rfl<|rs_v (v_len zfe rfl) rfl ?_
 refine rM rfl rfl<|rN<|zaj ?_
 refine zbo (fun m E h'=>∃k v n,k≤ks.length∧m=ks.length - k∧E= [(3,v),(6,.slice a ks.length c),(7,.int .i64 (ks.length:Int)),(8,.int .i64 (k:Int))]∧Keep [] h h'∧n=(ks.take k).length∧OutR A h h' h.size 42 3 cKey v n (ks.take k)) ks.length [(3,_),(6,_),(7,_),(8,_)] ⟨rfl,rfl,rfl,rfl,trivial⟩ ⟨0,_,0,Nat.zero_le _,rfl,rfl,K,rfl,OutR.nil _ _ _ _ _ _ _⟩ ?_
 rintro m E hL1 ⟨k,v,n,hk,rfl,rfl,K,hn,hout⟩
 have hout0:=hout
 obtain ⟨xs,F,O,hrow,hF⟩:=hout
 have hob:=own_ne O;have KL:=Keep.refl [] hL1
 refine rG<|rs_v (v_lt rfl rfl) rfl<|rN<|tr_seq ?_
 refine tr_ifn rfl (fun hif=>?_) (fun hif=>?_)
 ·
  simp only [dT,dF] at hif
  have hkk:k=ks.length:=by omega
  subst hkk
  refine zbm<|zay<|zbd<|zbb<|q_thn<|rG<|rM rfl rfl<|rA rfl rfl<|rN<|tr_ret<|q_ret (zao rfl rfl) ?_
  rw [List.take_length] at hout0 hn
  exact ⟨hout0.fin zmd hn (Nat.le_refl _) cKey_r,K⟩
 simp only [dT,dF] at hif
 rcases hx with rfl|⟨b,o,rfl,hAb,hR⟩
 · simp at hif;omega
 obtain ⟨x,hsk⟩:=ex_get (L:=ks) (k:=k) (by omega)
 have hkl:k<ks.length:=(List.getElem?_eq_some_iff.1 hsk).1
 have KL0:=K.1
 have hcells:=K.cells (by simp) (hR k x hsk)
 have hnk:n=k:=by rw [hn,List.length_take];omega
 refine zah<|q_thn<|tr_seq<|zaj<|rG<|rs_v (zcb zfe zgw rfl rfl (by omega)) rfl ?_
 refine rs_v (zbe (vs:= [_,_,_]) zki rfl (by exact hcells)) rfl ?_
 refine rs_w (w_new zio) rfl ?_
 rintro _ h2 ⟨rfl,B2,K2,Z2⟩
 have O:=O.keep2 K2 (fun x hm=>by have:=hob x hm;simp;try omega)
 have S2:=K.1;have K:=K.new0 K2;have KL:=KL.new0 K2
 refine rs_w0 (w_put zgw rfl rfl rfl rfl B2 rfl) ?_
 rintro _ h3 ⟨B3,K3⟩
 have O:=O.keep2 K3 (fun x hm=>by have:=hob x hm;simp;try omega)
 have B2:=B3;have K:=K.new1 K3 (by first|(right;omega)|(left;simp;done));have Z3:=K3.1;have KL:=KL.new1 K3 (.inr (by omega))
 refine rN<|tr_reg<|rM rfl rfl<|rs_v (zbe (vs:= [_,_,_]) zki rfl (by exact B2.sub _ 3 rfl)) rfl ?_
 refine rs_w (w_new1 zbn zck zgo rfl rfl rfl rfl rfl) rfl ?_
 rintro _ h4 ⟨rfl,B4,K4,Z4⟩
 have B2:=K4.blk (by simp) B2
 have O:=O.keep2 K4 (fun x hm=>by have:=hob x hm;simp;try omega)
 have S4:=K.1;have K:=K.new0 K4;have KL:=KL.new0 K4
 refine rs_w (w_app1 zbn znx rfl rfl rfl O rfl rfl B4 rfl (by omega) (by omega) (by omega)) rfl ?_
 rintro v5 h5 ⟨O5,K5,N5,F5⟩
 have K:=K.newX K5 (fun x hm=>.inr (by have:=hob x hm;omega));have Z5:=K5.1
 have B2:=K5.blk (fun hm=>by first|(have:=hob _ hm;omega)|exact absurd rfl (hnb _ hm)) B2
 have B4:=K5.blk (fun hm=>by first|(have:=hob _ hm;omega)|exact absurd rfl (hnb _ hm)) B4
 refine rA rfl rfl<|rs_nil<|zbc<|q_thn<|tr_reg<|rs_v (v_add rfl rfl (by omega) (by omega)) rfl ?_
 refine rM rfl rfl<|rs_nil ?_
 refine q_lp (ks.length - (k+1)) [(3,_),(6,_),(7,_),(8,_)] (by omega) ⟨rfl,rfl,rfl,rfl,trivial⟩ ⟨k+1,v5,n+1,by omega,rfl,rfl,K,?_,?_⟩
 · rw [zbt hsk];rw [List.length_append,←hn];rfl
 · rw [zbt hsk]
   exact OutR.snoc zmd hA (by omega) hob hrow hF KL0 KL O5 K5 F5 rfl (show _=_ from rfl)
theorem upk {A:Nat→Prop} {h h1 h2:Heap} {v:Value} {ks:List KeyD} (hA:Low A h) (k0:h.size≤h1.size) (hr:RKeys (Up A h h1) h1 v ks) (K:Keep [] h1 h2):RKeys (Up A h h2) h2 v ks:=
 (hr.stab (K.st (hA.up k0))).mono (Up.grow K.1)
theorem c_toSpan (χ:Chi) (h:Heap) (A:Nat→Prop) (hA:Low A h) (s:SpanD) (kv:Value) (hks:RKeys A h kv s.ks) (hn:s.ks.length≤100000):
 Cl Tryz.prog χ 53 #[.agg #[.string s.s,.string s.e,kv]] h (fun r h'=>(∃kv',r=.agg #[.string s.s,.string s.e,kv']∧RKeys (Up A h h') h' kv' s.ks)∧Keep [] h h'):=by
 obtain ⟨ka,kc,rfl⟩:=hks.form2
 refine zak Tryz.func53 rfl rfl rfl ?_
 have K:Keep [] h h:=Keep.refl _ _
 refine rG<|rs_w (zdx rfl) rfl ?_
 rintro _ h1 ⟨rfl,B1,K1,Z1⟩
 have S1:=K.1;have K:=K.new0 K1
 refine rs_w (w_new zfc) rfl ?_
 rintro _ h2 ⟨rfl,B2,K2,Z2⟩
 have B1:=K2.blk (by simp) B1
 have S2:=K.1;have K:=K.new0 K2
 refine rN<|tr_seq ?_
 have S0:h.size≤h2.size:=K.1
 have hA2:=hA.mono S0
 refine zch [(true,8),(false,1)] _ (by kernel_rfl) (by kernel_rfl) (by kernel_rfl) ?_
 refine rx_any (Keep []) (zaa _) ?_
 refine rm_v (zaa _) (fun h' hk=>zac zge rfl) ?_
 refine rm_v (zaa _) (fun h' hk=>v_load zcn rfl (Blk.cell (hk.blk (by simp) B1) _ rfl)) ?_
 refine rm_v (zaa _) (fun h' hk=>zac zgf rfl) ?_
 refine rm_v (zaa _) (fun h' hk=>v_load zcn rfl (Blk.cell (hk.blk (by simp) B1) _ rfl)) ?_
 refine rm_v (zaa _) (fun h' hk=>zac zew rfl) ?_
 refine rm_v (zaa _) (fun h' hk=>v_load zea rfl (Blk.cell (hk.blk (by simp) B1) _ rfl)) ?_
 refine rm_w (fun v h'=>RKeys (Up A h2 h') h' v s.ks) (fun v _ _ k1 k2 hr=>upk hA2 k1.1 hr k2) (fun h' hk=>OpW.mono (w_call (vs:= [_]) zva rfl ⟨rfl,trivial⟩ (c_toKeys χ h' A (hA.mono (K.new0 hk).1) _ s.ks (hks.stab ((K.new0 hk).st hA)) hn)) (fun v h'' hv=>⟨hv.2,hv.1.mono (Up.trans2 hk.1 (Nat.le_refl _))⟩)) ?_
 refine rm_o 9 (fun v h'=>∃kv',v=.agg #[.string s.s,.string s.e,kv']∧RKeys (Up A h2 h') h' kv' s.ks) rfl (by kernel_rfl) (fun v _ _ k1 k2 hr=>by obtain ⟨kv',e,hr⟩:=hr;exact ⟨kv',e,upk hA2 k1.1 hr k2⟩) (fun u h' hk hu=>by
  obtain ⟨a,c,rfl⟩:=hu.form2
  exact (zer rfl rfl rfl (zmb _ _ _ _ _)).w.mono (fun _ _ e=>by obtain ⟨e1,e2⟩:=e;subst e1;subst e2;exact ⟨Keep.refl _ _,_,rfl,hu⟩)) ?_
 refine rm_end ?_;intro ha Ka;simp only [endM,hypF,ofE,argE,List.nil_append]
 intro v10 hv10 v9 hv9
 obtain ⟨kv',rfl,hkv⟩:=hv10
 obtain ⟨ka',kc',rfl⟩:=hkv.form2
 have B2:=Ka.blk (by simp) B2
 have K:=K.new0 Ka;have Za:=Ka.1
 refine rx_seq<|rs_w0 (w_put zed rfl rfl rfl rfl B2 rfl) ?_
 rintro _ h3 ⟨B3,K3⟩
 have K:=K.new1 K3 (.inr (by omega))
 refine rs_nil<|q_con ?_
 refine rx_nil ?_
 refine q_thn<|tr_ret<|q_ret (zom (vs:= [_,_,_]) rfl rfl zex (by exact B3.sub 0 3 rfl)) ?_
 have hs:Stab (Up A h2 ha) ha h3:=K3.stab fun b hb=>⟨hA2.up Za b hb,by
  rcases hb with hb|hb
  · have:=hA b hb;simp;omega
  · simp;omega⟩
 exact ⟨⟨_,rfl,(hkv.stab hs).mono (Up.trans2 S0 K3.1)⟩,K⟩
theorem c_ofSpan (χ:Chi) (h:Heap) (A:Nat→Prop) (hA:Low A h) (s:SpanD) (kv:Value) (hks:RKeys A h kv s.ks) (hn:s.ks.length≤100000):
 Cl Tryz.prog χ 54 #[.agg #[.string s.s,.string s.e,kv]] h (fun r h'=>(∃kv',r=.agg #[.string s.s,.string s.e,kv']∧RKeys (Up A h h') h' kv' s.ks)∧Keep [] h h'):=by
 obtain ⟨ka,kc,rfl⟩:=hks.form2
 refine zak Tryz.func54 rfl rfl rfl ?_
 have K:Keep [] h h:=Keep.refl _ _
 refine rG<|rs_w (zdx rfl) rfl ?_
 rintro _ h1 ⟨rfl,B1,K1,Z1⟩
 have S1:=K.1;have K:=K.new0 K1
 refine rs_w (w_new zfb) rfl ?_
 rintro _ h2 ⟨rfl,B2,K2,Z2⟩
 have B1:=K2.blk (by simp) B1
 have S2:=K.1;have K:=K.new0 K2
 refine rN<|tr_seq ?_
 have S0:h.size≤h2.size:=K.1
 have hA2:=hA.mono S0
 refine zch [(true,8),(false,1)] _ (by kernel_rfl) (by kernel_rfl) (by kernel_rfl) ?_
 refine rx_any (Keep []) (zaa _) ?_
 refine rm_v (zaa _) (fun h' hk=>zac zmj rfl) ?_
 refine rm_v (zaa _) (fun h' hk=>v_load zcn rfl (Blk.cell (hk.blk (by simp) B1) _ rfl)) ?_
 refine rm_v (zaa _) (fun h' hk=>zac zmk rfl) ?_
 refine rm_v (zaa _) (fun h' hk=>v_load zcn rfl (Blk.cell (hk.blk (by simp) B1) _ rfl)) ?_
 refine rm_v (zaa _) (fun h' hk=>zac zml rfl) ?_
 refine rm_v (zaa _) (fun h' hk=>v_load zjh rfl (Blk.cell (hk.blk (by simp) B1) _ rfl)) ?_
 refine rm_w (fun v h'=>RKeys (Up A h2 h') h' v s.ks) (fun v _ _ k1 k2 hr=>upk hA2 k1.1 hr k2) (fun h' hk=>OpW.mono (w_call (vs:= [_]) zvb rfl ⟨rfl,trivial⟩ (c_ofKeys χ h' A (hA.mono (K.new0 hk).1) _ s.ks (hks.stab ((K.new0 hk).st hA)) hn)) (fun v h'' hv=>⟨hv.2,hv.1.mono (Up.trans2 hk.1 (Nat.le_refl _))⟩)) ?_
 refine rm_o 9 (fun v h'=>∃kv',v=.agg #[.string s.s,.string s.e,kv']∧RKeys (Up A h2 h') h' kv' s.ks) rfl (by kernel_rfl) (fun v _ _ k1 k2 hr=>by obtain ⟨kv',e,hr⟩:=hr;exact ⟨kv',e,upk hA2 k1.1 hr k2⟩) (fun u h' hk hu=>by
  obtain ⟨a,c,rfl⟩:=hu.form2
  exact (zer rfl rfl rfl (zse _ _ _ _ _)).w.mono (fun _ _ e=>by obtain ⟨e1,e2⟩:=e;subst e1;subst e2;exact ⟨Keep.refl _ _,_,rfl,hu⟩)) ?_
 refine rm_end ?_;intro ha Ka;simp only [endM,hypF,ofE,argE,List.nil_append]
 intro v10 hv10 v9 hv9
 obtain ⟨kv',rfl,hkv⟩:=hv10
 obtain ⟨ka',kc',rfl⟩:=hkv.form2
 have B2:=Ka.blk (by simp) B2
 have K:=K.new0 Ka;have Za:=Ka.1
 refine rx_seq<|rs_w0 (w_put zdd rfl rfl rfl rfl B2 rfl) ?_
 rintro _ h3 ⟨B3,K3⟩
 have K:=K.new1 K3 (.inr (by omega))
 refine rs_nil<|q_con ?_
 refine rx_nil ?_
 refine q_thn<|tr_ret<|q_ret (zom (vs:= [_,_,_]) rfl rfl zdn (by exact B3.sub 0 3 rfl)) ?_
 have hs:Stab (Up A h2 ha) ha h3:=K3.stab fun b hb=>⟨hA2.up Za b hb,by
  rcases hb with hb|hb
  · have:=hA b hb;simp;omega
  · simp;omega⟩
 exact ⟨⟨_,rfl,(hkv.stab hs).mono (Up.trans2 S0 K3.1)⟩,K⟩
theorem upk3 {A:Nat→Prop} {hL h3 h4 h5:Heap} {v:Value} {ks:List KeyD} (hA:Low A h3) (k0:hL.size≤h3.size) (K4:Keep [] h3 h4) (hr:RKeys (Up A h3 h4) h4 v ks) (K5:Keep [] h4 h5):RKeys (Up A hL h5) h5 v ks:=
 (hr.stab (K5.st (hA.up K4.1))).mono (Up.trans2 k0 K5.1)
theorem c_toSpans (χ:Chi) (h:Heap) (A:Nat→Prop) (hA:Low A h) (v:Value) (W:List SpanD) (hW:RSpans A h v W) (hn:W.length≤100000) (hm:∀s,s∈W→s.ks.length≤100000):
 Cl Tryz.prog χ 19 #[v] h (fun r h'=>RSpans (Up A h h') h' r W∧Keep [] h h'):=by
 obtain ⟨hlen,a,c,rfl,hx⟩:=hW.form
 refine zak Tryz.func19 rfl rfl rfl ?_
 have K:Keep [] h h:=Keep.refl _ _
 refine rG<|rA rfl rfl<|rN<|rG<|rA rfl rfl<|rN<|tr_seq<|rG<|rM rfl rfl<|rs_v (v_len zca rfl) rfl ?_
 refine rM rfl rfl<|rN<|zaj ?_
 refine zbo (fun m E h'=>∃k v n,k≤W.length∧m=W.length - k∧E= [(3,v),(6,.slice a W.length c),(7,.int .i64 (W.length:Int)),(8,.int .i64 (k:Int))]∧Keep [] h h'∧n=(W.take k).length∧OutR A h h' h.size 55 3 cSpan v n (W.take k)) W.length [(3,_),(6,_),(7,_),(8,_)] ⟨rfl,rfl,rfl,rfl,trivial⟩ ⟨0,_,0,Nat.zero_le _,rfl,rfl,K,rfl,OutR.nil _ _ _ _ _ _ _⟩ ?_
 rintro m E hL1 ⟨k,v,n,hk,rfl,rfl,K,hn,hout⟩
 have hout0:=hout
 obtain ⟨xs,F,O,hrow,hF⟩:=hout
 have hob:=own_ne O;have KL:=Keep.refl [] hL1
 refine rG<|rs_v (v_lt rfl rfl) rfl<|rN<|tr_seq ?_
 refine tr_ifn rfl (fun hif=>?_) (fun hif=>?_)
 ·
  simp only [dT,dF] at hif
  have hkk:k=W.length:=by omega
  subst hkk
  refine zbm<|zay<|zbd<|zbb<|q_thn<|rG<|rM rfl rfl<|rA rfl rfl<|rN<|tr_ret<|q_ret (zao rfl rfl) ?_
  rw [List.take_length] at hout0 hn
  exact ⟨hout0.fin zdr hn (Nat.le_refl _) zme,K⟩
 simp only [dT,dF] at hif
 rcases hx with rfl|⟨b,o,rfl,hAb,hR⟩
 · simp at hif;omega
 obtain ⟨x,hsk⟩:=ex_get (L:=W) (k:=k) (by omega)
 have hkl:k<W.length:=(List.getElem?_eq_some_iff.1 hsk).1
 have KL0:=K.1
 obtain ⟨kv,hcc,hkx⟩:=hR k x hsk
 obtain ⟨ka,kc,rfl⟩:=hkx.form2
 have hcells:=K.cells (by simp) hcc
 have hnk:n=k:=by rw [hn,List.length_take];omega
 refine zah<|q_thn<|tr_seq<|zaj<|rG<|rs_v (zcb zca zdd rfl rfl (by omega)) rfl ?_
 refine rs_v (zbe (vs:= [_,_,_]) zdn rfl (by exact hcells)) rfl ?_
 refine rs_w (w_new zfb) rfl ?_
 rintro _ h2 ⟨rfl,B2,K2,Z2⟩
 have O:=O.keep2 K2 (fun x hm=>by have:=hob x hm;simp;try omega)
 have S2:=K.1;have K:=K.new0 K2;have KL:=KL.new0 K2
 refine rs_w0 (w_put zdd rfl rfl rfl rfl B2 rfl) ?_
 rintro _ h3 ⟨B3,K3⟩
 have O:=O.keep2 K3 (fun x hm=>by have:=hob x hm;simp;try omega)
 have B2:=B3;have K:=K.new1 K3 (by first|(right;omega)|(left;simp;done));have Z3:=K3.1;have KL:=KL.new1 K3 (.inr (by omega))
 refine rN<|tr_reg<|rM rfl rfl<|rs_v (zbe (vs:= [_,_,_]) zdn rfl (by exact B2.sub _ 3 rfl)) rfl ?_
 refine rs_w (w_call (vs:= [_]) zuy rfl ⟨rfl,trivial⟩ (c_toSpan χ _ A (hA.mono (by omega)) x _ (hkx.stab (K.st hA)) (hm x (List.mem_of_getElem? hsk)))) rfl ?_
 rintro _ h4 ⟨⟨kv4,rfl,hkv4⟩,K4⟩
 obtain ⟨a4,c4,rfl⟩:=hkv4.form2
 have B2:=K4.blk (by simp) B2
 have O:=O.keep2 K4 (fun x hm=>by have:=hob x hm;simp;try omega)
 have K:=K.new0 K4;have Z4:=K4.1;have KL:=KL.new0 K4
 refine rs_w (w_new1 zdf zed zfc rfl rfl rfl rfl rfl) rfl ?_
 rintro _ h5 ⟨rfl,B5,K5,Z5⟩
 have B2:=K5.blk (by simp) B2
 have O:=O.keep2 K5 (fun x hm=>by have:=hob x hm;simp;try omega)
 have S5:=K.1;have K:=K.new0 K5;have KL:=KL.new0 K5
 refine rs_w (w_app1 zdf zka rfl rfl rfl O rfl rfl B5 rfl (by omega) (by omega) (by omega)) rfl ?_
 rintro v6 h6 ⟨O6,K6,N6,F6⟩
 have K:=K.newX K6 (fun x hm=>.inr (by have:=hob x hm;omega));have Z6:=K6.1
 have B2:=K6.blk (fun hm=>by first|(have:=hob _ hm;omega)|exact absurd rfl (hnb _ hm)) B2
 have B5:=K6.blk (fun hm=>by first|(have:=hob _ hm;omega)|exact absurd rfl (hnb _ hm)) B5
 refine rA rfl rfl<|rs_nil<|zbc<|q_thn<|tr_reg<|rs_v (v_add rfl rfl (by omega) (by omega)) rfl ?_
 refine rM rfl rfl<|rs_nil ?_
 refine q_lp (W.length - (k+1)) [(3,_),(6,_),(7,_),(8,_)] (by omega) ⟨rfl,rfl,rfl,rfl,trivial⟩ ⟨k+1,v6,n+1,by omega,rfl,rfl,K,?_,?_⟩
 · rw [zbt hsk];rw [List.length_append,←hn];rfl
 · rw [zbt hsk]
   exact OutR.snoc zdr hA (by omega) hob hrow hF KL0 KL O6 K6 F6 rfl (⟨_,rfl,upk3 (hA.mono (by omega)) (by omega) K4 hkv4 K5⟩)
theorem c_ofSpans (χ:Chi) (h:Heap) (A:Nat→Prop) (hA:Low A h) (v:Value) (W:List SpanD) (hW:RSpans A h v W) (hn:W.length≤100000) (hm:∀s,s∈W→s.ks.length≤100000):
 Cl Tryz.prog χ 20 #[v] h (fun r h'=>RSpans (Up A h h') h' r W∧Keep [] h h'):=by
 obtain ⟨hlen,a,c,rfl,hx⟩:=hW.form
 refine zak Tryz.func20 rfl rfl rfl ?_
 have K:Keep [] h h:=Keep.refl _ _
 refine rG<|rA rfl rfl<|rN<|rG<|rA rfl rfl<|rN<|tr_seq<|rG<|rM rfl rfl<|rs_v (v_len zdf rfl) rfl ?_
 refine rM rfl rfl<|rN<|zaj ?_
 refine zbo (fun m E h'=>∃k v n,k≤W.length∧m=W.length - k∧E= [(3,v),(6,.slice a W.length c),(7,.int .i64 (W.length:Int)),(8,.int .i64 (k:Int))]∧Keep [] h h'∧n=(W.take k).length∧OutR A h h' h.size 40 3 cSpan v n (W.take k)) W.length [(3,_),(6,_),(7,_),(8,_)] ⟨rfl,rfl,rfl,rfl,trivial⟩ ⟨0,_,0,Nat.zero_le _,rfl,rfl,K,rfl,OutR.nil _ _ _ _ _ _ _⟩ ?_
 rintro m E hL1 ⟨k,v,n,hk,rfl,rfl,K,hn,hout⟩
 have hout0:=hout
 obtain ⟨xs,F,O,hrow,hF⟩:=hout
 have hob:=own_ne O;have KL:=Keep.refl [] hL1
 refine rG<|rs_v (v_lt rfl rfl) rfl<|rN<|tr_seq ?_
 refine tr_ifn rfl (fun hif=>?_) (fun hif=>?_)
 ·
  simp only [dT,dF] at hif
  have hkk:k=W.length:=by omega
  subst hkk
  refine zbm<|zay<|zbd<|zbb<|q_thn<|rG<|rM rfl rfl<|rA rfl rfl<|rN<|tr_ret<|q_ret (zao rfl rfl) ?_
  rw [List.take_length] at hout0 hn
  exact ⟨hout0.fin zdr hn (Nat.le_refl _) zme,K⟩
 simp only [dT,dF] at hif
 rcases hx with rfl|⟨b,o,rfl,hAb,hR⟩
 · simp at hif;omega
 obtain ⟨x,hsk⟩:=ex_get (L:=W) (k:=k) (by omega)
 have hkl:k<W.length:=(List.getElem?_eq_some_iff.1 hsk).1
 have KL0:=K.1
 obtain ⟨kv,hcc,hkx⟩:=hR k x hsk
 obtain ⟨ka,kc,rfl⟩:=hkx.form2
 have hcells:=K.cells (by simp) hcc
 have hnk:n=k:=by rw [hn,List.length_take];omega
 refine zah<|q_thn<|tr_seq<|zaj<|rG<|rs_v (zcb zdf zed rfl rfl (by omega)) rfl ?_
 refine rs_v (zbe (vs:= [_,_,_]) zex rfl (by exact hcells)) rfl ?_
 refine rs_w (w_new zfc) rfl ?_
 rintro _ h2 ⟨rfl,B2,K2,Z2⟩
 have O:=O.keep2 K2 (fun x hm=>by have:=hob x hm;simp;try omega)
 have S2:=K.1;have K:=K.new0 K2;have KL:=KL.new0 K2
 refine rs_w0 (w_put zed rfl rfl rfl rfl B2 rfl) ?_
 rintro _ h3 ⟨B3,K3⟩
 have O:=O.keep2 K3 (fun x hm=>by have:=hob x hm;simp;try omega)
 have B2:=B3;have K:=K.new1 K3 (by first|(right;omega)|(left;simp;done));have Z3:=K3.1;have KL:=KL.new1 K3 (.inr (by omega))
 refine rN<|tr_reg<|rM rfl rfl<|rs_v (zbe (vs:= [_,_,_]) zex rfl (by exact B2.sub _ 3 rfl)) rfl ?_
 refine rs_w (w_call (vs:= [_]) zuz rfl ⟨rfl,trivial⟩ (c_ofSpan χ _ A (hA.mono (by omega)) x _ (hkx.stab (K.st hA)) (hm x (List.mem_of_getElem? hsk)))) rfl ?_
 rintro _ h4 ⟨⟨kv4,rfl,hkv4⟩,K4⟩
 obtain ⟨a4,c4,rfl⟩:=hkv4.form2
 have B2:=K4.blk (by simp) B2
 have O:=O.keep2 K4 (fun x hm=>by have:=hob x hm;simp;try omega)
 have K:=K.new0 K4;have Z4:=K4.1;have KL:=KL.new0 K4
 refine rs_w (w_new1 zca zdd zfb rfl rfl rfl rfl rfl) rfl ?_
 rintro _ h5 ⟨rfl,B5,K5,Z5⟩
 have B2:=K5.blk (by simp) B2
 have O:=O.keep2 K5 (fun x hm=>by have:=hob x hm;simp;try omega)
 have S5:=K.1;have K:=K.new0 K5;have KL:=KL.new0 K5
 refine rs_w (w_app1 zca zmq rfl rfl rfl O rfl rfl B5 rfl (by omega) (by omega) (by omega)) rfl ?_
 rintro v6 h6 ⟨O6,K6,N6,F6⟩
 have K:=K.newX K6 (fun x hm=>.inr (by have:=hob x hm;omega));have Z6:=K6.1
 have B2:=K6.blk (fun hm=>by first|(have:=hob _ hm;omega)|exact absurd rfl (hnb _ hm)) B2
 have B5:=K6.blk (fun hm=>by first|(have:=hob _ hm;omega)|exact absurd rfl (hnb _ hm)) B5
 refine rA rfl rfl<|rs_nil<|zbc<|q_thn<|tr_reg<|rs_v (v_add rfl rfl (by omega) (by omega)) rfl ?_
 refine rM rfl rfl<|rs_nil ?_
 refine q_lp (W.length - (k+1)) [(3,_),(6,_),(7,_),(8,_)] (by omega) ⟨rfl,rfl,rfl,rfl,trivial⟩ ⟨k+1,v6,n+1,by omega,rfl,rfl,K,?_,?_⟩
 · rw [zbt hsk];rw [List.length_append,←hn];rfl
 · rw [zbt hsk]
   exact OutR.snoc zdr hA (by omega) hob hrow hF KL0 KL O6 K6 F6 rfl (⟨_,rfl,upk3 (hA.mono (by omega)) (by omega) K4 hkv4 K5⟩)
def KeyD.small (k:KeyD):Prop:=k.suf.size≤9223372036854775807∧k.val.size≤9223372036854775807
def SpanD.small (s:SpanD):Prop:=s.s.size≤9223372036854775807∧s.e.size≤9223372036854775807∧s.ks.length≤100000∧∀k,k∈s.ks→KeyD.small k
abbrev N0:Nat→Prop:=fun _=>False
theorem n0low (h:Heap):Low N0 h:=fun _ hb=>hb.elim
theorem n0up {A:Nat→Prop} {h0 h1 h h':Heap} (k0:h0.size≤h.size) (k1:h'.size≤h1.size):∀b,Up N0 h h' b→Up A h0 h1 b:=fun _ hb=>by
 rcases hb with hb|hb
 · exact hb.elim
 · exact .inr ⟨Nat.le_trans k0 hb.1,Nat.lt_of_lt_of_le hb.2 k1⟩
theorem upb {A:Nat→Prop} {h h1 h2:Heap} {v:Value} {s:ByteArray} (hA:Low A h) (k0:h.size≤h1.size) (hr:RBytes (Up A h h1) h1 v s) (K:Keep [] h1 h2):RBytes (Up A h h2) h2 v s:=
 (hr.stab (K.st (hA.up k0))).mono (Up.grow K.1)
theorem upp {A:Nat→Prop} {h h1 h2:Heap} {v:Value} {s:List KeyD} (hA:Low A h) (k0:h.size≤h1.size) (hr:PKeys (Up A h h1) h1 v s) (K:Keep [] h1 h2):PKeys (Up A h h2) h2 v s:=
 (hr.stab (K.st (hA.up k0))).mono (Up.grow K.1)
theorem zhg {a b:ByteArray}:seq' a b=true↔a=b:=by
 simp only [seq',Lib.toList_data,beq_iff_eq]
 constructor
 · intro e
   cases a;cases b
   rename_i x y
   congr 1
   exact Array.ext' e
 · rintro rfl;rfl
theorem RBytes.form2 {A:Nat→Prop} {h:Heap} {v:Value} {s:ByteArray} (hr:RBytes A h v s):∃a n c,v=.slice a n c:=by
 obtain ⟨a,c,e⟩:=SlR.form2 hr
 exact ⟨a,_,c,e⟩
theorem PKeys.form2 {A:Nat→Prop} {h:Heap} {v:Value} {s:List KeyD} (hr:PKeys A h v s):∃a n c,v=.slice a n c:=by
 obtain ⟨a,c,e⟩:=SlR.form2 hr
 exact ⟨a,_,c,e⟩
theorem RBytes.empty (A:Nat→Prop) (h:Heap):RBytes A h (.slice none 0 0) ByteArray.empty:=SlR.nil _ _ _ _
theorem c_maybe (χ:Chi) (h:Heap) (s:ByteArray) (hs:s.size≤9223372036854775807):
 Cl Tryz.prog χ 121 #[.string s] h (fun r h'=>RBytes (Up N0 h h') h' r s∧Keep [] h h'):=by
 refine zak Tryz.func121 rfl rfl rfl ?_
 have K:Keep [] h h:=Keep.refl _ _
 refine rG<|rA rfl rfl<|rN<|tr_seq<|rG<|rM rfl rfl<|rs_v (v_seq rfl rfl) rfl ?_
 refine rN ?_
 refine tr_if rfl (fun hif=>?_) (fun hif=>?_)
 ·
  skip
  refine rG<|rA rfl rfl<|rN<|tr_ret<|zaz<|q_ret (zao rfl rfl) ?_
  have e:=zhg.1 hif
  subst e
  exact ⟨RBytes.empty _ _,K⟩
 skip
 refine zah<|q_thn<|rG<|rM rfl rfl<|rs_w (zmg zeg zdk zgd rfl (by omega)) rfl ?_
 rintro _ h1 ⟨c1,rfl,K1,hb1⟩
 have K:=K.new0 K1;have Z1:=K1.1
 refine rA rfl rfl<|rN<|tr_ret<|q_ret (zao rfl rfl) ?_
 exact ⟨hb1.mono (fun b hb=>.inr hb),K⟩
theorem c_spanKeys (χ:Chi) (h:Heap) (A:Nat→Prop) (hA:Low A h) (kv:Value) (ks:List KeyD) (hk:RKeys A h kv ks) (hn:ks.length≤100000) (hm:∀k,k∈ks→KeyD.small k):
 Cl Tryz.prog χ 94 #[kv] h (fun r h'=>PKeys (Up N0 h h') h' r ks∧Keep [] h h'):=by
 obtain ⟨hlen,a,c,rfl,hx⟩:=hk.form
 refine zak Tryz.func94 rfl rfl rfl ?_
 have K:Keep [] h h:=Keep.refl _ _
 refine rG<|rA rfl rfl<|rN<|rG<|rA rfl rfl<|rN<|tr_seq<|rG<|rM rfl rfl<|rs_v (v_len zfe rfl) rfl ?_
 refine rM rfl rfl<|rN<|zaj ?_
 refine zbo (fun m E h'=>∃k v n,k≤ks.length∧m=ks.length - k∧E= [(3,v),(6,.slice a ks.length c),(7,.int .i64 (ks.length:Int)),(8,.int .i64 (k:Int))]∧Keep [] h h'∧n=(ks.take k).length∧OutR N0 h h' h.size 213 3 cPKey v n (ks.take k)) ks.length [(3,_),(6,_),(7,_),(8,_)] ⟨rfl,rfl,rfl,rfl,trivial⟩ ⟨0,_,0,Nat.zero_le _,rfl,rfl,K,rfl,OutR.nil _ _ _ _ _ _ _⟩ ?_
 rintro m E hL1 ⟨k,v,n,hk,rfl,rfl,K,hn,hout⟩
 have hout0:=hout
 obtain ⟨xs,F,O,hrow,hF⟩:=hout
 have hob:=own_ne O;have KL:=Keep.refl [] hL1
 refine rG<|rs_v (v_lt rfl rfl) rfl<|rN<|tr_seq ?_
 refine tr_ifn rfl (fun hif=>?_) (fun hif=>?_)
 ·
  simp only [dT,dF] at hif
  have hkk:k=ks.length:=by omega
  subst hkk
  refine zbm<|zay<|zbd<|zbb<|q_thn<|rG<|rM rfl rfl<|rA rfl rfl<|rN<|tr_ret<|q_ret (zao rfl rfl) ?_
  rw [List.take_length] at hout0 hn
  exact ⟨hout0.fin cPKey_st hn (Nat.le_refl _) cPKey_r,K⟩
 simp only [dT,dF] at hif
 rcases hx with rfl|⟨b,o,rfl,hAb,hR⟩
 · simp at hif;omega
 obtain ⟨x,hsk⟩:=ex_get (L:=ks) (k:=k) (by omega)
 have hkl:k<ks.length:=(List.getElem?_eq_some_iff.1 hsk).1
 have KL0:=K.1
 have hnk:n=k:=by rw [hn,List.length_take];omega
 have hcells:=K.cells (by simp) (hR k x hsk)
 refine zah<|q_thn<|tr_seq<|zaj<|rG<|rs_v (zcb zfe zgw rfl rfl (by omega)) rfl ?_
 refine rs_v (zbe (vs:= [_,_,_]) zki rfl (by exact hcells)) rfl ?_
 refine rs_w (w_new zio) rfl ?_
 rintro _ h2 ⟨rfl,B2,K2,Z2⟩
 have O:=O.keep2 K2 (fun x hm=>by have:=hob x hm;simp;try omega)
 have S2:=K.1;have K:=K.new0 K2;have KL:=KL.new0 K2
 refine rs_w0 (w_put zgw rfl rfl rfl rfl B2 rfl) ?_
 rintro _ h3 ⟨B3,K3⟩
 have O:=O.keep2 K3 (fun x hm=>by have:=hob x hm;simp;try omega)
 have B2:=B3;have K:=K.new1 K3 (by first|(right;omega)|(left;simp;done));have Z3:=K3.1;have KL:=KL.new1 K3 (.inr (by omega))
 refine rN ?_
 have S0:hL1.size≤h3.size:=KL.1
 obtain ⟨hz1,hz2⟩:=hm x (List.mem_of_getElem? hsk)
 refine zch [(true,11),(false,2)] _ (by kernel_rfl) (by kernel_rfl) (by kernel_rfl) ?_
 refine rx_any (Keep []) (zaa _) ?_
 refine rm_v (zaa _) (fun h' hk=>v_move rfl) ?_
 refine rm_v (zaa _) (fun h' hk=>zac ztb rfl) ?_
 refine rm_v (zaa _) (fun h' hk=>v_load zfj rfl (Blk.cell (hk.blk (by simp) B2) _ rfl)) ?_
 refine rm_v (zaa _) (fun h' hk=>zac ztc rfl) ?_
 refine rm_v (zaa _) (fun h' hk=>v_load zcn rfl (Blk.cell (hk.blk (by simp) B2) _ rfl)) ?_
 refine rm_w (fun v h'=>RBytes (Up N0 h3 h') h' v x.suf) (fun v _ _ k1 k2 hr=>upb (n0low _) k1.1 hr k2) (fun h' hk=>OpW.mono (w_call (vs:= [_]) zrz rfl ⟨rfl,trivial⟩ (c_maybe χ h' x.suf hz1)) (fun v h'' hv=>⟨hv.2,hv.1.mono (n0up hk.1 (Nat.le_refl _))⟩)) ?_
 refine rm_v (zaa _) (fun h' hk=>zac ztd rfl) ?_
 refine rm_v (zaa _) (fun h' hk=>v_load zcn rfl (Blk.cell (hk.blk (by simp) B2) _ rfl)) ?_
 refine rm_w (fun v h'=>RBytes (Up N0 h3 h') h' v x.val) (fun v _ _ k1 k2 hr=>upb (n0low _) k1.1 hr k2) (fun h' hk=>OpW.mono (w_call (vs:= [_]) zrz rfl ⟨rfl,trivial⟩ (c_maybe χ h' x.val hz2)) (fun v h'' hv=>⟨hv.2,hv.1.mono (n0up hk.1 (Nat.le_refl _))⟩)) ?_
 refine rm_o2 17 20 (fun v h'=>∃sv vv,v=.agg #[.int .u64 x.tr,sv,vv]∧RBytes (Up N0 h3 h') h' sv x.suf∧RBytes (Up N0 h3 h') h' vv x.val) rfl rfl rfl (by kernel_rfl) (by kernel_rfl)
  (fun v _ _ k1 k2 hr=>by obtain ⟨sv,vv,e,r1,r2⟩:=hr;exact ⟨sv,vv,e,upb (n0low _) k1.1 r1 k2,upb (n0low _) k1.1 r2 k2⟩)
  (fun u u2 h' hk hu hu2=>by
   obtain ⟨a1,n1,c1,rfl⟩:=hu.form2
   obtain ⟨a2,n2,c2,rfl⟩:=hu2.form2
   exact (zer rfl rfl rfl (zqm _ _ _ _ _ _ _)).w.mono (fun _ _ e=>by obtain ⟨e1,e2⟩:=e;subst e1;subst e2;exact ⟨Keep.refl _ _,_,_,rfl,hu,hu2⟩)) ?_
 refine rm_o 21 (fun v h'=>∃g sv vv,v=.slice (some ⟨g,0,none⟩) 1 1∧Blk h' g [.int .u64 x.tr,sv,vv] 213∧RBytes (Up N0 h3 h') h' sv x.suf∧RBytes (Up N0 h3 h') h' vv x.val) rfl (by kernel_rfl)
  (fun v _ _ k1 k2 hr=>by obtain ⟨g,sv,vv,e,B,r1,r2⟩:=hr;exact ⟨g,sv,vv,e,k2.blk (by simp) B,upb (n0low _) k1.1 r1 k2,upb (n0low _) k1.1 r2 k2⟩)
  (fun u h' hk hu=>by
   obtain ⟨sv,vv,rfl,r1,r2⟩:=hu
   exact OpW.mono (w_new1 zec zbv zja rfl rfl rfl rfl rfl) (fun v h'' hv=>by
    obtain ⟨e,B,K',_⟩:=hv
    exact ⟨K',_,_,_,e,B,upb (n0low _) hk.1 r1 K',upb (n0low _) hk.1 r2 K'⟩)) ?_
 refine rm_end ?_;intro ha Ka;simp only [endM,hypF,ofE,argE,List.nil_append]
 intro v22 hv22 v21 _ v20 _ v17 _
 obtain ⟨g,sv,vv,rfl,Bg,r1,r2⟩:=hv22
 obtain ⟨a1,n1,c1,rfl⟩:=r1.form2
 obtain ⟨a2,n2,c2,rfl⟩:=r2.form2
 have O:=O.keep2 Ka (by simp)
 have K:=K.new0 Ka;have Za:=Ka.1
 have KL:=KL.new0 Ka
 refine rx_seq<|rs_w (w_app1 zec zks rfl rfl rfl O rfl rfl Bg rfl (by omega) (by omega) (by omega)) rfl ?_
 rintro v4 h4 ⟨O4,K4,N4,F4⟩
 have K:=K.newX K4 (fun x hm=>.inr (by have:=hob x hm;omega));have Z4:=K4.1
 refine rA rfl rfl<|rs_nil<|q_con ?_
 refine rx_nil ?_
 refine zbc<|q_thn<|tr_reg<|rs_v (v_add rfl rfl (by omega) (by omega)) rfl ?_
 refine rM rfl rfl<|rs_nil ?_
 refine q_lp (ks.length - (k+1)) [(3,_),(6,_),(7,_),(8,_)] (by omega) ⟨rfl,rfl,rfl,rfl,trivial⟩ ⟨k+1,v4,n+1,by omega,rfl,rfl,K,?_,?_⟩
 · rw [zbt hsk];rw [List.length_append,←hn];rfl
 · rw [zbt hsk]
   exact OutR.snoc cPKey_st (n0low h) (by omega) hob hrow hF KL0 KL O4 K4 F4 rfl (⟨_,_,rfl,r1.mono (n0up S0 (Nat.le_refl _)),r2.mono (n0up S0 (Nat.le_refl _))⟩)
theorem c_plainKeys (χ:Chi) (h:Heap) (A:Nat→Prop) (hA:Low A h) (kv:Value) (ks:List KeyD) (hk:PKeys A h kv ks) (hn:ks.length≤100000):
 Cl Tryz.prog χ 84 #[kv] h (fun r h'=>RKeys (Up N0 h h') h' r ks∧Keep [] h h'):=by
 obtain ⟨hlen,a,c,rfl,hx⟩:=hk.form
 refine zak Tryz.func84 rfl rfl rfl ?_
 have K:Keep [] h h:=Keep.refl _ _
 refine rG<|rA rfl rfl<|rN<|rG<|rA rfl rfl<|rN<|tr_seq<|rG<|rM rfl rfl<|rs_v (v_len zec rfl) rfl ?_
 refine rM rfl rfl<|rN<|zaj ?_
 refine zbo (fun m E h'=>∃k v n,k≤ks.length∧m=ks.length - k∧E= [(3,v),(6,.slice a ks.length c),(7,.int .i64 (ks.length:Int)),(8,.int .i64 (k:Int))]∧Keep [] h h'∧n=(ks.take k).length∧OutR N0 h h' h.size 267 3 cKey v n (ks.take k)) ks.length [(3,_),(6,_),(7,_),(8,_)] ⟨rfl,rfl,rfl,rfl,trivial⟩ ⟨0,_,0,Nat.zero_le _,rfl,rfl,K,rfl,OutR.nil _ _ _ _ _ _ _⟩ ?_
 rintro m E hL1 ⟨k,v,n,hk,rfl,rfl,K,hn,hout⟩
 have hout0:=hout
 obtain ⟨xs,F,O,hrow,hF⟩:=hout
 have hob:=own_ne O;have KL:=Keep.refl [] hL1
 refine rG<|rs_v (v_lt rfl rfl) rfl<|rN<|tr_seq ?_
 refine tr_ifn rfl (fun hif=>?_) (fun hif=>?_)
 ·
  simp only [dT,dF] at hif
  have hkk:k=ks.length:=by omega
  subst hkk
  refine zbm<|zay<|zbd<|zbb<|q_thn<|rG<|rM rfl rfl<|rA rfl rfl<|rN<|tr_ret<|q_ret (zao rfl rfl) ?_
  rw [List.take_length] at hout0 hn
  exact ⟨hout0.fin zmd hn (Nat.le_refl _) cKey_r,K⟩
 simp only [dT,dF] at hif
 rcases hx with rfl|⟨b,o,rfl,hAb,hR⟩
 · simp at hif;omega
 obtain ⟨x,hsk⟩:=ex_get (L:=ks) (k:=k) (by omega)
 have hkl:k<ks.length:=(List.getElem?_eq_some_iff.1 hsk).1
 have KL0:=K.1
 have hnk:n=k:=by rw [hn,List.length_take];omega
 obtain ⟨sv,vv,hcc,r1,r2⟩:=hR k x hsk
 obtain ⟨a1,n1,c1,rfl⟩:=r1.form2
 obtain ⟨a2,n2,c2,rfl⟩:=r2.form2
 have hcells:=K.cells (by simp) hcc
 refine zah<|q_thn<|tr_seq<|zaj<|rG<|rs_v (zcb zec zbv rfl rfl (by omega)) rfl ?_
 refine rs_v (zbe (vs:= [_,_,_]) zfr rfl (by exact hcells)) rfl ?_
 refine rs_w (w_new zja) rfl ?_
 rintro _ h2 ⟨rfl,B2,K2,Z2⟩
 have O:=O.keep2 K2 (fun x hm=>by have:=hob x hm;simp;try omega)
 have S2:=K.1;have K:=K.new0 K2;have KL:=KL.new0 K2
 refine rs_w0 (w_put zbv rfl rfl rfl rfl B2 rfl) ?_
 rintro _ h3 ⟨B3,K3⟩
 have O:=O.keep2 K3 (fun x hm=>by have:=hob x hm;simp;try omega)
 have B2:=B3;have K:=K.new1 K3 (by first|(right;omega)|(left;simp;done));have Z3:=K3.1;have KL:=KL.new1 K3 (.inr (by omega))
 refine rN<|tr_reg<|rM rfl rfl<|rF zgv rfl rfl<|rs_v (v_load zfj rfl (by exact B2.cell _ rfl)) rfl ?_
 refine rF ztv rfl rfl<|rs_v (v_load zas rfl (by exact B2.cell _ rfl)) rfl ?_
 refine rs_v (v_toStr zdk zgd zeg rfl (RBytes.by (r1.stab (K.st hA)))) rfl ?_
 refine rF ztw rfl rfl<|rs_v (v_load zas rfl (by exact B2.cell _ rfl)) rfl ?_
 refine rs_v (v_toStr zdk zgd zeg rfl (RBytes.by (r2.stab (K.st hA)))) rfl ?_
 refine rs_v (zer rfl rfl rfl (zpw _ _ _)) rfl ?_
 refine rs_w (w_new1 zfe zgw zio rfl rfl rfl rfl rfl) rfl ?_
 rintro _ h4 ⟨rfl,B4,K4,Z4⟩
 have B2:=K4.blk (by simp) B2
 have O:=O.keep2 K4 (fun x hm=>by have:=hob x hm;simp;try omega)
 have S4:=K.1;have K:=K.new0 K4;have KL:=KL.new0 K4
 refine rs_w (w_app1 zfe zny rfl rfl rfl O rfl rfl B4 rfl (by omega) (by omega) (by omega)) rfl ?_
 rintro v5 h5 ⟨O5,K5,N5,F5⟩
 have K:=K.newX K5 (fun x hm=>.inr (by have:=hob x hm;omega));have Z5:=K5.1
 have B2:=K5.blk (fun hm=>by first|(have:=hob _ hm;omega)|exact absurd rfl (hnb _ hm)) B2
 have B4:=K5.blk (fun hm=>by first|(have:=hob _ hm;omega)|exact absurd rfl (hnb _ hm)) B4
 refine rA rfl rfl<|rs_nil<|zbc<|q_thn<|tr_reg<|rs_v (v_add rfl rfl (by omega) (by omega)) rfl ?_
 refine rM rfl rfl<|rs_nil ?_
 refine q_lp (ks.length - (k+1)) [(3,_),(6,_),(7,_),(8,_)] (by omega) ⟨rfl,rfl,rfl,rfl,trivial⟩ ⟨k+1,v5,n+1,by omega,rfl,rfl,K,?_,?_⟩
 · rw [zbt hsk];rw [List.length_append,←hn];rfl
 · rw [zbt hsk]
   exact OutR.snoc zmd (n0low h) (by omega) hob hrow hF KL0 KL O5 K5 F5 rfl (show _=_ from rfl)
theorem zso {A:Nat→Prop} {h h2 ha h3:Heap} {b0:Nat} (hA:Low A h) (S0:h.size≤h2.size) (Za:h2.size≤ha.size) (K3:Keep [b0] ha h3) (h1:h.size≤b0) (h2':b0<h2.size):Stab (Up A h2 ha) ha h3:=
 K3.stab fun b hb=>⟨(hA.mono S0).up Za b hb,by
  rcases hb with hb|hb
  · have:=hA b hb;simp;omega
  · simp;omega⟩
theorem c_span (χ:Chi) (h:Heap) (A:Nat→Prop) (hA:Low A h) (s:SpanD) (kv:Value) (hks:RKeys A h kv s.ks) (hm:SpanD.small s):
 Cl Tryz.prog χ 49 #[.agg #[.string s.s,.string s.e,kv]] h
  (fun r h'=>(∃sv ev kv',r=.agg #[sv,ev,kv',.int .i8 0]∧RBytes (Up N0 h h') h' sv s.s∧RBytes (Up N0 h h') h' ev s.e∧PKeys (Up N0 h h') h' kv' s.ks)∧Keep [] h h'):=by
 obtain ⟨ka,kc,rfl⟩:=hks.form2
 refine zak Tryz.func49 rfl rfl rfl ?_
 have K:Keep [] h h:=Keep.refl _ _
 refine rG<|rs_w (zdx rfl) rfl ?_
 rintro _ h1 ⟨rfl,B1,K1,Z1⟩
 have S1:=K.1;have K:=K.new0 K1
 refine rs_w (w_new zdv) rfl ?_
 rintro _ h2 ⟨rfl,B2,K2,Z2⟩
 have B1:=K2.blk (by simp) B1
 have S2:=K.1;have K:=K.new0 K2
 refine rN<|tr_seq ?_
 have S0:h.size≤h2.size:=K.1
 have hA2:=hA.mono S0
 refine zch [(true,10),(false,1)] _ (by kernel_rfl) (by kernel_rfl) (by kernel_rfl) ?_
 refine rx_any (Keep []) (zaa _) ?_
 refine rm_v (zaa _) (fun h' hk=>zac zmj rfl) ?_
 refine rm_v (zaa _) (fun h' hk=>v_load zcn rfl (Blk.cell (hk.blk (by simp) B1) _ rfl)) ?_
 refine rm_w (fun v h'=>RBytes (Up N0 h2 h') h' v s.s) (fun v _ _ k1 k2 hr=>upb (n0low _) k1.1 hr k2) (fun h' hk=>OpW.mono (zmg zeg zdk zgd rfl hm.1) (fun v h'' hv=>by
  obtain ⟨c,e,K',r⟩:=hv
  exact ⟨K',r.mono (fun b hb=>.inr ⟨by have:=hk.1;omega,hb.2⟩)⟩)) ?_
 refine rm_v (zaa _) (fun h' hk=>zac zmk rfl) ?_
 refine rm_v (zaa _) (fun h' hk=>v_load zcn rfl (Blk.cell (hk.blk (by simp) B1) _ rfl)) ?_
 refine rm_w (fun v h'=>RBytes (Up N0 h2 h') h' v s.e) (fun v _ _ k1 k2 hr=>upb (n0low _) k1.1 hr k2) (fun h' hk=>OpW.mono (zmg zeg zdk zgd rfl hm.2.1) (fun v h'' hv=>by
  obtain ⟨c,e,K',r⟩:=hv
  exact ⟨K',r.mono (fun b hb=>.inr ⟨by have:=hk.1;omega,hb.2⟩)⟩)) ?_
 refine rm_v (zaa _) (fun h' hk=>zac zml rfl) ?_
 refine rm_v (zaa _) (fun h' hk=>v_load zjh rfl (Blk.cell (hk.blk (by simp) B1) _ rfl)) ?_
 refine rm_w (fun v h'=>PKeys (Up N0 h2 h') h' v s.ks) (fun v _ _ k1 k2 hr=>upp (n0low _) k1.1 hr k2) (fun h' hk=>OpW.mono (w_call (vs:= [_]) zot rfl ⟨rfl,trivial⟩ (c_spanKeys χ h' A (hA.mono (K.new0 hk).1) _ s.ks (hks.stab ((K.new0 hk).st hA)) hm.2.2.1 hm.2.2.2)) (fun v h'' hv=>⟨hv.2,hv.1.mono (Up.trans2 hk.1 (Nat.le_refl _))⟩)) ?_
 refine rm_o3 5 8 11 (fun v h'=>∃sv ev kv',v=.agg #[sv,ev,kv',.int .i8 0]∧RBytes (Up N0 h2 h') h' sv s.s∧RBytes (Up N0 h2 h') h' ev s.e∧PKeys (Up N0 h2 h') h' kv' s.ks) rfl rfl rfl rfl rfl rfl (by kernel_rfl) (by kernel_rfl) (by kernel_rfl)
  (fun v _ _ k1 k2 hr=>by obtain ⟨a,b,c,e,r1,r2,r3⟩:=hr;exact ⟨a,b,c,e,upb (n0low _) k1.1 r1 k2,upb (n0low _) k1.1 r2 k2,upp (n0low _) k1.1 r3 k2⟩)
  (fun u u2 u3 h' hk hu hu2 hu3=>by
   obtain ⟨a1,n1,c1,rfl⟩:=hu.form2
   obtain ⟨a2,n2,c2,rfl⟩:=hu2.form2
   obtain ⟨a3,n3,c3,rfl⟩:=hu3.form2
   exact (zer rfl rfl rfl (zgb _ _ _ _ _ _ _ _ _)).w.mono (fun _ _ e=>by obtain ⟨e1,e2⟩:=e;subst e1;subst e2;exact ⟨Keep.refl _ _,_,_,_,rfl,hu,hu2,hu3⟩)) ?_
 refine rm_end ?_;intro ha Ka;simp only [endM,hypF,ofE,argE,List.nil_append]
 intro v12 hv12 v11 _ v8 _ v5 _
 obtain ⟨sv,ev,kv',rfl,r1,r2,r3⟩:=hv12
 obtain ⟨a1,n1,c1,rfl⟩:=r1.form2
 obtain ⟨a2,n2,c2,rfl⟩:=r2.form2
 obtain ⟨a3,n3,c3,rfl⟩:=r3.form2
 have B2:=Ka.blk (by simp) B2
 have K:=K.new0 Ka;have Za:=Ka.1
 refine rx_seq<|rs_w0 (w_put zax rfl rfl rfl rfl B2 rfl) ?_
 rintro _ h3 ⟨B3,K3⟩
 have K:=K.new1 K3 (.inr (by omega))
 refine rs_nil<|q_con ?_
 refine rx_nil ?_
 refine q_thn<|tr_ret<|q_ret (zom (vs:= [_,_,_,_]) rfl rfl zct (by exact B3.sub 0 4 rfl)) ?_
 have hs:=zso (n0low h) S0 Za K3 (by omega) (by omega)
 exact ⟨⟨_,_,_,rfl,(r1.stab hs).mono (Up.trans2 S0 K3.1),(r2.stab hs).mono (Up.trans2 S0 K3.1),(r3.stab hs).mono (Up.trans2 S0 K3.1)⟩,K⟩
theorem zqb (χ:Chi) (h:Heap) (A:Nat→Prop) (hA:Low A h) (s:SpanD) (sv ev kv:Value) (kk:Int) (r1:RBytes A h sv s.s) (r2:RBytes A h ev s.e) (r3:PKeys A h kv s.ks) (hn:s.ks.length≤100000):
 Cl Tryz.prog χ 39 #[.agg #[sv,ev,kv,.int .i8 0]] h (fun r h'=>(∃kv',r=.agg #[.string s.s,.string s.e,kv']∧RKeys (Up N0 h h') h' kv' s.ks)∧Keep [] h h'):=by
 obtain ⟨a1,n1,c1,rfl⟩:=r1.form2
 obtain ⟨a2,n2,c2,rfl⟩:=r2.form2
 obtain ⟨a3,n3,c3,rfl⟩:=r3.form2
 refine zak Tryz.func39 rfl rfl rfl ?_
 have K:Keep [] h h:=Keep.refl _ _
 refine rG<|rs_w (zdx rfl) rfl ?_
 rintro _ h1 ⟨rfl,B1,K1,Z1⟩
 have S1:=K.1;have K:=K.new0 K1
 refine rs_w (w_new zfc) rfl ?_
 rintro _ h2 ⟨rfl,B2,K2,Z2⟩
 have B1:=K2.blk (by simp) B1
 have S2:=K.1;have K:=K.new0 K2
 refine rN<|tr_seq ?_
 have S0:h.size≤h2.size:=K.1
 have hA2:=hA.mono S0
 refine zch [(true,10),(false,1)] _ (by kernel_rfl) (by kernel_rfl) (by kernel_rfl) ?_
 refine rx_any (Keep []) (zaa _) ?_
 refine rm_v (zaa _) (fun h' hk=>zac zcg rfl) ?_
 refine rm_v (zaa _) (fun h' hk=>v_load zas rfl (Blk.cell (hk.blk (by simp) B1) _ rfl)) ?_
 refine rm_v (zaa _) (fun h' hk=>v_toStr zdk zgd zeg rfl (RBytes.by (r1.stab ((K.new0 hk).st hA)))) ?_
 refine rm_v (zaa _) (fun h' hk=>zac zcu rfl) ?_
 refine rm_v (zaa _) (fun h' hk=>v_load zas rfl (Blk.cell (hk.blk (by simp) B1) _ rfl)) ?_
 refine rm_v (zaa _) (fun h' hk=>v_toStr zdk zgd zeg rfl (RBytes.by (r2.stab ((K.new0 hk).st hA)))) ?_
 refine rm_v (zaa _) (fun h' hk=>zac zdm rfl) ?_
 refine rm_v (zaa _) (fun h' hk=>v_load zdz rfl (Blk.cell (hk.blk (by simp) B1) _ rfl)) ?_
 refine rm_w (fun v h'=>RKeys (Up N0 h2 h') h' v s.ks) (fun v _ _ k1 k2 hr=>upk (n0low _) k1.1 hr k2) (fun h' hk=>OpW.mono (w_call (vs:= [_]) ztl rfl ⟨rfl,trivial⟩ (c_plainKeys χ h' A (hA.mono (K.new0 hk).1) _ s.ks (r3.stab ((K.new0 hk).st hA)) hn)) (fun v h'' hv=>⟨hv.2,hv.1.mono (Up.trans2 hk.1 (Nat.le_refl _))⟩)) ?_
 refine rm_o 11 (fun v h'=>∃kv',v=.agg #[.string s.s,.string s.e,kv']∧RKeys (Up N0 h2 h') h' kv' s.ks) rfl (by kernel_rfl) (fun v _ _ k1 k2 hr=>by obtain ⟨kv',e,hr⟩:=hr;exact ⟨kv',e,upk (n0low _) k1.1 hr k2⟩) (fun u h' hk hu=>by
  obtain ⟨a,c,rfl⟩:=hu.form2
  exact (zer rfl rfl rfl (zmb _ _ _ _ _)).w.mono (fun _ _ e=>by obtain ⟨e1,e2⟩:=e;subst e1;subst e2;exact ⟨Keep.refl _ _,_,rfl,hu⟩)) ?_
 refine rm_end ?_;intro ha Ka;simp only [endM,hypF,ofE,argE,List.nil_append]
 intro v12 hv12 v11 _
 obtain ⟨kv',rfl,hkv⟩:=hv12
 obtain ⟨ka',kc',rfl⟩:=hkv.form2
 have B2:=Ka.blk (by simp) B2
 have K:=K.new0 Ka;have Za:=Ka.1
 refine rx_seq<|rs_w0 (w_put zed rfl rfl rfl rfl B2 rfl) ?_
 rintro _ h3 ⟨B3,K3⟩
 have K:=K.new1 K3 (.inr (by omega))
 refine rs_nil<|q_con ?_
 refine rx_nil ?_
 refine q_thn<|tr_ret<|q_ret (zom (vs:= [_,_,_]) rfl rfl zex (by exact B3.sub 0 3 rfl)) ?_
 have hs:=zso (n0low h) S0 Za K3 (by omega) (by omega)
 exact ⟨⟨_,rfl,(hkv.stab hs).mono (Up.trans2 S0 K3.1)⟩,K⟩
def cmpF:Value:=.func (.func 72) #[] #[]
def itL (sv:Value) (x:Int):List Value:= [cmpF,sv,.int .i64 x]
theorem zgh (χ:Chi) (h:Heap) (a b:Value) (s u:ByteArray) (ha:RBy h a s) (hb:RBy h b u):
 Cl Tryz.prog χ 72 #[a,b] h (fun r h'=>r=.int .i64 (cmpB s u)∧h'=h):=by
 refine zak Tryz.func72 rfl rfl rfl ?_
 have K:Keep [] h h:=Keep.refl _ _
 refine rG<|rA rfl rfl<|rN<|rG<|rM rfl rfl<|rM rfl rfl<|rs_v (v_cmp (s:=s) (u:=u) Tryz.func113 (by kernel_rfl) (by kernel_rfl) (by kernel_rfl) (by kernel_rfl) rfl rfl rfl ha hb) rfl ?_
 refine rA rfl rfl<|rN<|tr_ret<|q_ret (zao rfl rfl) ?_
 exact ⟨rfl,rfl⟩
theorem zip (χ:Chi) (h:Heap):
 Cl Tryz.prog χ 33 #[] h (fun r h'=>r=.pointer (some ⟨h.size,0,none⟩)∧(∃rest,Blk h' h.size (cmpF::rest) 120)∧Keep [] h h'):=by
 refine zak Tryz.func33 rfl rfl rfl ?_
 have K:Keep [] h h:=Keep.refl _ _
 refine rG<|rA rfl rfl<|rN<|rG<|rs_v (v_buildN (us:= [_,_,_,_,_,_,_]) ⟨rfl,rfl,rfl,rfl,rfl,rfl,rfl,trivial⟩ (zld _ _ _ _ _ _ _ _ _ _ _ _ _ _ _ _ _ _ _)) rfl ?_
 refine rs_w (zdx rfl) rfl ?_
 rintro _ h1 ⟨rfl,B1,K1,Z1⟩
 have S1:=K.1;have K:=K.new0 K1
 refine rA rfl rfl<|rN<|tr_ret<|q_ret (zao rfl rfl) ?_
 exact ⟨rfl,⟨_,B1⟩,K⟩
theorem c_Init (χ:Chi) (h:Heap) (c:Nat) (a:Option Addr) (n cc:Nat) (f:Value) (T:TypeId) (s2:Value) (x:Int) (Bc:Blk h c [f,s2,.int .i64 x] T):
 Cl Tryz.prog χ 105 #[.pointer (some ⟨c,0,none⟩),cmpF,.slice a n cc] h (fun r h'=>r=.tuple #[]∧Blk h' c (itL (.slice a n cc) (-1)) T∧Keep [c] h h'):=by
 unfold cmpF
 refine zak Tryz.func105 rfl rfl rfl ?_
 have K:Keep [c] h h:=Keep.refl _ _
 refine tr_reg<|rM rfl rfl<|rM rfl rfl<|rM rfl rfl<|rs_v (zer rfl rfl rfl (zpv _ _ _ _ _ _ _)) rfl ?_
 refine rC rfl rfl<|rs_w0 (w_put ztx rfl rfl rfl rfl Bc rfl) ?_
 rintro _ h1 ⟨B1,K1⟩
 have Bc:=B1;have K:=K.new1 K1 (by first|(right;omega)|(left;simp;done));have Z1:=K1.1
 refine rs_nil ?_
 refine q_end (zby rfl) ?_
 exact ⟨rfl,Bc,K⟩
theorem c_NewIter (χ:Chi) (h:Heap) (a:Option Addr) (n cc:Nat):
 Cl Tryz.prog χ 64 #[cmpF,.slice a n cc] h (fun r h'=>r=.pointer (some ⟨h.size,0,none⟩)∧Blk h' h.size (itL (.slice a n cc) (-1)) 250∧Keep [] h h'):=by
 refine zak Tryz.func64 rfl rfl rfl ?_
 have K:Keep [] h h:=Keep.refl _ _
 refine rG<|rA rfl rfl<|rN<|rG<|rs_v (v_build0 (zte)) rfl ?_
 refine rs_w (zdx rfl) rfl ?_
 rintro _ h1 ⟨rfl,B1,K1,Z1⟩
 have S1:=K.1;have K:=K.new0 K1
 refine rA rfl rfl<|rN<|rG<|rM rfl rfl<|rM rfl rfl<|rM rfl rfl<|rs_w (w_call (vs:= [_,_,_]) zrf rfl ⟨rfl,rfl,rfl,trivial⟩ (c_Init χ _ _ a n cc _ _ _ _ B1)) rfl ?_
 rintro _ h2 ⟨rfl,Bc,K2⟩
 have K:=K.new1 K2 (.inr (Nat.le_refl _));have Z2:=K2.1
 refine rN<|rG<|rM rfl rfl<|rA rfl rfl<|rN<|tr_ret<|q_ret (zao rfl rfl) ?_
 exact ⟨rfl,Bc,K⟩
def RetI (a:Option Addr) (p:Pos) (r:Value):Prop:=match p with
 | .pt j=>∃b o,a=some ⟨b,o,none⟩∧r=.pointer (some ⟨b,o+j*4,none⟩)
 |_=>r=.pointer none
theorem RBytes.lowen {A:Nat→Prop} {h:Heap} {v:Value} {s:ByteArray} (hr:RBytes A h v s):RBytes (fun b=>A b∧b<h.size) h v s:=by
 obtain ⟨hl,a,c,e,hx⟩:=hr
 exact ⟨hl,a,c,e,fun i x hi=>by obtain ⟨b,o,e1,e2,e3⟩:=hx i x hi;exact ⟨b,o,e1,⟨⟨e2.1,cellH_lt e3⟩,e2.2⟩,e3⟩⟩
theorem c_ItFirst (χ:Chi) (h:Heap) (c:Nat) (a:Option Addr) (cc:Nat) (W:List SpanD) (T:TypeId) (hn:W.length≤100000) (x:Int) (ha:W= []∨∃b o,a=some ⟨b,o,none⟩) (Bc:Blk h c (itL (.slice a W.length cc) x) T):
 Cl Tryz.prog χ 237 #[.pointer (some ⟨c,0,none⟩)] h (fun r h'=>∃x',Blk h' c (itL (.slice a W.length cc) x') T∧posX W.length (pFirst W) x'∧Keep [c] h h'∧RetI a (pFirst W) r):=by
 refine zak Tryz.func237 rfl rfl rfl ?_
 have K:Keep [c] h h:=Keep.refl _ _
 refine rG<|rA rfl rfl<|rN<|tr_seq<|rG<|rM rfl rfl<|rC rfl rfl<|rF zcj rfl rfl<|rs_v (v_load zaw rfl (by exact Bc.cell _ rfl)) rfl ?_
 refine rs_v (v_len zan rfl) rfl ?_
 refine rs_v (v_eq rfl rfl) rfl<|rN ?_
 refine tr_if rfl (fun hif=>?_) (fun hif=>?_)
 ·
  simp only [dT,dF] at hif
  refine rG<|rA rfl rfl<|rN<|tr_ret<|zaz<|q_ret (zao rfl rfl) ?_
  have hl:W.length=0:=by omega
  refine ⟨x,Bc,?_,K,?_⟩<;>simp [pFirst,hl,posX,RetI]
 simp only [dT,dF] at hif
 have hlen:W.length≠0:=by omega
 rcases ha with rfl|⟨b,o,rfl⟩
 · simp at hlen
 refine zah<|q_thn<|rG<|rM rfl rfl<|rC rfl rfl<|rF zbi rfl rfl<|rs_w0 (w_put zhy rfl rfl rfl rfl Bc rfl) ?_
 rintro _ h1 ⟨B1,K1⟩
 have Bc:=B1;have K:=K.new1 K1 (by first|(right;omega)|(left;simp;done));have Z1:=K1.1
 refine rN<|tr_seq ?_
 refine zdb (by kernel_rfl) (by kernel_rfl) ?_
 refine rq_v (v_move rfl)<|rq_v (zad rfl)<|rq_v (zac zcj rfl)<|rq_v (v_load zaw rfl (by exact Bc.cell _ rfl)) ?_
 refine rq_v (v_move rfl)<|rq_v (zad rfl)<|rq_v (zac zbi rfl)<|rq_v (v_load zdw rfl (by exact Bc.cell _ rfl)) ?_
 refine rq_v (zam zan zax rfl rfl (i:=0) (by omega) (by omega)) ?_
 refine rq_v (zdq rfl) ?_
 refine rm_end ?_;simp only [endM,hypF,ofE,argE]
 refine q_thn<|tr_ret<|q_ret (zao rfl rfl) ?_
 refine ⟨0,Bc,?_,K,?_⟩
 · simp [pFirst,hlen,posX];omega
 · simp only [pFirst,if_neg hlen,RetI];exact ⟨b,o,rfl,rfl⟩
theorem c_ItLast (χ:Chi) (h:Heap) (c:Nat) (a:Option Addr) (cc:Nat) (W:List SpanD) (T:TypeId) (hn:W.length≤100000) (x:Int) (ha:W= []∨∃b o,a=some ⟨b,o,none⟩) (Bc:Blk h c (itL (.slice a W.length cc) x) T):
 Cl Tryz.prog χ 238 #[.pointer (some ⟨c,0,none⟩)] h (fun r h'=>∃x',Blk h' c (itL (.slice a W.length cc) x') T∧posX W.length (pLast W) x'∧Keep [c] h h'∧RetI a (pLast W) r):=by
 refine zak Tryz.func238 rfl rfl rfl ?_
 have K:Keep [c] h h:=Keep.refl _ _
 refine rG<|rA rfl rfl<|rN<|tr_seq<|rG<|rM rfl rfl<|rC rfl rfl<|rF zcj rfl rfl<|rs_v (v_load zaw rfl (by exact Bc.cell _ rfl)) rfl ?_
 refine rs_v (v_len zan rfl) rfl ?_
 refine rs_v (v_eq rfl rfl) rfl<|rN ?_
 refine tr_if rfl (fun hif=>?_) (fun hif=>?_)
 ·
  simp only [dT,dF] at hif
  refine rG<|rA rfl rfl<|rN<|tr_ret<|zaz<|q_ret (zao rfl rfl) ?_
  have hl:W.length=0:=by omega
  refine ⟨x,Bc,?_,K,?_⟩<;>simp [pLast,hl,posX,RetI]
 simp only [dT,dF] at hif
 have hlen:W.length≠0:=by omega
 rcases ha with rfl|⟨b,o,rfl⟩
 · simp at hlen
 refine zah<|q_thn<|rG<|rM rfl rfl<|rM rfl rfl<|rC rfl rfl<|rF zcj rfl rfl<|rs_v (v_load zaw rfl (by exact Bc.cell _ rfl)) rfl ?_
 refine rs_v (v_len zan rfl) rfl ?_
 refine rs_v (v_sub rfl rfl (by omega) (by omega)) rfl ?_
 refine rC rfl rfl<|rF zbi rfl rfl<|rs_w0 (w_put zhy rfl rfl rfl rfl Bc rfl) ?_
 rintro _ h1 ⟨B1,K1⟩
 have Bc:=B1;have K:=K.new1 K1 (by first|(right;omega)|(left;simp;done));have Z1:=K1.1
 refine rN<|tr_seq ?_
 refine zdb (by kernel_rfl) (by kernel_rfl) ?_
 refine rq_v (v_move rfl)<|rq_v (zad rfl)<|rq_v (zac zcj rfl)<|rq_v (v_load zaw rfl (by exact Bc.cell _ rfl)) ?_
 refine rq_v (v_move rfl)<|rq_v (zad rfl)<|rq_v (zac zbi rfl)<|rq_v (v_load zdw rfl (by exact Bc.cell _ rfl)) ?_
 refine rq_v (zam zan zax rfl rfl (i:=W.length - 1) (by omega) (by omega)) ?_
 refine rq_v (zdq rfl) ?_
 refine rm_end ?_;simp only [endM,hypF,ofE,argE]
 refine q_thn<|tr_ret<|q_ret (zao rfl rfl) ?_
 refine ⟨_,Bc,?_,K,?_⟩
 · simp [pLast,hlen,posX];omega
 · simp only [pLast,if_neg hlen,RetI];exact ⟨b,o,rfl,rfl⟩
theorem c_ItNext (χ:Chi) (h:Heap) (c:Nat) (a:Option Addr) (cc:Nat) (W:List SpanD) (T:TypeId) (hn:W.length≤100000) (x:Int) (i:Nat) (hi:x+1=i) (hin:i≤W.length) (ha:W= []∨∃b o,a=some ⟨b,o,none⟩) (Bc:Blk h c (itL (.slice a W.length cc) x) T):
 Cl Tryz.prog χ 239 #[.pointer (some ⟨c,0,none⟩)] h (fun r h'=>∃x',Blk h' c (itL (.slice a W.length cc) x') T∧posX W.length (if i<W.length then Pos.pt i else .behind) x'∧Keep [c] h h'∧RetI a (if i<W.length then Pos.pt i else .behind) r):=by
 refine zak Tryz.func239 rfl rfl rfl ?_
 have K:Keep [c] h h:=Keep.refl _ _
 refine rG<|rA rfl rfl<|rN<|tr_seq<|tr_seq ?_
 refine zdb (by kernel_rfl) (by kernel_rfl) ?_
 refine rq_v (v_move rfl)<|rq_v (zad rfl)<|rq_v (zac zbi rfl)<|rq_v (v_load zdw rfl (by exact Bc.cell _ rfl)) ?_
 refine rq_v (v_move rfl)<|rq_v (zad rfl)<|rq_v (zac zcj rfl)<|rq_v (v_load zaw rfl (by exact Bc.cell _ rfl)) ?_
 refine rq_v (v_len zan rfl) ?_
 refine rq_v (v_ge rfl rfl) ?_
 refine rm_end ?_;simp only [endM,hypF,ofE,argE]
 refine q_thn<|zav (lkb (decide_eq_false (by omega))) ?_
 refine zah<|q_thn<|rG<|rM rfl rfl<|rC rfl rfl<|rF zbi rfl rfl<|rs_v (v_load zdw rfl (by exact Bc.cell _ rfl)) rfl ?_
 refine rs_v (v_add rfl rfl (by omega) (by omega)) rfl ?_
 refine rC rfl rfl<|rF zbi rfl rfl<|rs_w0 (w_put zhy rfl rfl rfl rfl Bc rfl) ?_
 rintro _ h1 ⟨B1,K1⟩
 have Bc:=B1;have K:=K.new1 K1 (by first|(right;omega)|(left;simp;done));have Z1:=K1.1
 refine rN<|tr_seq<|tr_seq ?_
 refine zdb (by kernel_rfl) (by kernel_rfl) ?_
 refine rq_v (v_move rfl)<|rq_v (zad rfl)<|rq_v (zac zbi rfl)<|rq_v (v_load zdw rfl (by exact Bc.cell _ rfl)) ?_
 refine rq_v (v_move rfl)<|rq_v (zad rfl)<|rq_v (zac zcj rfl)<|rq_v (v_load zaw rfl (by exact Bc.cell _ rfl)) ?_
 refine rq_v (v_len zan rfl) ?_
 refine rq_v (v_ge rfl rfl) ?_
 refine rm_end ?_;simp only [endM,hypF,ofE,argE]
 refine q_thn ?_
 refine tr_if rfl (fun hif=>?_) (fun hif=>?_)
 ·
  simp only [dT,dF] at hif
  refine rG<|rA rfl rfl<|rN<|tr_ret<|zaz<|q_ret (zao rfl rfl) ?_
  have hl:¬i<W.length:=by omega
  refine ⟨_,Bc,?_,K,?_⟩
  · rw [if_neg hl];show x+1=_;omega
  · rw [if_neg hl];rfl
 simp only [dT,dF] at hif
 have hlen:W.length≠0:=by omega
 rcases ha with rfl|⟨b,o,rfl⟩
 · simp at hlen
 refine zah<|q_thn<|tr_seq ?_
 refine zdb (by kernel_rfl) (by kernel_rfl) ?_
 refine rq_v (v_move rfl)<|rq_v (zad rfl)<|rq_v (zac zcj rfl)<|rq_v (v_load zaw rfl (by exact Bc.cell _ rfl)) ?_
 refine rq_v (v_move rfl)<|rq_v (zad rfl)<|rq_v (zac zbi rfl)<|rq_v (v_load zdw rfl (by exact Bc.cell _ rfl)) ?_
 refine rq_v (zam zan zax rfl rfl (i:=i) (by omega) (by omega)) ?_
 refine rq_v (zdq rfl) ?_
 refine rm_end ?_;simp only [endM,hypF,ofE,argE]
 refine q_thn<|tr_ret<|q_ret (zao rfl rfl) ?_
 have hl:i<W.length:=by omega
 refine ⟨_,Bc,?_,K,?_⟩
 · rw [if_pos hl];exact ⟨hi,by omega⟩
 · rw [if_pos hl];exact ⟨b,o,rfl,rfl⟩
theorem c_ItPrev (χ:Chi) (h:Heap) (c:Nat) (a:Option Addr) (cc:Nat) (W:List SpanD) (T:TypeId) (hn:W.length≤100000) (i:Nat) (hin:i≤W.length) (ha:W= []∨∃b o,a=some ⟨b,o,none⟩) (Bc:Blk h c (itL (.slice a W.length cc) (i:Int)) T):
 Cl Tryz.prog χ 240 #[.pointer (some ⟨c,0,none⟩)] h (fun r h'=>∃x',Blk h' c (itL (.slice a W.length cc) x') T∧posX W.length (if i=0 then Pos.ahead else .pt (i - 1)) x'∧Keep [c] h h'∧RetI a (if i=0 then Pos.ahead else .pt (i - 1)) r):=by
 refine zak Tryz.func240 rfl rfl rfl ?_
 have K:Keep [c] h h:=Keep.refl _ _
 refine rG<|rA rfl rfl<|rN<|tr_seq<|rG<|rM rfl rfl<|rC rfl rfl<|rF zbi rfl rfl<|rs_v (v_load zdw rfl (by exact Bc.cell _ rfl)) rfl ?_
 refine rs_v (v_lt rfl rfl) rfl<|rN<|zav (lkb (decide_eq_false (by omega))) ?_
 refine zah<|q_thn<|rG<|rM rfl rfl<|rC rfl rfl<|rF zbi rfl rfl<|rs_v (v_load zdw rfl (by exact Bc.cell _ rfl)) rfl ?_
 refine rs_v (v_sub rfl rfl (by omega) (by omega)) rfl ?_
 refine rC rfl rfl<|rF zbi rfl rfl<|rs_w0 (w_put zhy rfl rfl rfl rfl Bc rfl) ?_
 rintro _ h1 ⟨B1,K1⟩
 have Bc:=B1;have K:=K.new1 K1 (by first|(right;omega)|(left;simp;done));have Z1:=K1.1
 refine rN<|tr_seq<|rG<|rM rfl rfl<|rC rfl rfl<|rF zbi rfl rfl<|rs_v (v_load zdw rfl (by exact Bc.cell _ rfl)) rfl ?_
 refine rs_v (v_lt rfl rfl) rfl<|rN ?_
 refine tr_if rfl (fun hif=>?_) (fun hif=>?_)
 ·
  simp only [dT,dF] at hif
  refine rG<|rA rfl rfl<|rN<|tr_ret<|zaz<|q_ret (zao rfl rfl) ?_
  have hl:i=0:=by omega
  refine ⟨_,Bc,?_,K,?_⟩
  · rw [if_pos hl];show (i:Int) - 1=_;omega
  · rw [if_pos hl];rfl
 simp only [dT,dF] at hif
 have hlen:W.length≠0:=by omega
 rcases ha with rfl|⟨b,o,rfl⟩
 · simp at hlen
 refine zah<|q_thn<|tr_seq ?_
 refine zdb (by kernel_rfl) (by kernel_rfl) ?_
 refine rq_v (v_move rfl)<|rq_v (zad rfl)<|rq_v (zac zcj rfl)<|rq_v (v_load zaw rfl (by exact Bc.cell _ rfl)) ?_
 refine rq_v (v_move rfl)<|rq_v (zad rfl)<|rq_v (zac zbi rfl)<|rq_v (v_load zdw rfl (by exact Bc.cell _ rfl)) ?_
 refine rq_v (zam zan zax rfl rfl (i:=i - 1) (by omega) (by omega)) ?_
 refine rq_v (zdq rfl) ?_
 refine rm_end ?_;simp only [endM,hypF,ofE,argE]
 refine q_thn<|tr_ret<|q_ret (zao rfl rfl) ?_
 have hl:¬i=0:=by omega
 refine ⟨_,Bc,?_,K,?_⟩
 · rw [if_neg hl];exact ⟨by omega,by omega⟩
 · rw [if_neg hl];exact ⟨b,o,rfl,rfl⟩
theorem c_ItSeekGE (χ:Chi) (h:Heap) (c:Nat) (a:Option Addr) (cc:Nat) (W:List SpanD) (T:TypeId) (hn:W.length≤100000) (x:Int) (Bc:Blk h c (itL (.slice a W.length cc) x) T) (G:Nat→Prop) (hW:PSpans G h (.slice a W.length cc) W) (hG:∀b,G b→b<h.size∧b≠c) (hO:Ord W) (kv:Value) (key:ByteArray) (hkey:RBytes (fun b=>b≠c) h kv key):
 Cl Tryz.prog χ 241 #[.pointer (some ⟨c,0,none⟩),kv] h (fun r h'=>∃x',Blk h' c (itL (.slice a W.length cc) x') T∧posX W.length (pGE W key) x'∧Keep [c] h h'∧RetI a (pGE W key) r):=by
 obtain ⟨_,a',c',e',hxW⟩:=hW.form
 cases e'
 refine zak Tryz.func241 rfl rfl rfl ?_
 have K:Keep [c] h h:=Keep.refl _ _
 refine rG<|rA rfl rfl<|rN<|rG<|rM rfl rfl<|rC rfl rfl<|rF zbi rfl rfl<|rs_w0 (w_put zhy rfl rfl rfl rfl Bc rfl) ?_
 rintro _ h1 ⟨B1,K1⟩
 have Bc:=B1;have K:=K.new1 K1 (by first|(right;omega)|(left;simp;done));have Z1:=K1.1
 refine rN<|rG<|rM rfl rfl<|rC rfl rfl<|rF zcj rfl rfl<|rs_v (v_load zaw rfl (by exact Bc.cell _ rfl)) rfl ?_
 refine rs_v (v_len zan rfl) rfl ?_
 refine rA rfl rfl<|rN<|tr_seq<|zaj ?_
 refine zbo (fun m E h'=>∃lo hi hiI,hiI=((hi:Nat):Int)∧lo≤hi∧hi≤W.length∧m=hi - lo∧E= [(0,.pointer (some ⟨c,0,none⟩)),(1,kv),(5,.int .i64 hiI)]∧Keep [c] h h'∧Blk h' c (itL (.slice a W.length cc) (lo:Int)) T∧(∀(j:Nat) s,j<lo→W[j]? =some s→sle s.e key=true)∧(hi=W.length∨∃s,W[hi]? =some s∧sle s.e key=false)) W.length [(0,_),(1,_),(5,_)] ⟨rfl,rfl,rfl,trivial⟩ ⟨0,W.length,_,rfl,Nat.zero_le _,Nat.le_refl _,by omega,rfl,K,Bc,fun j s hj=>by omega,.inl rfl⟩ ?_
 rintro m E hL2 ⟨lo,hi,hiI,hiE,hlh,hhi,rfl,rfl,K,Bc,hbe0,hab⟩
 subst hiE
 refine tr_seq<|rG<|rM rfl rfl<|rC rfl rfl<|rF zbi rfl rfl<|rs_v (v_load zdw rfl (by exact Bc.cell _ rfl)) rfl ?_
 refine rM rfl rfl<|rs_v (v_lt rfl rfl) rfl<|rN ?_
 refine tr_ifn rfl (fun hif=>?_) (fun hif=>?_)
 ·
  simp only [dT,dF] at hif
  have hll:lo=hi:=by omega
  subst hll
  have hg:=ziy W key lo hbe0 hab
  refine zbm<|zay<|zbd<|zbb<|q_thn<|tr_seq<|tr_seq ?_
  refine zdb (by kernel_rfl) (by kernel_rfl) ?_
  refine rq_v (v_move rfl)<|rq_v (zad rfl)<|rq_v (zac zbi rfl)<|rq_v (v_load zdw rfl (by exact Bc.cell _ rfl)) ?_
  refine rq_v (v_move rfl)<|rq_v (zad rfl)<|rq_v (zac zcj rfl)<|rq_v (v_load zaw rfl (by exact Bc.cell _ rfl)) ?_
  refine rq_v (v_len zan rfl) ?_
  refine rq_v (v_ge rfl rfl) ?_
  refine rm_end ?_;simp only [endM,hypF,ofE,argE]
  refine q_thn ?_
  refine tr_if rfl (fun hif=>?_) (fun hif=>?_)
  ·
   simp only [dT,dF] at hif
   refine rG<|rA rfl rfl<|rN<|tr_ret<|zaz<|q_ret (zao rfl rfl) ?_
   have e:lo=W.length:=by omega
   subst e
   rw [show pGE W key=.behind from by simp [pGE,hg]]
   exact ⟨_,Bc,rfl,K,rfl⟩
  simp only [dT,dF] at hif
  rcases hxW with rfl|⟨b,o,rfl,hGb,hR⟩
  · exfalso;simp only [List.length_nil] at*;omega
  refine zah<|q_thn<|tr_seq ?_
  refine zdb (by kernel_rfl) (by kernel_rfl) ?_
  refine rq_v (v_move rfl)<|rq_v (zad rfl)<|rq_v (zac zcj rfl)<|rq_v (v_load zaw rfl (by exact Bc.cell _ rfl)) ?_
  refine rq_v (v_move rfl)<|rq_v (zad rfl)<|rq_v (zac zbi rfl)<|rq_v (v_load zdw rfl (by exact Bc.cell _ rfl)) ?_
  refine rq_v (zam zan zax rfl rfl (i:=lo) rfl (by omega)) ?_
  refine rq_v (zdq rfl) ?_
  refine rm_end ?_;simp only [endM,hypF,ofE,argE]
  refine q_thn<|tr_ret<|q_ret (zao rfl rfl) ?_
  have hl:lo<W.length:=by omega
  rw [show pGE W key=.pt lo from by simp [pGE,hg,hl]]
  exact ⟨_,Bc,⟨rfl,by omega⟩,K,⟨b,o,rfl,rfl⟩⟩
 simp only [dT,dF] at hif
 obtain ⟨y,hy⟩:=ex_get (L:=W) (k:=(lo+hi) / 2) (by omega)
 have hml:(lo+hi) / 2<W.length:=(List.getElem?_eq_some_iff.1 hy).1
 rcases hxW with rfl|⟨b,o,rfl,hGb,hR⟩
 · simp at hml
 obtain ⟨sv,ev,kv2,kk,hcell,r1,r2,r3⟩:=hR _ y hy
 have hSt:Stab G h hL2:=K.stab fun b hb=>⟨(hG b hb).1,by simpa using (hG b hb).2⟩
 have hend:=hSt.cells hGb hcell
 have hbe:=RBytes.by (r2.stab hSt)
 have hke:RBy hL2 kv key:=RBytes.by ((RBytes.lowen hkey).stab (K.stab fun b hb=>⟨hb.2,by simpa using hb.1⟩))
 refine zah<|q_thn<|zaj<|rG<|rM rfl rfl<|rC rfl rfl<|rF zbi rfl rfl<|rs_v (v_load zdw rfl (by exact Bc.cell _ rfl)) rfl ?_
 refine rM rfl rfl<|rs_v (v_add rfl rfl (by omega) (by omega)) rfl ?_
 refine rs_v (zjv u_int u_uint rfl (by omega) (by omega)) rfl ?_
 refine rs_v (v_shr1 (k:=.u64) rfl rfl) rfl ?_
 refine rs_v (zjw u_uint u_int rfl (by omega) (by omega)) rfl ?_
 refine rA rfl rfl<|rN<|tr_seq ?_
 refine zdb (by kernel_rfl) (by kernel_rfl) ?_
 refine rq_v (v_move rfl)<|rq_v (zad rfl)<|rq_v (zac znv rfl)<|rq_v (v_load zcs rfl (by exact Bc.cell _ rfl)) ?_
 refine rq_v (v_move rfl)<|rq_v (v_move rfl)<|rq_v (zad rfl)<|rq_v (zac zcj rfl)<|rq_v (v_load zaw rfl (by exact Bc.cell _ rfl)) ?_
 refine rq_v (v_move rfl)<|rq_v (zam zan zax rfl rfl (i:=(lo+hi) / 2) (by omega) (by omega)) ?_
 refine rq_v (zac zcu rfl)<|rq_v (v_load zas rfl (by exact hend.at 1 rfl)) ?_
 refine rq_w (zgr (first:= []) (cap:= []) (vs:= [_,_]) zdu rfl ⟨rfl,rfl,trivial⟩ (zgh χ _ _ _ key y.e hke hbe)) ?_
 refine rq_v (v_ge rfl rfl) ?_
 refine rm_end ?_;simp only [endM,hypF,ofE,argE]
 refine q_thn ?_
 refine tr_if rfl (fun hif=>?_) (fun hif=>?_)
 ·
  simp only [dT,dF] at hif
  refine tr_reg<|rM rfl rfl<|rM rfl rfl<|rs_v (v_add rfl rfl (by omega) (by omega)) rfl ?_
  refine rC rfl rfl<|rF zbi rfl rfl<|rs_w0 (w_put zhy rfl rfl rfl rfl Bc rfl) ?_
  rintro _ h3 ⟨B3,K3⟩
  have Bc:=B3;have K:=K.new1 K3 (by first|(right;omega)|(left;simp;done));have Z3:=K3.1
  refine rs_nil<|zbc ?_
  refine q_lp (hi - ((lo+hi) / 2+1)) [(0,_),(1,_),(5,_)] (by omega) ⟨rfl,rfl,rfl,trivial⟩ ⟨(lo+hi) / 2+1,hi,_,rfl,by omega,hhi,rfl,rfl,K,?_,?_,hab⟩
  · have e:((lo:Int)+hi) / 2+1=(((lo+hi) / 2+1:Nat):Int):=by omega
    rw [←e];exact Bc
  · intro j s hj hs
    have h1:sle y.e key=true:=by rw [zef,zeh key y.e];omega
    exact zcl (hO.ends (by omega) hs hy) h1
 simp only [dT,dF] at hif
 refine tr_reg<|rM rfl rfl<|rA rfl rfl<|rs_nil<|zbc ?_
 refine q_lp ((lo+hi) / 2 - lo) [(0,_),(1,_),(5,_)] (by omega) ⟨rfl,rfl,rfl,trivial⟩ ⟨lo,(lo+hi) / 2,_,by omega,by omega,by omega,rfl,rfl,K,Bc,hbe0,.inr ⟨y,hy,?_⟩⟩
 rw [sle_no,zeh key y.e];omega
theorem c_ItSeekLT (χ:Chi) (h:Heap) (c:Nat) (a:Option Addr) (cc:Nat) (W:List SpanD) (T:TypeId) (hn:W.length≤100000) (x:Int) (Bc:Blk h c (itL (.slice a W.length cc) x) T) (G:Nat→Prop) (hW:PSpans G h (.slice a W.length cc) W) (hG:∀b,G b→b<h.size∧b≠c) (hO:Ord W) (kv:Value) (key:ByteArray) (hkey:RBytes (fun b=>b≠c) h kv key):
 Cl Tryz.prog χ 242 #[.pointer (some ⟨c,0,none⟩),kv] h (fun r h'=>∃x',Blk h' c (itL (.slice a W.length cc) x') T∧posX W.length (pLT W key) x'∧Keep [c] h h'∧RetI a (pLT W key) r):=by
 obtain ⟨_,a',c',e',hxW⟩:=hW.form
 cases e'
 refine zak Tryz.func242 rfl rfl rfl ?_
 have K:Keep [c] h h:=Keep.refl _ _
 refine rG<|rA rfl rfl<|rN<|rG<|rM rfl rfl<|rC rfl rfl<|rF zbi rfl rfl<|rs_w0 (w_put zhy rfl rfl rfl rfl Bc rfl) ?_
 rintro _ h1 ⟨B1,K1⟩
 have Bc:=B1;have K:=K.new1 K1 (by first|(right;omega)|(left;simp;done));have Z1:=K1.1
 refine rN<|rG<|rM rfl rfl<|rC rfl rfl<|rF zcj rfl rfl<|rs_v (v_load zaw rfl (by exact Bc.cell _ rfl)) rfl ?_
 refine rs_v (v_len zan rfl) rfl ?_
 refine rA rfl rfl<|rN<|tr_seq<|zaj ?_
 refine zbo (fun m E h'=>∃lo hi hiI,hiI=((hi:Nat):Int)∧lo≤hi∧hi≤W.length∧m=hi - lo∧E= [(0,.pointer (some ⟨c,0,none⟩)),(1,kv),(5,.int .i64 hiI)]∧Keep [c] h h'∧Blk h' c (itL (.slice a W.length cc) (lo:Int)) T∧(∀(j:Nat) s,j<lo→W[j]? =some s→slt s.s key=true)∧(hi=W.length∨∃s,W[hi]? =some s∧slt s.s key=false)) W.length [(0,_),(1,_),(5,_)] ⟨rfl,rfl,rfl,trivial⟩ ⟨0,W.length,_,rfl,Nat.zero_le _,Nat.le_refl _,by omega,rfl,K,Bc,fun j s hj=>by omega,.inl rfl⟩ ?_
 rintro m E hL2 ⟨lo,hi,hiI,hiE,hlh,hhi,rfl,rfl,K,Bc,hbe0,hab⟩
 subst hiE
 refine tr_seq<|rG<|rM rfl rfl<|rC rfl rfl<|rF zbi rfl rfl<|rs_v (v_load zdw rfl (by exact Bc.cell _ rfl)) rfl ?_
 refine rM rfl rfl<|rs_v (v_lt rfl rfl) rfl<|rN ?_
 refine tr_ifn rfl (fun hif=>?_) (fun hif=>?_)
 ·
  simp only [dT,dF] at hif
  have hll:lo=hi:=by omega
  subst hll
  have hg:ltI W key=lo:=by
   refine zmf W key lo (fun j s hj hs=>?_) ?_
   · rcases hab with he|⟨t,ht,hts⟩
     · have:=(List.getElem?_eq_some_iff.1 hs).1;omega
     · rw [zev] at hts⊢
       exact zcl hts (hO.starts hj ht hs)
   · by_cases e:lo=0
     · exact .inl e
     · obtain ⟨s,hs⟩:=ex_get (L:=W) (k:=lo - 1) (by omega)
       exact .inr ⟨s,hs,hbe0 _ s (by omega) hs⟩
  refine zbm<|zay<|zbd<|zbb<|q_thn<|rG<|rM rfl rfl<|rC rfl rfl<|rF zbi rfl rfl<|rs_v (v_load zdw rfl (by exact Bc.cell _ rfl)) rfl ?_
  refine rs_v (v_sub rfl rfl (by omega) (by omega)) rfl ?_
  refine rC rfl rfl<|rF zbi rfl rfl<|rs_w0 (w_put zhy rfl rfl rfl rfl Bc rfl) ?_
  rintro _ h3 ⟨B3,K3⟩
  have Bc:=B3;have K:=K.new1 K3 (by first|(right;omega)|(left;simp;done));have Z3:=K3.1
  refine rN<|tr_seq<|rG<|rM rfl rfl<|rC rfl rfl<|rF zbi rfl rfl<|rs_v (v_load zdw rfl (by exact Bc.cell _ rfl)) rfl ?_
  refine rs_v (v_lt rfl rfl) rfl<|rN ?_
  refine tr_if rfl (fun hif=>?_) (fun hif=>?_)
  ·
   simp only [dT,dF] at hif
   refine rG<|rA rfl rfl<|rN<|tr_ret<|zaz<|q_ret (zao rfl rfl) ?_
   have e:lo=0:=by omega
   subst e
   rw [show pLT W key=.ahead from by simp [pLT,hg]]
   exact ⟨_,Bc,rfl,K,rfl⟩
  simp only [dT,dF] at hif
  rcases hxW with rfl|⟨b,o,rfl,hGb,hR⟩
  · exfalso;simp only [List.length_nil] at*;omega
  refine zah<|q_thn<|tr_seq ?_
  refine zdb (by kernel_rfl) (by kernel_rfl) ?_
  refine rq_v (v_move rfl)<|rq_v (zad rfl)<|rq_v (zac zcj rfl)<|rq_v (v_load zaw rfl (by exact Bc.cell _ rfl)) ?_
  refine rq_v (v_move rfl)<|rq_v (zad rfl)<|rq_v (zac zbi rfl)<|rq_v (v_load zdw rfl (by exact Bc.cell _ rfl)) ?_
  refine rq_v (zam zan zax rfl rfl (i:=lo - 1) (by omega) (by omega)) ?_
  refine rq_v (zdq rfl) ?_
  refine rm_end ?_;simp only [endM,hypF,ofE,argE]
  refine q_thn<|tr_ret<|q_ret (zao rfl rfl) ?_
  have hl:¬lo=0:=by omega
  rw [show pLT W key=.pt (lo - 1) from by simp [pLT,hg,hl]]
  exact ⟨_,Bc,⟨by omega,by omega⟩,K,⟨b,o,rfl,rfl⟩⟩
 simp only [dT,dF] at hif
 obtain ⟨y,hy⟩:=ex_get (L:=W) (k:=(lo+hi) / 2) (by omega)
 have hml:(lo+hi) / 2<W.length:=(List.getElem?_eq_some_iff.1 hy).1
 rcases hxW with rfl|⟨b,o,rfl,hGb,hR⟩
 · simp at hml
 obtain ⟨sv,ev,kv2,kk,hcell,r1,r2,r3⟩:=hR _ y hy
 have hSt:Stab G h hL2:=K.stab fun b hb=>⟨(hG b hb).1,by simpa using (hG b hb).2⟩
 have hend:=hSt.cells hGb hcell
 have hbe:=RBytes.by (r1.stab hSt)
 have hke:RBy hL2 kv key:=RBytes.by ((RBytes.lowen hkey).stab (K.stab fun b hb=>⟨hb.2,by simpa using hb.1⟩))
 refine zah<|q_thn<|zaj<|rG<|rM rfl rfl<|rC rfl rfl<|rF zbi rfl rfl<|rs_v (v_load zdw rfl (by exact Bc.cell _ rfl)) rfl ?_
 refine rM rfl rfl<|rs_v (v_add rfl rfl (by omega) (by omega)) rfl ?_
 refine rs_v (zjv u_int u_uint rfl (by omega) (by omega)) rfl ?_
 refine rs_v (v_shr1 (k:=.u64) rfl rfl) rfl ?_
 refine rs_v (zjw u_uint u_int rfl (by omega) (by omega)) rfl ?_
 refine rA rfl rfl<|rN<|tr_seq ?_
 refine zdb (by kernel_rfl) (by kernel_rfl) ?_
 refine rq_v (v_move rfl)<|rq_v (zad rfl)<|rq_v (zac znv rfl)<|rq_v (v_load zcs rfl (by exact Bc.cell _ rfl)) ?_
 refine rq_v (v_move rfl)<|rq_v (v_move rfl)<|rq_v (zad rfl)<|rq_v (zac zcj rfl)<|rq_v (v_load zaw rfl (by exact Bc.cell _ rfl)) ?_
 refine rq_v (v_move rfl)<|rq_v (zam zan zax rfl rfl (i:=(lo+hi) / 2) (by omega) (by omega)) ?_
 refine rq_v (zac zcg rfl)<|rq_v (v_load zas rfl (by exact hend.at 0 rfl)) ?_
 refine rq_w (zgr (first:= []) (cap:= []) (vs:= [_,_]) zdu rfl ⟨rfl,rfl,trivial⟩ (zgh χ _ _ _ key y.s hke hbe)) ?_
 refine rq_v (v_gt rfl rfl) ?_
 refine rm_end ?_;simp only [endM,hypF,ofE,argE]
 refine q_thn ?_
 refine tr_if rfl (fun hif=>?_) (fun hif=>?_)
 ·
  simp only [dT,dF] at hif
  refine tr_reg<|rM rfl rfl<|rM rfl rfl<|rs_v (v_add rfl rfl (by omega) (by omega)) rfl ?_
  refine rC rfl rfl<|rF zbi rfl rfl<|rs_w0 (w_put zhy rfl rfl rfl rfl Bc rfl) ?_
  rintro _ h4 ⟨B4,K4⟩
  have Bc:=B4;have K:=K.new1 K4 (by first|(right;omega)|(left;simp;done));have Z4:=K4.1
  refine rs_nil<|zbc ?_
  refine q_lp (hi - ((lo+hi) / 2+1)) [(0,_),(1,_),(5,_)] (by omega) ⟨rfl,rfl,rfl,trivial⟩ ⟨(lo+hi) / 2+1,hi,_,rfl,by omega,hhi,rfl,rfl,K,?_,?_,hab⟩
  · have e:((lo:Int)+hi) / 2+1=(((lo+hi) / 2+1:Nat):Int):=by omega
    rw [←e];exact Bc
  · intro j s hj hs
    have h1:slt y.s key=true:=by rw [zds,zeh key y.s];omega
    exact zfa (hO.starts (by omega) hs hy) h1
 simp only [dT,dF] at hif
 refine tr_reg<|rM rfl rfl<|rA rfl rfl<|rs_nil<|zbc ?_
 refine q_lp ((lo+hi) / 2 - lo) [(0,_),(1,_),(5,_)] (by omega) ⟨rfl,rfl,rfl,trivial⟩ ⟨lo,(lo+hi) / 2,_,by omega,by omega,by omega,rfl,rfl,K,Bc,hbe0,.inr ⟨y,hy,?_⟩⟩
 rw [slt_no,zeh key y.s];omega
theorem m_ItFirst (v:Value):Meth Tryz.prog 178 v "First" 237 v:=fun _=>by kernel_rfl
theorem m_ItLast (v:Value):Meth Tryz.prog 178 v "Last" 238 v:=fun _=>by kernel_rfl
theorem m_ItNext (v:Value):Meth Tryz.prog 178 v "Next" 239 v:=fun _=>by kernel_rfl
theorem m_ItPrev (v:Value):Meth Tryz.prog 178 v "Prev" 240 v:=fun _=>by kernel_rfl
theorem m_ItSeekGE (v:Value):Meth Tryz.prog 178 v "SeekGE" 241 v:=fun _=>by kernel_rfl
theorem m_ItSeekLT (v:Value):Meth Tryz.prog 178 v "SeekLT" 242 v:=fun _=>by kernel_rfl
theorem zpo (v:Value):Meth Tryz.prog 178 v "Error" 236 v:=fun _=>by kernel_rfl
theorem zpp (χ:Chi) (h:Heap) (v:Value):Cl Tryz.prog χ 236 #[v] h (fun r h'=>r=.nilIface∧h'=h):=by
 refine zak Tryz.func236 rfl rfl rfl ?_
 have K:Keep [] h h:=Keep.refl _ _
 refine rG<|rA rfl rfl<|rN<|rG<|rA rfl rfl<|rN<|tr_ret<|q_ret (zao rfl rfl) ?_
 exact ⟨rfl,rfl⟩
theorem c_taken_0 (χ:Chi) (h:Heap) (ok:Bool) (last:Int):
 Cl Tryz.prog χ 89 #[.int .u8 0,.bool ok,.int .u8 last] h (fun r h'=>r=.bool true∧h'=h):=by
 refine zak Tryz.func89 rfl rfl rfl ?_
 have K:Keep [] h h:=Keep.refl _ _
 refine rG<|rA rfl rfl<|rN<|tr_seq<|rG<|rM rfl rfl<|rN<|zaj<|tr_seq<|rG<|rs_v (v_eq rfl rfl) rfl<|rA rfl rfl<|rN<|zcz rfl ?_
 refine zah<|q_thn<|zcz rfl ?_
 refine rG<|rA rfl rfl<|rN<|tr_ret<|zbr<|zaz<|q_ret (zao rfl rfl) ?_
 exact ⟨rfl,rfl⟩
theorem c_taken_1 (χ:Chi) (h:Heap) (ok:Bool) (last:Int):
 Cl Tryz.prog χ 89 #[.int .u8 1,.bool ok,.int .u8 last] h (fun r h'=>r=.bool true∧h'=h):=by
 refine zak Tryz.func89 rfl rfl rfl ?_
 have K:Keep [] h h:=Keep.refl _ _
 refine rG<|rA rfl rfl<|rN<|tr_seq<|rG<|rM rfl rfl<|rN<|zaj<|tr_seq<|rG<|rs_v (v_eq rfl rfl) rfl<|rA rfl rfl<|rN<|zav rfl ?_
 refine rG<|rs_v (v_eq rfl rfl) rfl<|rA rfl rfl<|rN<|zcz rfl ?_
 refine zah<|q_thn<|zcz rfl ?_
 refine rG<|rA rfl rfl<|rN<|tr_ret<|zbr<|zaz<|q_ret (zao rfl rfl) ?_
 exact ⟨rfl,rfl⟩
theorem c_taken_4 (χ:Chi) (h:Heap) (ok:Bool) (last:Int):
 Cl Tryz.prog χ 89 #[.int .u8 4,.bool ok,.int .u8 last] h (fun r h'=>r=.bool true∧h'=h):=by
 refine zak Tryz.func89 rfl rfl rfl ?_
 have K:Keep [] h h:=Keep.refl _ _
 refine rG<|rA rfl rfl<|rN<|tr_seq<|rG<|rM rfl rfl<|rN<|zaj<|tr_seq<|rG<|rs_v (v_eq rfl rfl) rfl<|rA rfl rfl<|rN<|zav rfl ?_
 refine rG<|rs_v (v_eq rfl rfl) rfl<|rA rfl rfl<|rN<|zav rfl ?_
 refine rG<|rs_v (v_eq rfl rfl) rfl<|rA rfl rfl<|rN<|zcz rfl ?_
 refine zah<|q_thn<|zcz rfl ?_
 refine rG<|rA rfl rfl<|rN<|tr_ret<|zbr<|zaz<|q_ret (zao rfl rfl) ?_
 exact ⟨rfl,rfl⟩
theorem c_taken_5 (χ:Chi) (h:Heap) (ok:Bool) (last:Int):
 Cl Tryz.prog χ 89 #[.int .u8 5,.bool ok,.int .u8 last] h (fun r h'=>r=.bool true∧h'=h):=by
 refine zak Tryz.func89 rfl rfl rfl ?_
 have K:Keep [] h h:=Keep.refl _ _
 refine rG<|rA rfl rfl<|rN<|tr_seq<|rG<|rM rfl rfl<|rN<|zaj<|tr_seq<|rG<|rs_v (v_eq rfl rfl) rfl<|rA rfl rfl<|rN<|zav rfl ?_
 refine rG<|rs_v (v_eq rfl rfl) rfl<|rA rfl rfl<|rN<|zav rfl ?_
 refine rG<|rs_v (v_eq rfl rfl) rfl<|rA rfl rfl<|rN<|zav rfl ?_
 refine tr_reg<|rs_v (v_eq rfl rfl) rfl<|rA rfl rfl<|rN<|zcz rfl ?_
 refine rG<|rA rfl rfl<|rN<|tr_ret<|zbr<|zaz<|q_ret (zao rfl rfl) ?_
 exact ⟨rfl,rfl⟩
theorem c_taken_2t (χ:Chi) (h:Heap) (last:Int):
 Cl Tryz.prog χ 89 #[.int .u8 2,.bool true,.int .u8 last] h (fun r h'=>r=.bool true∧h'=h):=by
 refine zak Tryz.func89 rfl rfl rfl ?_
 have K:Keep [] h h:=Keep.refl _ _
 refine rG<|rA rfl rfl<|rN<|tr_seq<|rG<|rM rfl rfl<|rN<|zaj<|tr_seq<|rG<|rs_v (v_eq rfl rfl) rfl<|rA rfl rfl<|rN<|zav rfl ?_
 refine rG<|rs_v (v_eq rfl rfl) rfl<|rA rfl rfl<|rN<|zav rfl ?_
 refine rG<|rs_v (v_eq rfl rfl) rfl<|rA rfl rfl<|rN<|zav rfl ?_
 refine tr_reg<|rs_v (v_eq rfl rfl) rfl<|rA rfl rfl<|rN<|zav rfl ?_
 refine rG<|rs_v (v_eq rfl rfl) rfl<|rA rfl rfl<|rN<|zcz rfl ?_
 refine rG<|rM rfl rfl<|rM rfl rfl<|rs_gs rfl rfl rfl rfl<|rs_gs rfl rfl rfl rfl<|rs_v (zbq rfl rfl) rfl ?_
 refine rM rfl rfl<|rs_gs rfl rfl rfl rfl<|rs_gs rfl rfl rfl rfl<|rs_v (zbq rfl rfl) rfl ?_
 refine rA rfl rfl<|rN<|tr_ret<|zbr<|zaz<|q_ret (zao rfl rfl) ?_
 exact ⟨rfl,rfl⟩
theorem c_taken_2f0 (χ:Chi) (h:Heap):
 Cl Tryz.prog χ 89 #[.int .u8 2,.bool false,.int .u8 0] h (fun r h'=>r=.bool false∧h'=h):=by
 refine zak Tryz.func89 rfl rfl rfl ?_
 have K:Keep [] h h:=Keep.refl _ _
 refine rG<|rA rfl rfl<|rN<|tr_seq<|rG<|rM rfl rfl<|rN<|zaj<|tr_seq<|rG<|rs_v (v_eq rfl rfl) rfl<|rA rfl rfl<|rN<|zav rfl ?_
 refine rG<|rs_v (v_eq rfl rfl) rfl<|rA rfl rfl<|rN<|zav rfl ?_
 refine rG<|rs_v (v_eq rfl rfl) rfl<|rA rfl rfl<|rN<|zav rfl ?_
 refine tr_reg<|rs_v (v_eq rfl rfl) rfl<|rA rfl rfl<|rN<|zav rfl ?_
 refine rG<|rs_v (v_eq rfl rfl) rfl<|rA rfl rfl<|rN<|zcz rfl ?_
 refine rG<|rM rfl rfl<|rM rfl rfl<|rs_gv rfl rfl (v_move rfl) rfl<|rs_gv rfl rfl (v_eq rfl rfl) rfl ?_
 refine rs_v (zbf rfl rfl) rfl ?_
 refine rM rfl rfl<|rs_gv rfl rfl (v_move rfl) rfl<|rs_gv rfl rfl (v_eq rfl rfl) rfl ?_
 refine rs_v (zbf rfl rfl) rfl ?_
 refine rA rfl rfl<|rN<|tr_ret<|zbr<|zaz<|q_ret (zao rfl rfl) ?_
 exact ⟨rfl,rfl⟩
theorem c_taken_2f1 (χ:Chi) (h:Heap):
 Cl Tryz.prog χ 89 #[.int .u8 2,.bool false,.int .u8 1] h (fun r h'=>r=.bool false∧h'=h):=by
 refine zak Tryz.func89 rfl rfl rfl ?_
 have K:Keep [] h h:=Keep.refl _ _
 refine rG<|rA rfl rfl<|rN<|tr_seq<|rG<|rM rfl rfl<|rN<|zaj<|tr_seq<|rG<|rs_v (v_eq rfl rfl) rfl<|rA rfl rfl<|rN<|zav rfl ?_
 refine rG<|rs_v (v_eq rfl rfl) rfl<|rA rfl rfl<|rN<|zav rfl ?_
 refine rG<|rs_v (v_eq rfl rfl) rfl<|rA rfl rfl<|rN<|zav rfl ?_
 refine tr_reg<|rs_v (v_eq rfl rfl) rfl<|rA rfl rfl<|rN<|zav rfl ?_
 refine rG<|rs_v (v_eq rfl rfl) rfl<|rA rfl rfl<|rN<|zcz rfl ?_
 refine rG<|rM rfl rfl<|rM rfl rfl<|rs_gv rfl rfl (v_move rfl) rfl<|rs_gv rfl rfl (v_eq rfl rfl) rfl ?_
 refine rs_v (zbf rfl rfl) rfl ?_
 refine rM rfl rfl<|rs_gv rfl rfl (v_move rfl) rfl<|rs_gv rfl rfl (v_eq rfl rfl) rfl ?_
 refine rs_v (zbf rfl rfl) rfl ?_
 refine rA rfl rfl<|rN<|tr_ret<|zbr<|zaz<|q_ret (zao rfl rfl) ?_
 exact ⟨rfl,rfl⟩
theorem c_taken_2f2 (χ:Chi) (h:Heap):
 Cl Tryz.prog χ 89 #[.int .u8 2,.bool false,.int .u8 2] h (fun r h'=>r=.bool false∧h'=h):=by
 refine zak Tryz.func89 rfl rfl rfl ?_
 have K:Keep [] h h:=Keep.refl _ _
 refine rG<|rA rfl rfl<|rN<|tr_seq<|rG<|rM rfl rfl<|rN<|zaj<|tr_seq<|rG<|rs_v (v_eq rfl rfl) rfl<|rA rfl rfl<|rN<|zav rfl ?_
 refine rG<|rs_v (v_eq rfl rfl) rfl<|rA rfl rfl<|rN<|zav rfl ?_
 refine rG<|rs_v (v_eq rfl rfl) rfl<|rA rfl rfl<|rN<|zav rfl ?_
 refine tr_reg<|rs_v (v_eq rfl rfl) rfl<|rA rfl rfl<|rN<|zav rfl ?_
 refine rG<|rs_v (v_eq rfl rfl) rfl<|rA rfl rfl<|rN<|zcz rfl ?_
 refine rG<|rM rfl rfl<|rM rfl rfl<|rs_gv rfl rfl (v_move rfl) rfl<|rs_gv rfl rfl (v_eq rfl rfl) rfl ?_
 refine rs_v (zbf rfl rfl) rfl ?_
 refine rM rfl rfl<|rs_gv rfl rfl (v_move rfl) rfl<|rs_gv rfl rfl (v_eq rfl rfl) rfl ?_
 refine rs_v (zbf rfl rfl) rfl ?_
 refine rA rfl rfl<|rN<|tr_ret<|zbr<|zaz<|q_ret (zao rfl rfl) ?_
 exact ⟨rfl,rfl⟩
theorem c_taken_2f3 (χ:Chi) (h:Heap):
 Cl Tryz.prog χ 89 #[.int .u8 2,.bool false,.int .u8 3] h (fun r h'=>r=.bool true∧h'=h):=by
 refine zak Tryz.func89 rfl rfl rfl ?_
 have K:Keep [] h h:=Keep.refl _ _
 refine rG<|rA rfl rfl<|rN<|tr_seq<|rG<|rM rfl rfl<|rN<|zaj<|tr_seq<|rG<|rs_v (v_eq rfl rfl) rfl<|rA rfl rfl<|rN<|zav rfl ?_
 refine rG<|rs_v (v_eq rfl rfl) rfl<|rA rfl rfl<|rN<|zav rfl ?_
 refine rG<|rs_v (v_eq rfl rfl) rfl<|rA rfl rfl<|rN<|zav rfl ?_
 refine tr_reg<|rs_v (v_eq rfl rfl) rfl<|rA rfl rfl<|rN<|zav rfl ?_
 refine rG<|rs_v (v_eq rfl rfl) rfl<|rA rfl rfl<|rN<|zcz rfl ?_
 refine rG<|rM rfl rfl<|rM rfl rfl<|rs_gv rfl rfl (v_move rfl) rfl<|rs_gv rfl rfl (v_eq rfl rfl) rfl ?_
 refine rs_v (zbf rfl rfl) rfl ?_
 refine rM rfl rfl<|rs_gv rfl rfl (v_move rfl) rfl<|rs_gv rfl rfl (v_eq rfl rfl) rfl ?_
 refine rs_v (zbf rfl rfl) rfl ?_
 refine rA rfl rfl<|rN<|tr_ret<|zbr<|zaz<|q_ret (zao rfl rfl) ?_
 exact ⟨rfl,rfl⟩
theorem c_taken_2f4 (χ:Chi) (h:Heap):
 Cl Tryz.prog χ 89 #[.int .u8 2,.bool false,.int .u8 4] h (fun r h'=>r=.bool false∧h'=h):=by
 refine zak Tryz.func89 rfl rfl rfl ?_
 have K:Keep [] h h:=Keep.refl _ _
 refine rG<|rA rfl rfl<|rN<|tr_seq<|rG<|rM rfl rfl<|rN<|zaj<|tr_seq<|rG<|rs_v (v_eq rfl rfl) rfl<|rA rfl rfl<|rN<|zav rfl ?_
 refine rG<|rs_v (v_eq rfl rfl) rfl<|rA rfl rfl<|rN<|zav rfl ?_
 refine rG<|rs_v (v_eq rfl rfl) rfl<|rA rfl rfl<|rN<|zav rfl ?_
 refine tr_reg<|rs_v (v_eq rfl rfl) rfl<|rA rfl rfl<|rN<|zav rfl ?_
 refine rG<|rs_v (v_eq rfl rfl) rfl<|rA rfl rfl<|rN<|zcz rfl ?_
 refine rG<|rM rfl rfl<|rM rfl rfl<|rs_gv rfl rfl (v_move rfl) rfl<|rs_gv rfl rfl (v_eq rfl rfl) rfl ?_
 refine rs_v (zbf rfl rfl) rfl ?_
 refine rM rfl rfl<|rs_gv rfl rfl (v_move rfl) rfl<|rs_gv rfl rfl (v_eq rfl rfl) rfl ?_
 refine rs_v (zbf rfl rfl) rfl ?_
 refine rA rfl rfl<|rN<|tr_ret<|zbr<|zaz<|q_ret (zao rfl rfl) ?_
 exact ⟨rfl,rfl⟩
theorem c_taken_2f5 (χ:Chi) (h:Heap):
 Cl Tryz.prog χ 89 #[.int .u8 2,.bool false,.int .u8 5] h (fun r h'=>r=.bool true∧h'=h):=by
 refine zak Tryz.func89 rfl rfl rfl ?_
 have K:Keep [] h h:=Keep.refl _ _
 refine rG<|rA rfl rfl<|rN<|tr_seq<|rG<|rM rfl rfl<|rN<|zaj<|tr_seq<|rG<|rs_v (v_eq rfl rfl) rfl<|rA rfl rfl<|rN<|zav rfl ?_
 refine rG<|rs_v (v_eq rfl rfl) rfl<|rA rfl rfl<|rN<|zav rfl ?_
 refine rG<|rs_v (v_eq rfl rfl) rfl<|rA rfl rfl<|rN<|zav rfl ?_
 refine tr_reg<|rs_v (v_eq rfl rfl) rfl<|rA rfl rfl<|rN<|zav rfl ?_
 refine rG<|rs_v (v_eq rfl rfl) rfl<|rA rfl rfl<|rN<|zcz rfl ?_
 refine rG<|rM rfl rfl<|rM rfl rfl<|rs_gv rfl rfl (v_move rfl) rfl<|rs_gv rfl rfl (v_eq rfl rfl) rfl ?_
 refine rs_v (zbf rfl rfl) rfl ?_
 refine rM rfl rfl<|rs_gs rfl rfl rfl rfl<|rs_gs rfl rfl rfl rfl<|rs_v (zbq rfl rfl) rfl ?_
 refine rA rfl rfl<|rN<|tr_ret<|zbr<|zaz<|q_ret (zao rfl rfl) ?_
 exact ⟨rfl,rfl⟩
theorem c_taken_3t (χ:Chi) (h:Heap) (last:Int):
 Cl Tryz.prog χ 89 #[.int .u8 3,.bool true,.int .u8 last] h (fun r h'=>r=.bool true∧h'=h):=by
 refine zak Tryz.func89 rfl rfl rfl ?_
 have K:Keep [] h h:=Keep.refl _ _
 refine rG<|rA rfl rfl<|rN<|tr_seq<|rG<|rM rfl rfl<|rN<|zaj<|tr_seq<|rG<|rs_v (v_eq rfl rfl) rfl<|rA rfl rfl<|rN<|zav rfl ?_
 refine rG<|rs_v (v_eq rfl rfl) rfl<|rA rfl rfl<|rN<|zav rfl ?_
 refine rG<|rs_v (v_eq rfl rfl) rfl<|rA rfl rfl<|rN<|zav rfl ?_
 refine tr_reg<|rs_v (v_eq rfl rfl) rfl<|rA rfl rfl<|rN<|zav rfl ?_
 refine rG<|rs_v (v_eq rfl rfl) rfl<|rA rfl rfl<|rN<|zav rfl ?_
 refine rG<|rs_v (v_eq rfl rfl) rfl<|rA rfl rfl<|rN<|zcz rfl ?_
 refine rG<|rM rfl rfl<|rM rfl rfl<|rs_gs rfl rfl rfl rfl<|rs_gs rfl rfl rfl rfl<|rs_v (zbq rfl rfl) rfl ?_
 refine rM rfl rfl<|rs_gs rfl rfl rfl rfl<|rs_gs rfl rfl rfl rfl<|rs_v (zbq rfl rfl) rfl ?_
 refine rA rfl rfl<|rN<|tr_ret<|zbr<|zaz<|q_ret (zao rfl rfl) ?_
 exact ⟨rfl,rfl⟩
theorem c_taken_3f0 (χ:Chi) (h:Heap):
 Cl Tryz.prog χ 89 #[.int .u8 3,.bool false,.int .u8 0] h (fun r h'=>r=.bool false∧h'=h):=by
 refine zak Tryz.func89 rfl rfl rfl ?_
 have K:Keep [] h h:=Keep.refl _ _
 refine rG<|rA rfl rfl<|rN<|tr_seq<|rG<|rM rfl rfl<|rN<|zaj<|tr_seq<|rG<|rs_v (v_eq rfl rfl) rfl<|rA rfl rfl<|rN<|zav rfl ?_
 refine rG<|rs_v (v_eq rfl rfl) rfl<|rA rfl rfl<|rN<|zav rfl ?_
 refine rG<|rs_v (v_eq rfl rfl) rfl<|rA rfl rfl<|rN<|zav rfl ?_
 refine tr_reg<|rs_v (v_eq rfl rfl) rfl<|rA rfl rfl<|rN<|zav rfl ?_
 refine rG<|rs_v (v_eq rfl rfl) rfl<|rA rfl rfl<|rN<|zav rfl ?_
 refine rG<|rs_v (v_eq rfl rfl) rfl<|rA rfl rfl<|rN<|zcz rfl ?_
 refine rG<|rM rfl rfl<|rM rfl rfl<|rs_gv rfl rfl (v_move rfl) rfl<|rs_gv rfl rfl (v_eq rfl rfl) rfl ?_
 refine rs_v (zbf rfl rfl) rfl ?_
 refine rM rfl rfl<|rs_gv rfl rfl (v_move rfl) rfl<|rs_gv rfl rfl (v_eq rfl rfl) rfl ?_
 refine rs_v (zbf rfl rfl) rfl ?_
 refine rA rfl rfl<|rN<|tr_ret<|zbr<|zaz<|q_ret (zao rfl rfl) ?_
 exact ⟨rfl,rfl⟩
theorem c_taken_3f1 (χ:Chi) (h:Heap):
 Cl Tryz.prog χ 89 #[.int .u8 3,.bool false,.int .u8 1] h (fun r h'=>r=.bool false∧h'=h):=by
 refine zak Tryz.func89 rfl rfl rfl ?_
 have K:Keep [] h h:=Keep.refl _ _
 refine rG<|rA rfl rfl<|rN<|tr_seq<|rG<|rM rfl rfl<|rN<|zaj<|tr_seq<|rG<|rs_v (v_eq rfl rfl) rfl<|rA rfl rfl<|rN<|zav rfl ?_
 refine rG<|rs_v (v_eq rfl rfl) rfl<|rA rfl rfl<|rN<|zav rfl ?_
 refine rG<|rs_v (v_eq rfl rfl) rfl<|rA rfl rfl<|rN<|zav rfl ?_
 refine tr_reg<|rs_v (v_eq rfl rfl) rfl<|rA rfl rfl<|rN<|zav rfl ?_
 refine rG<|rs_v (v_eq rfl rfl) rfl<|rA rfl rfl<|rN<|zav rfl ?_
 refine rG<|rs_v (v_eq rfl rfl) rfl<|rA rfl rfl<|rN<|zcz rfl ?_
 refine rG<|rM rfl rfl<|rM rfl rfl<|rs_gv rfl rfl (v_move rfl) rfl<|rs_gv rfl rfl (v_eq rfl rfl) rfl ?_
 refine rs_v (zbf rfl rfl) rfl ?_
 refine rM rfl rfl<|rs_gv rfl rfl (v_move rfl) rfl<|rs_gv rfl rfl (v_eq rfl rfl) rfl ?_
 refine rs_v (zbf rfl rfl) rfl ?_
 refine rA rfl rfl<|rN<|tr_ret<|zbr<|zaz<|q_ret (zao rfl rfl) ?_
 exact ⟨rfl,rfl⟩
theorem c_taken_3f2 (χ:Chi) (h:Heap):
 Cl Tryz.prog χ 89 #[.int .u8 3,.bool false,.int .u8 2] h (fun r h'=>r=.bool true∧h'=h):=by
 refine zak Tryz.func89 rfl rfl rfl ?_
 have K:Keep [] h h:=Keep.refl _ _
 refine rG<|rA rfl rfl<|rN<|tr_seq<|rG<|rM rfl rfl<|rN<|zaj<|tr_seq<|rG<|rs_v (v_eq rfl rfl) rfl<|rA rfl rfl<|rN<|zav rfl ?_
 refine rG<|rs_v (v_eq rfl rfl) rfl<|rA rfl rfl<|rN<|zav rfl ?_
 refine rG<|rs_v (v_eq rfl rfl) rfl<|rA rfl rfl<|rN<|zav rfl ?_
 refine tr_reg<|rs_v (v_eq rfl rfl) rfl<|rA rfl rfl<|rN<|zav rfl ?_
 refine rG<|rs_v (v_eq rfl rfl) rfl<|rA rfl rfl<|rN<|zav rfl ?_
 refine rG<|rs_v (v_eq rfl rfl) rfl<|rA rfl rfl<|rN<|zcz rfl ?_
 refine rG<|rM rfl rfl<|rM rfl rfl<|rs_gv rfl rfl (v_move rfl) rfl<|rs_gv rfl rfl (v_eq rfl rfl) rfl ?_
 refine rs_v (zbf rfl rfl) rfl ?_
 refine rM rfl rfl<|rs_gv rfl rfl (v_move rfl) rfl<|rs_gv rfl rfl (v_eq rfl rfl) rfl ?_
 refine rs_v (zbf rfl rfl) rfl ?_
 refine rA rfl rfl<|rN<|tr_ret<|zbr<|zaz<|q_ret (zao rfl rfl) ?_
 exact ⟨rfl,rfl⟩
theorem c_taken_3f3 (χ:Chi) (h:Heap):
 Cl Tryz.prog χ 89 #[.int .u8 3,.bool false,.int .u8 3] h (fun r h'=>r=.bool false∧h'=h):=by
 refine zak Tryz.func89 rfl rfl rfl ?_
 have K:Keep [] h h:=Keep.refl _ _
 refine rG<|rA rfl rfl<|rN<|tr_seq<|rG<|rM rfl rfl<|rN<|zaj<|tr_seq<|rG<|rs_v (v_eq rfl rfl) rfl<|rA rfl rfl<|rN<|zav rfl ?_
 refine rG<|rs_v (v_eq rfl rfl) rfl<|rA rfl rfl<|rN<|zav rfl ?_
 refine rG<|rs_v (v_eq rfl rfl) rfl<|rA rfl rfl<|rN<|zav rfl ?_
 refine tr_reg<|rs_v (v_eq rfl rfl) rfl<|rA rfl rfl<|rN<|zav rfl ?_
 refine rG<|rs_v (v_eq rfl rfl) rfl<|rA rfl rfl<|rN<|zav rfl ?_
 refine rG<|rs_v (v_eq rfl rfl) rfl<|rA rfl rfl<|rN<|zcz rfl ?_
 refine rG<|rM rfl rfl<|rM rfl rfl<|rs_gv rfl rfl (v_move rfl) rfl<|rs_gv rfl rfl (v_eq rfl rfl) rfl ?_
 refine rs_v (zbf rfl rfl) rfl ?_
 refine rM rfl rfl<|rs_gv rfl rfl (v_move rfl) rfl<|rs_gv rfl rfl (v_eq rfl rfl) rfl ?_
 refine rs_v (zbf rfl rfl) rfl ?_
 refine rA rfl rfl<|rN<|tr_ret<|zbr<|zaz<|q_ret (zao rfl rfl) ?_
 exact ⟨rfl,rfl⟩
theorem c_taken_3f4 (χ:Chi) (h:Heap):
 Cl Tryz.prog χ 89 #[.int .u8 3,.bool false,.int .u8 4] h (fun r h'=>r=.bool true∧h'=h):=by
 refine zak Tryz.func89 rfl rfl rfl ?_
 have K:Keep [] h h:=Keep.refl _ _
 refine rG<|rA rfl rfl<|rN<|tr_seq<|rG<|rM rfl rfl<|rN<|zaj<|tr_seq<|rG<|rs_v (v_eq rfl rfl) rfl<|rA rfl rfl<|rN<|zav rfl ?_
 refine rG<|rs_v (v_eq rfl rfl) rfl<|rA rfl rfl<|rN<|zav rfl ?_
 refine rG<|rs_v (v_eq rfl rfl) rfl<|rA rfl rfl<|rN<|zav rfl ?_
 refine tr_reg<|rs_v (v_eq rfl rfl) rfl<|rA rfl rfl<|rN<|zav rfl ?_
 refine rG<|rs_v (v_eq rfl rfl) rfl<|rA rfl rfl<|rN<|zav rfl ?_
 refine rG<|rs_v (v_eq rfl rfl) rfl<|rA rfl rfl<|rN<|zcz rfl ?_
 refine rG<|rM rfl rfl<|rM rfl rfl<|rs_gv rfl rfl (v_move rfl) rfl<|rs_gv rfl rfl (v_eq rfl rfl) rfl ?_
 refine rs_v (zbf rfl rfl) rfl ?_
 refine rM rfl rfl<|rs_gs rfl rfl rfl rfl<|rs_gs rfl rfl rfl rfl<|rs_v (zbq rfl rfl) rfl ?_
 refine rA rfl rfl<|rN<|tr_ret<|zbr<|zaz<|q_ret (zao rfl rfl) ?_
 exact ⟨rfl,rfl⟩
theorem c_taken_3f5 (χ:Chi) (h:Heap):
 Cl Tryz.prog χ 89 #[.int .u8 3,.bool false,.int .u8 5] h (fun r h'=>r=.bool false∧h'=h):=by
 refine zak Tryz.func89 rfl rfl rfl ?_
 have K:Keep [] h h:=Keep.refl _ _
 refine rG<|rA rfl rfl<|rN<|tr_seq<|rG<|rM rfl rfl<|rN<|zaj<|tr_seq<|rG<|rs_v (v_eq rfl rfl) rfl<|rA rfl rfl<|rN<|zav rfl ?_
 refine rG<|rs_v (v_eq rfl rfl) rfl<|rA rfl rfl<|rN<|zav rfl ?_
 refine rG<|rs_v (v_eq rfl rfl) rfl<|rA rfl rfl<|rN<|zav rfl ?_
 refine tr_reg<|rs_v (v_eq rfl rfl) rfl<|rA rfl rfl<|rN<|zav rfl ?_
 refine rG<|rs_v (v_eq rfl rfl) rfl<|rA rfl rfl<|rN<|zav rfl ?_
 refine rG<|rs_v (v_eq rfl rfl) rfl<|rA rfl rfl<|rN<|zcz rfl ?_
 refine rG<|rM rfl rfl<|rM rfl rfl<|rs_gv rfl rfl (v_move rfl) rfl<|rs_gv rfl rfl (v_eq rfl rfl) rfl ?_
 refine rs_v (zbf rfl rfl) rfl ?_
 refine rM rfl rfl<|rs_gv rfl rfl (v_move rfl) rfl<|rs_gv rfl rfl (v_eq rfl rfl) rfl ?_
 refine rs_v (zbf rfl rfl) rfl ?_
 refine rA rfl rfl<|rN<|tr_ret<|zbr<|zaz<|q_ret (zao rfl rfl) ?_
 exact ⟨rfl,rfl⟩
theorem c_taken_x (χ:Chi) (h:Heap) (op:Int) (ok:Bool) (last:Int) (o0:decide (op=0)=false) (o1:decide (op=1)=false) (o2:decide (op=2)=false) (o3:decide (op=3)=false) (o4:decide (op=4)=false) (o5:decide (op=5)=false):
 Cl Tryz.prog χ 89 #[.int .u8 op,.bool ok,.int .u8 last] h (fun r h'=>r=.bool false∧h'=h):=by
 refine zak Tryz.func89 rfl rfl rfl ?_
 have K:Keep [] h h:=Keep.refl _ _
 refine rG<|rA rfl rfl<|rN<|tr_seq<|rG<|rM rfl rfl<|rN<|zaj<|tr_seq<|rG<|rs_v (v_eq rfl rfl) rfl<|rA rfl rfl<|rN<|zav (lkb o0) ?_
 refine rG<|rs_v (v_eq rfl rfl) rfl<|rA rfl rfl<|rN<|zav (lkb o1) ?_
 refine rG<|rs_v (v_eq rfl rfl) rfl<|rA rfl rfl<|rN<|zav (lkb o4) ?_
 refine tr_reg<|rs_v (v_eq rfl rfl) rfl<|rA rfl rfl<|rN<|zav (lkb o5) ?_
 refine rG<|rs_v (v_eq rfl rfl) rfl<|rA rfl rfl<|rN<|zav (lkb o2) ?_
 refine rG<|rs_v (v_eq rfl rfl) rfl<|rA rfl rfl<|rN<|zav (lkb o3) ?_
 refine zah<|zbc<|q_thn<|rG<|rA rfl rfl<|rN<|tr_ret<|q_ret (zao rfl rfl) ?_
 exact ⟨rfl,rfl⟩
theorem c_taken (χ:Chi) (h:Heap) (W:List SpanD) (p:Pos) (s:StepD) (ok:Bool) (last:Int) (hk:okl W p ok last):
 Cl Tryz.prog χ 89 #[.int .u8 s.op,.bool ok,.int .u8 last] h (fun r h'=>r=.bool (stepP W p s).isSome∧h'=h):=by
 obtain ⟨op,key⟩:=s
 by_cases o0:op=0
 · subst o0;exact c_taken_0 χ h ok last
 by_cases o1:op=1
 · subst o1;exact c_taken_1 χ h ok last
 by_cases o4:op=4
 · subst o4;exact c_taken_4 χ h ok last
 by_cases o5:op=5
 · subst o5;exact c_taken_5 χ h ok last
 by_cases o2:op=2
 · subst o2
   rcases hk with ⟨rfl,j,rfl,_⟩|⟨rfl,⟨rfl,rfl|rfl⟩|⟨rfl,rfl|rfl⟩|⟨rfl,rfl|rfl⟩⟩
   · exact c_taken_2t χ h last
   · exact c_taken_2f5 χ h
   · exact c_taken_2f3 χ h
   · exact c_taken_2f4 χ h
   · exact c_taken_2f2 χ h
   · exact c_taken_2f0 χ h
   · exact c_taken_2f1 χ h
 by_cases o3:op=3
 · subst o3
   rcases hk with ⟨rfl,j,rfl,_⟩|⟨rfl,⟨rfl,rfl|rfl⟩|⟨rfl,rfl|rfl⟩|⟨rfl,rfl|rfl⟩⟩
   · exact c_taken_3t χ h last
   · exact c_taken_3f5 χ h
   · exact c_taken_3f3 χ h
   · exact c_taken_3f4 χ h
   · exact c_taken_3f2 χ h
   · exact c_taken_3f0 χ h
   · exact c_taken_3f1 χ h
 · have e:(stepP W p ⟨op,key⟩)=none:=by simp [stepP,o0,o1,o2,o3,o4,o5]
   rw [e]
   exact c_taken_x χ h op ok last (decide_eq_false o0) (decide_eq_false o1) (decide_eq_false o2) (decide_eq_false o3) (decide_eq_false o4) (decide_eq_false o5)
theorem rk_skip {h1 h2 h3:Heap} {v:Value} {ks:List KeyD} {c:Nat} (hr:RKeys (Up N0 h1 h2) h2 v ks) (k0:h1.size≤h2.size) (K:Keep [c] h2 h3) (hc:c<h1.size):RKeys (Up N0 h1 h3) h3 v ks:=
 (hr.stab (K.stab fun b hb=>⟨(n0low h1).up k0 b hb,by
  rcases hb with hb|hb
  · exact hb.elim
  · simp;omega⟩)).mono (Up.grow K.1)
theorem c_walkSpans (χ:Chi) (h:Heap) (A:Nat→Prop) (hA:Low A h) (W:List SpanD) (t:TypeId) (v0:Value) (I:ItI) (hit:IterOK Tryz.prog χ W t v0 I) (F0:Nat→Prop) (hI0:I .nowhere F0 h)
 (hAF:∀b,A b→¬F0 b) (sv:Value) (steps:List StepD) (hS:RSteps A h sv steps) (hsn:steps.length≤1000) (hz:∀s,s∈steps→s.key.size≤9223372036854775807) (hWn:∀s,s∈W→s.ks.length≤100000):
 Cl Tryz.prog χ 46 #[.iface t v0,sv] h (fun r h'=>RAnss (Up N0 h h') h' r (walkP W .nowhere steps)∧KeepP F0 h h'):=by
 obtain ⟨hlen,a,c,rfl,hx⟩:=hS.form
 refine zak Tryz.func46 rfl rfl rfl ?_
 have K:Keep [] h h:=Keep.refl _ _
 refine rG<|rA rfl rfl<|rN<|rG<|rA rfl rfl<|rN<|rG<|rA rfl rfl<|rA rfl rfl<|rN<|tr_seq<|rG<|rM rfl rfl<|rs_v (v_len zis rfl) rfl ?_
 refine rM rfl rfl<|rN<|zaj ?_
 refine zbo (fun m E h'=>∃k v n ok last F,k≤steps.length∧m=steps.length - k∧E= [(0,.iface t v0),(5,v),(6,.bool ok),(7,.int .u8 last),(12,.slice a steps.length c),(13,.int .i64 (steps.length:Int)),(14,.int .i64 (k:Int))]∧I (endP W .nowhere (steps.take k)) F h'∧(∀b,F b→F0 b∨h.size≤b)∧KeepP F0 h h'∧n=(walkP W .nowhere (steps.take k)).length∧OutD F h h' h.size 138 5 cAns v n (walkP W .nowhere (steps.take k))∧okl W (endP W .nowhere (steps.take k)) ok last) steps.length [(0,_),(5,_),(6,_),(7,_),(12,_),(13,_),(14,_)] ⟨rfl,rfl,rfl,rfl,rfl,rfl,rfl,trivial⟩ ⟨0,_,0,false,0,F0,Nat.zero_le _,rfl,rfl,hI0,fun b hb=>.inl hb,KeepP.refl _ _,rfl,OutD.nil _ _ _ _ _ _ _,.inr ⟨rfl,.inr (.inr ⟨rfl,.inl rfl⟩)⟩⟩ ?_
 rintro m E hL1 ⟨k,v,n,ok,last,F,hk,rfl,rfl,hI,hFF,KP,hn,hout,hok⟩
 have K:=Keep.refl [] hL1
 have hout0:=hout
 have hlow:=hit.low hI
 have hz0:=KP.1
 obtain ⟨xs,G,O,hOD,hrow,hG⟩:=hout
 have hob:=own_ne O;have KL:=Keep.refl [] hL1
 refine rG<|rs_v (v_lt rfl rfl) rfl<|rN<|tr_seq ?_
 refine tr_ifn rfl (fun hif=>?_) (fun hif=>?_)
 ·
  simp only [dT,dF] at hif
  have hkk:k=steps.length:=by omega
  subst hkk
  refine zbm<|zay<|zbd<|zbb<|q_thn<|rG<|rM rfl rfl<|rA rfl rfl<|rN<|tr_ret<|q_ret (zao rfl rfl) ?_
  rw [List.take_length] at hout0 hn
  exact ⟨hout0.fin zof hn (Nat.le_refl _) cAns_r,KP⟩
 simp only [dT,dF] at hif
 rcases hx with rfl|⟨b,o,rfl,hAb,hR⟩
 · simp at hif;omega
 obtain ⟨s,hsk⟩:=ex_get (L:=steps) (k:=k) (by omega)
 have hkl:k<steps.length:=(List.getElem?_eq_some_iff.1 hsk).1
 have hcells:zbh hL1 b (o+k*2) s.cells:=(KP.stab hA hAF).cells hAb (hR k s hsk)
 have hkz:=hz s (List.mem_of_getElem? hsk)
 have hnk:n=k:=by rw [hn,znc,List.length_take];omega
 generalize hp:endP W .nowhere (steps.take k)=p at*
 refine zah<|q_thn<|tr_seq<|zaj<|rG<|rs_v (zcb zis zkp rfl rfl (by omega)) rfl ?_
 refine rs_v (zbe (vs:= [_,_]) zuw rfl (by exact hcells)) rfl ?_
 refine rs_w (w_new zmn) rfl ?_
 rintro _ h2 ⟨rfl,B2,K2,Z2⟩
 have O:=O.keep2 K2 (fun x hm=>by have:=hob x hm;simp;try omega)
 have S2:=K.1;have K:=K.new0 K2;have KL:=KL.new0 K2
 refine rs_w0 (w_put zkp rfl rfl rfl rfl B2 rfl) ?_
 rintro _ h3 ⟨B3,K3⟩
 have O:=O.keep2 K3 (fun x hm=>by have:=hob x hm;simp;try omega)
 have B2:=B3;have K:=K.new1 K3 (by first|(right;omega)|(left;simp;done));have Z3:=K3.1;have KL:=KL.new1 K3 (.inr (by omega))
 refine rN<|tr_seq<|rG<|rF zjz rfl rfl<|rs_v (v_load zpj rfl (by exact B2.cell _ rfl)) rfl ?_
 refine rM rfl rfl<|rM rfl rfl<|rs_w (w_call (vs:= [_,_,_]) ok_impl_taken rfl ⟨rfl,rfl,rfl,trivial⟩ (c_taken χ _ W p s ok last hok)) rfl ?_
 rintro _ h4 ⟨rfl,hsame⟩;have hsame:=hsame.symm;subst hsame
 refine rs_v (v_not rfl) rfl<|rN ?_
 refine tr_if rfl (fun hif=>?_) (fun hif=>?_)
 ·
  have hst:stepP W p s=none:=by simpa using hif
  refine rG<|rM rfl rfl<|rs_v (v_build0 (zrd)) rfl ?_
  refine rs_w (w_new1 zeq zfz zgl rfl rfl rfl rfl rfl) rfl ?_
  rintro _ h5 ⟨rfl,B5,K5,Z5⟩
  have B2:=K5.blk (by simp) B2
  have O:=O.keep2 K5 (fun x hm=>by have:=hob x hm;simp;try omega)
  have S5:=K.1;have K:=K.new0 K5;have KL:=KL.new0 K5
  refine rs_w (w_app1 zeq zjb rfl rfl rfl O rfl rfl B5 rfl (by omega) (by omega) (by omega)) rfl ?_
  rintro v6 h6 ⟨O6,K6,N6,F6⟩
  have Ka:=K6;have Oa:=O6;have Fa:=F6;have Z6:=K6.1
  have B2:=K6.blk (fun hm=>by first|(have:=hob _ hm;omega)|exact absurd rfl (hnb _ hm)) B2
  have B5:=K6.blk (fun hm=>by first|(have:=hob _ hm;omega)|exact absurd rfl (hnb _ hm)) B5
  refine rA rfl rfl<|rN<|zbm<|zay<|zbb<|q_thn<|tr_reg<|rs_v (v_add rfl rfl (by omega) (by omega)) rfl ?_
  refine rM rfl rfl<|rs_nil ?_
  refine q_lp (steps.length - (k+1)) [(0,_),(5,_),(6,_),(7,_),(12,_),(13,_),(14,_)] (by omega) ⟨rfl,rfl,rfl,rfl,rfl,rfl,rfl,trivial⟩ ⟨k+1,_,n+1,_,_,F,by omega,rfl,rfl,?_,hFF,?_,?_,?_,?_⟩
  · rw [zbt hsk,zph,hp,hst];exact hit.after hI KL Ka hOD
  · exact (KP.trans (KL.kp0 (F:=fun _=>False)) (by simp)).trans (Ka.kp (F:=fun x=>h.size≤x) (fun x hx=>(hob x hx).1)) (fun x hx=>.inr hx)
  · rw [zbt hsk,znz,List.length_append,←hn];rfl
  · rw [zbt hsk,znz,hp,hst]
    exact OutD.snoc zof (fun x hx=>⟨(hob x hx).1,by have:=(hob x hx).2;omega⟩) hOD hrow hG hlow (by omega) KL Oa Ka Fa rfl (⟨_,rfl,SlR.nil _ _ _ _⟩)
  · rw [zbt hsk,zph,hp,hst];exact hok
 have hst:∃pn,stepP W p s=some pn:=by
  cases hs:stepP W p s with
  |none=>rw [hs] at hif;simp at hif
  |some pn=>exact ⟨pn,rfl⟩
 obtain ⟨pn,hst⟩:=hst
 refine zah<|q_thn<|rG<|rA rfl rfl<|rN ?_
 refine tr_cut (fun E h'=>∃r F',E= [(0,.iface t v0),(5,v),(9,.pointer (some ⟨hL1.size,0,none⟩)),(12,.slice (some ⟨b,o,none⟩) steps.length c),(13,.int .i64 (steps.length:Int)),(14,.int .i64 (k:Int)),(10,r)]∧I pn F' h'∧(∀b,F' b→F b∨h3.size≤b)∧KeepP F h3 h'∧Ret W pn F' h' r) ?_ ?_
 ·
  refine rG<|rF zjz rfl rfl<|rs_v (v_load zpj rfl (by exact B2.cell _ rfl)) rfl ?_
  refine rN<|zaj<|rG<|rs_v (v_eq rfl rfl) rfl<|rA rfl rfl<|rN ?_
  refine tr_if rfl (fun hif=>?_) (fun hif=>?_)
  ·
   simp only [dT,dF] at hif
   have hpn:pFirst W=pn:=by simpa [stepP,hif] using hst
   refine tr_reg<|rM rfl rfl<|rs_w (zce (vs:= []) (hit.first (hit.stab hI (KL.st hlow) KL.1)) rfl trivial) rfl ?_
   rintro r7 h7 ⟨F',hI',hF',KPm,hret⟩
   refine rA rfl rfl<|rs_nil<|zbc ?_
   refine q_cut [(0,_),(5,_),(9,_),(12,_),(13,_),(14,_),(10,_)] ⟨rfl,rfl,rfl,rfl,rfl,rfl,rfl,trivial⟩ ⟨_,F',rfl,(by rw [←hpn];exact hI'),hF',KPm,(by rw [←hpn];exact hret)⟩
  simp only [dT,dF] at hif
  have hno0:=hif
  refine rG<|rs_v (v_eq rfl rfl) rfl<|rA rfl rfl<|rN ?_
  refine tr_if rfl (fun hif=>?_) (fun hif=>?_)
  ·
   simp only [dT,dF] at hif
   have hpn:pLast W=pn:=by simpa [stepP,hif] using hst
   refine tr_reg<|rM rfl rfl<|rs_w (zce (vs:= []) (hit.last (hit.stab hI (KL.st hlow) KL.1)) rfl trivial) rfl ?_
   rintro r8 h8 ⟨F',hI',hF',KPm,hret⟩
   refine rA rfl rfl<|rs_nil<|zbc ?_
   refine q_cut [(0,_),(5,_),(9,_),(12,_),(13,_),(14,_),(10,_)] ⟨rfl,rfl,rfl,rfl,rfl,rfl,rfl,trivial⟩ ⟨_,F',rfl,(by rw [←hpn];exact hI'),hF',KPm,(by rw [←hpn];exact hret)⟩
  simp only [dT,dF] at hif
  have hno1:=hif
  refine rG<|rs_v (v_eq rfl rfl) rfl<|rA rfl rfl<|rN ?_
  refine tr_if rfl (fun hif=>?_) (fun hif=>?_)
  ·
   simp only [dT,dF] at hif
   have hcan:zhd p=true∧pNext W p=pn:=by simpa [stepP,hif] using hst
   have hpn:=hcan.2
   refine tr_reg<|rM rfl rfl<|rs_w (zce (vs:= []) (hit.next (hit.stab hI (KL.st hlow) KL.1) hcan.1) rfl trivial) rfl ?_
   rintro r9 h9 ⟨F',hI',hF',KPm,hret⟩
   refine rA rfl rfl<|rs_nil<|zbc ?_
   refine q_cut [(0,_),(5,_),(9,_),(12,_),(13,_),(14,_),(10,_)] ⟨rfl,rfl,rfl,rfl,rfl,rfl,rfl,trivial⟩ ⟨_,F',rfl,(by rw [←hpn];exact hI'),hF',KPm,(by rw [←hpn];exact hret)⟩
  simp only [dT,dF] at hif
  have hno2:=hif
  refine rG<|rs_v (v_eq rfl rfl) rfl<|rA rfl rfl<|rN ?_
  refine tr_if rfl (fun hif=>?_) (fun hif=>?_)
  ·
   simp only [dT,dF] at hif
   have hcan:zje p=true∧pPrev W p=pn:=by simpa [stepP,hif] using hst
   have hpn:=hcan.2
   refine tr_reg<|rM rfl rfl<|rs_w (zce (vs:= []) (hit.prev (hit.stab hI (KL.st hlow) KL.1) hcan.1) rfl trivial) rfl ?_
   rintro r10 h10 ⟨F',hI',hF',KPm,hret⟩
   refine rA rfl rfl<|rs_nil<|zbc ?_
   refine q_cut [(0,_),(5,_),(9,_),(12,_),(13,_),(14,_),(10,_)] ⟨rfl,rfl,rfl,rfl,rfl,rfl,rfl,trivial⟩ ⟨_,F',rfl,(by rw [←hpn];exact hI'),hF',KPm,(by rw [←hpn];exact hret)⟩
  simp only [dT,dF] at hif
  have hno3:=hif
  refine rG<|rs_v (v_eq rfl rfl) rfl<|rA rfl rfl<|rN ?_
  refine tr_if rfl (fun hif=>?_) (fun hif=>?_)
  ·
   simp only [dT,dF] at hif
   have hpn:pGE W s.key=pn:=by simpa [stepP,hif] using hst
   refine tr_reg<|rM rfl rfl<|rF zqi rfl rfl<|rs_v (v_load zcn rfl (by exact B2.cell _ rfl)) rfl ?_
   refine rs_w (zmg zeg zdk zgd rfl (by omega)) rfl ?_
   rintro _ h11 ⟨c11,rfl,K11,hbk⟩
   have Kv:=K11
   have B2:=K11.blk (by simp) B2
   have O:=O.keep2 K11 (fun x hm=>by have:=hob x hm;simp;try omega)
   have K:=K.new0 K11;have Z11:=K11.1;have KL:=KL.new0 K11
   refine rs_w (zce (vs:= [_]) (hit.ge (key:=s.key) (hit.stab hI (KL.st hlow) KL.1) (hbk.mono (fun b hb hf=>by have:=hlow b hf;omega))) rfl ⟨rfl,trivial⟩) rfl ?_
   rintro r12 h12 ⟨F',hI',hF',KPm,hret⟩
   refine rA rfl rfl<|rs_nil<|zbc ?_
   refine q_cut [(0,_),(5,_),(9,_),(12,_),(13,_),(14,_),(10,_)] ⟨rfl,rfl,rfl,rfl,rfl,rfl,rfl,trivial⟩ ⟨_,F',rfl,(by rw [←hpn];exact hI'),(fun b hb=>(hF' b hb).imp id (fun h9=>by have:=Kv.1;omega)),((Kv.kp0).trans KPm (fun b hb=>.inl hb)),(by rw [←hpn];exact hret)⟩
  simp only [dT,dF] at hif
  have hno4:=hif
  refine rG<|rs_v (v_eq rfl rfl) rfl<|rA rfl rfl<|rN ?_
  refine tr_if rfl (fun hif=>?_) (fun hif=>?_)
  ·
   simp only [dT,dF] at hif
   have hpn:pLT W s.key=pn:=by simpa [stepP,hif] using hst
   refine tr_reg<|rM rfl rfl<|rF zqi rfl rfl<|rs_v (v_load zcn rfl (by exact B2.cell _ rfl)) rfl ?_
   refine rs_w (zmg zeg zdk zgd rfl (by omega)) rfl ?_
   rintro _ h13 ⟨c13,rfl,K13,hbk⟩
   have Kv:=K13
   have B2:=K13.blk (by simp) B2
   have O:=O.keep2 K13 (fun x hm=>by have:=hob x hm;simp;try omega)
   have K:=K.new0 K13;have Z13:=K13.1;have KL:=KL.new0 K13
   refine rs_w (zce (vs:= [_]) (hit.lt (key:=s.key) (hit.stab hI (KL.st hlow) KL.1) (hbk.mono (fun b hb hf=>by have:=hlow b hf;omega))) rfl ⟨rfl,trivial⟩) rfl ?_
   rintro r14 h14 ⟨F',hI',hF',KPm,hret⟩
   refine rA rfl rfl<|rs_nil<|zbc ?_
   refine q_cut [(0,_),(5,_),(9,_),(12,_),(13,_),(14,_),(10,_)] ⟨rfl,rfl,rfl,rfl,rfl,rfl,rfl,trivial⟩ ⟨_,F',rfl,(by rw [←hpn];exact hI'),(fun b hb=>(hF' b hb).imp id (fun h9=>by have:=Kv.1;omega)),((Kv.kp0).trans KPm (fun b hb=>.inl hb)),(by rw [←hpn];exact hret)⟩
  simp only [dT,dF] at hif
  have hno5:=hif
  refine zah<|zbc ?_
  exact absurd hst (by simp [stepP,hno0,hno1,hno2,hno3,hno4,hno5])
 rintro E hc ⟨r,F',rfl,hI',hF',KP',hret⟩
 have hlow':=hit.low hI'
 have hB2:¬F hL1.size:=fun hf=>by have:=hlow _ hf;omega
 have B2:=KP'.blk hB2 B2
 have hcz:=KP'.1
 have hKL:=KL.1
 have KP3:=(KP.trans (KL.kp0 (F:=fun _=>False)) (by simp)).trans KP' hFF
 have hcz3:=KP3.1
 have hFF':∀b,F' b→F0 b∨h.size≤b:=fun b hb=>(hF' b hb).elim (hFF b) (fun h9=>.inr (by omega))
 have hout4:=(hout0.move zof KL.kp0 (fun b hb=>Or.inl hb)).move zof KP' hF'
 obtain ⟨xs,G,O,hOD,hrow,hG⟩:=hout4
 have K:=Keep.refl [] hc
 have KL:=Keep.refl [] hc
 obtain ⟨q,rfl,hq⟩:=hret.form
 have hst':endP W .nowhere (steps.take (k+1))=pn:=by rw [zbt hsk,zph,hp,hst];rfl
 have hwk:walkP W .nowhere (steps.take (k+1))=walkP W .nowhere (steps.take k)++ [⟨true,(cur W pn).isSome,(cur W pn).getD zeroSpan⟩]:=by rw [zbt hsk,znz,hp,hst];rfl
 have hok':=okl_step hok hst
 refine rG<|rs_v (zih rfl (zql _)) rfl ?_
 refine rs_w (w_new zgl) rfl ?_
 rintro _ h16 ⟨rfl,B16,K16,Z16⟩
 have B2:=K16.blk (by simp) B2
 have O:=O.keep2 K16 (fun x hm=>by have:=hob x hm;simp;try omega)
 have S16:=K.1;have K:=K.new0 K16;have KL:=KL.new0 K16
 refine rs_w0 (w_put zfz rfl rfl rfl rfl B16 rfl) ?_
 rintro _ h17 ⟨B17,K17⟩
 have B2:=K17.blk (by simp;omega) B2
 have O:=O.keep2 K17 (fun x hm=>by have:=hob x hm;simp;try omega)
 have B16:=B17;have K:=K.new1 K17 (by first|(right;omega)|(left;simp;done));have Z17:=K17.1;have KL:=KL.new1 K17 (.inr (by omega))
 refine rN<|tr_seq<|rG<|rM rfl rfl<|rs_v (v_pne zde rfl rfl) rfl ?_
 refine rN ?_
 refine tr_if rfl (fun hif=>?_) (fun hif=>?_)
 ·
  rcases hq with ⟨rfl,_⟩|⟨sp,pb,po,rfl,hcur,hFp,hps⟩
  · simp at hif
  obtain ⟨sv,ev,kv,kk,hcell,r1,r2,r3⟩:=hps
  obtain ⟨a1,n1,c1,rfl⟩:=r1.form2
  obtain ⟨a2,n2,c2,rfl⟩:=r2.form2
  obtain ⟨a3,n3,c3,rfl⟩:=r3.form2
  refine tr_reg<|rM rfl rfl<|rC rfl rfl<|rs_v (zbe (vs:= [_,_,_,_]) zct rfl (by exact K.cells (by simp) hcell)) rfl ?_
  refine rs_w (w_call (vs:= [_]) zkj rfl ⟨rfl,trivial⟩ (zqb χ _ F' (hlow'.mono (by omega)) sp _ _ _ kk (r1.stab (K.st hlow')) (r2.stab (K.st hlow')) (r3.stab (K.st hlow')) (hWn sp (cur_mem hcur)))) rfl ?_
  rintro _ h18 ⟨⟨kv',rfl,hkv⟩,K18⟩
  obtain ⟨a4,c4,rfl⟩:=hkv.form2
  have Kp:=K18
  have B2:=K18.blk (by simp) B2
  have B16:=K18.blk (by simp) B16
  have O:=O.keep2 K18 (fun x hm=>by have:=hob x hm;simp;try omega)
  have K:=K.new0 K18;have Z18:=K18.1;have KL:=KL.new0 K18
  refine rF zlm rfl rfl<|rs_w0 (w_put zrc rfl rfl rfl rfl B16 rfl) ?_
  rintro _ h19 ⟨B19,K19⟩
  have B2:=K19.blk (by simp;omega) B2
  have O:=O.keep2 K19 (fun x hm=>by have:=hob x hm;simp;try omega)
  have B16:=B19;have K:=K.new1 K19 (by first|(right;omega)|(left;simp;done));have Z19:=K19.1;have KL:=KL.new1 K19 (.inr (by omega))
  refine rF zln rfl rfl<|rs_w0 (w_put zed rfl rfl rfl rfl B16 rfl) ?_
  rintro _ h20 ⟨B20,K20⟩
  have B2:=K20.blk (by simp;omega) B2
  have O:=O.keep2 K20 (fun x hm=>by have:=hob x hm;simp;try omega)
  have B16:=B20;have K:=K.new1 K20 (by first|(right;omega)|(left;simp;done));have Z20:=K20.1;have KL:=KL.new1 K20 (.inr (by omega))
  refine rN<|tr_seq ?_
  refine zdb (by kernel_rfl) (by kernel_rfl) ?_
  refine rq_v (v_move rfl)<|rq_v (v_pne zde rfl rfl) ?_
  refine rq_v (zac zjz rfl)<|rq_v (v_load zpj rfl (by exact B2.cell _ rfl)) ?_
  refine rq_v (zdq rfl)<|rq_v (zdq rfl) ?_
  refine rm_end ?_;simp only [endM,hypF,ofE,argE]
  refine q_thn<|tr_reg<|rM rfl rfl<|rs_v (zbe (vs:= [_,_,_,_,_]) ziz rfl (by exact B16.sub _ 5 rfl)) rfl ?_
  refine rs_w (w_new1 zeq zfz zgl rfl rfl rfl rfl rfl) rfl ?_
  rintro _ h21 ⟨rfl,B21,K21,Z21⟩
  have B2:=K21.blk (by simp) B2
  have B16:=K21.blk (by simp) B16
  have O:=O.keep2 K21 (fun x hm=>by have:=hob x hm;simp;try omega)
  have S21:=K.1;have K:=K.new0 K21;have KL:=KL.new0 K21
  refine rs_w (w_app1 zeq zjb rfl rfl rfl O rfl rfl B21 rfl (by omega) (by omega) (by omega)) rfl ?_
  rintro v22 h22 ⟨O22,K22,N22,F22⟩
  have Ka:=K22;have Oa:=O22;have Fa:=F22;have Z22:=K22.1
  have B2:=K22.blk (fun hm=>by first|(have:=hob _ hm;omega)|exact absurd rfl (hnb _ hm)) B2
  have B16:=K22.blk (fun hm=>by first|(have:=hob _ hm;omega)|exact absurd rfl (hnb _ hm)) B16
  have B21:=K22.blk (fun hm=>by first|(have:=hob _ hm;omega)|exact absurd rfl (hnb _ hm)) B21
  refine rA rfl rfl<|rs_nil<|zbc<|q_thn<|tr_reg<|rs_v (v_add rfl rfl (by omega) (by omega)) rfl ?_
  refine rM rfl rfl<|rs_nil ?_
  refine q_lp (steps.length - (k+1)) [(0,_),(5,_),(6,_),(7,_),(12,_),(13,_),(14,_)] (by omega) ⟨rfl,rfl,rfl,rfl,rfl,rfl,rfl,trivial⟩ ⟨k+1,_,n+1,_,_,F',by omega,rfl,rfl,?_,hFF',?_,?_,?_,?_⟩
  · rw [hst'];exact hit.after hI' KL Ka hOD
  · exact (KP3.trans (KL.kp0 (F:=fun _=>False)) (by simp)).trans (Ka.kp (F:=fun x=>h.size≤x) (fun x hx=>(hob x hx).1)) (fun x hx=>.inr hx)
  · rw [hwk,List.length_append,←hn];rfl
  · rw [hwk,hcur]
    exact OutD.snoc zof (fun x hx=>⟨(hob x hx).1,by have:=(hob x hx).2;omega⟩) hOD hrow hG hlow' (by omega) KL Oa Ka Fa rfl (⟨_,rfl,(upk (n0low _) (by omega) (rk_skip (rk_skip hkv Kp.1 K19 (by omega)) (by omega) K20 (by omega)) K21).mono (fun b hb=>hb.elim (fun e=>e.elim) (fun e=>⟨by omega,e.2⟩))⟩)
  · rw [hst'];rw [hcur] at hok';exact hok'
 rcases hq with ⟨rfl,hcur⟩|⟨sp,pb,po,rfl,_⟩
 rotate_left
 · simp at hif
 refine zah<|q_thn<|tr_seq ?_
 refine zdb (by kernel_rfl) (by kernel_rfl) ?_
 refine rq_v (v_move rfl)<|rq_v (v_pne zde rfl rfl) ?_
 refine rq_v (zac zjz rfl)<|rq_v (v_load zpj rfl (by exact B2.cell _ rfl)) ?_
 refine rq_v (zdq rfl)<|rq_v (zdq rfl) ?_
 refine rm_end ?_;simp only [endM,hypF,ofE,argE]
 refine q_thn<|tr_reg<|rM rfl rfl<|rs_v (zbe (vs:= [_,_,_,_,_]) ziz rfl (by exact B16.sub _ 5 rfl)) rfl ?_
 refine rs_w (w_new1 zeq zfz zgl rfl rfl rfl rfl rfl) rfl ?_
 rintro _ h23 ⟨rfl,B23,K23,Z23⟩
 have B2:=K23.blk (by simp) B2
 have B16:=K23.blk (by simp) B16
 have O:=O.keep2 K23 (fun x hm=>by have:=hob x hm;simp;try omega)
 have S23:=K.1;have K:=K.new0 K23;have KL:=KL.new0 K23
 refine rs_w (w_app1 zeq zjb rfl rfl rfl O rfl rfl B23 rfl (by omega) (by omega) (by omega)) rfl ?_
 rintro v24 h24 ⟨O24,K24,N24,F24⟩
 have Ka:=K24;have Oa:=O24;have Fa:=F24;have Z24:=K24.1
 have B2:=K24.blk (fun hm=>by first|(have:=hob _ hm;omega)|exact absurd rfl (hnb _ hm)) B2
 have B16:=K24.blk (fun hm=>by first|(have:=hob _ hm;omega)|exact absurd rfl (hnb _ hm)) B16
 have B23:=K24.blk (fun hm=>by first|(have:=hob _ hm;omega)|exact absurd rfl (hnb _ hm)) B23
 refine rA rfl rfl<|rs_nil<|zbc<|q_thn<|tr_reg<|rs_v (v_add rfl rfl (by omega) (by omega)) rfl ?_
 refine rM rfl rfl<|rs_nil ?_
 refine q_lp (steps.length - (k+1)) [(0,_),(5,_),(6,_),(7,_),(12,_),(13,_),(14,_)] (by omega) ⟨rfl,rfl,rfl,rfl,rfl,rfl,rfl,trivial⟩ ⟨k+1,_,n+1,_,_,F',by omega,rfl,rfl,?_,hFF',?_,?_,?_,?_⟩
 · rw [hst'];exact hit.after hI' KL Ka hOD
 · exact (KP3.trans (KL.kp0 (F:=fun _=>False)) (by simp)).trans (Ka.kp (F:=fun x=>h.size≤x) (fun x hx=>(hob x hx).1)) (fun x hx=>.inr hx)
 · rw [hwk,List.length_append,←hn];rfl
 · rw [hwk,hcur]
   exact OutD.snoc zof (fun x hx=>⟨(hob x hx).1,by have:=(hob x hx).2;omega⟩) hOD hrow hG hlow' (by omega) KL Oa Ka Fa rfl (⟨_,rfl,SlR.nil _ _ _ _⟩)
 · rw [hst'];rw [hcur] at hok';exact hok'
theorem Own.cut0 {h:Heap} {base:Nat} {e:TypeId} {sz:Nat} {a:Option Addr} {m c n:Nat} {xs:List Value} (ho:Own h base e sz (.slice a m c) n xs):Own h base e sz (.slice a 0 c) 0 []:=by
 refine ⟨by simp,?_⟩
 rcases ho.2 with ⟨hv,hn⟩|⟨g,cap,cur,hv,hb,hg,hn,hc,hs,_⟩
 · cases hv;exact .inl ⟨rfl,rfl⟩
 · cases hv;exact .inr ⟨g,_,cur,rfl,hb,hg,by omega,hc,hs,by simp⟩
theorem Own.form3 {h:Heap} {base:Nat} {e:TypeId} {sz:Nat} {v:Value} {n:Nat} {xs:List Value} (ho:Own h base e sz v n xs):∃a c,v=.slice a n c:=by
 rcases ho.form with ⟨rfl,rfl,_⟩|⟨g,cap,rfl,_⟩
 · exact ⟨none,0,rfl⟩
 · exact ⟨_,_,rfl⟩
theorem zel {a:Option Addr} {m c m2 c2:Nat}:(Value.slice a m c).ownBlock=(Value.slice a m2 c2).ownBlock:=by cases a<;>rfl
theorem zmz {α:Type} {f:α→Bool} {l:List α} {x:α}:(l++ [x]).filter f=if f x then l.filter f++ [x] else l.filter f:=by
 rw [List.filter_append]
 by_cases h:f x=true
 · simp [h]
 · simp [h]
section
variable {χ:Chi} {ff:SpanD→Option SpanD} {fv:Value} {G0:Nat→Prop} {Env:Heap→Prop} {W:List SpanD} {t:TypeId} {v0:Value} {I:ItI} {c:Nat} {q q':Pos} {Fin F:Nat→Prop} {h h':Heap} {sv ev kv:Value} {kk:Int} {n:Nat} {xs:List Value}
theorem SlR.of_rows2 {α:Type} {h:Heap} {base:Nat} {e:TypeId} {sz:Nat} {v:Value} {n:Nat} {cs:List Value} {A:Nat→Prop} {R0:List Value→α→Prop} {R:Heap→Nat→Nat→α→Prop} {xs:List α}
 (ho:Own h base e sz v n cs) (hn:n=xs.length) (hrow:RowsR sz R0 cs xs) (hA:∀b,b∈v.ownBlock.toList→A b)
 (hR:∀b o c a,zbh h b o c→R0 c a→R h b o a):SlR h A sz R v xs:=by
 rcases ho.form with ⟨rfl,rfl,rfl⟩|⟨g,cap,rfl,h0,h1,h2,h3,h4,h5⟩
 · have:xs= []:=List.eq_nil_of_length_eq_zero hn.symm
   subst this
   exact SlR.nil h A sz R
 · subst hn
   refine ⟨by unfold maxLen at h4;omega,_,_,rfl,fun i x hi=>⟨g,0,rfl,hA g (by rw [h0];simp),?_⟩⟩
   obtain ⟨c,_,h6,h7⟩:=hrow.at h5 hi
   exact hR _ _ _ _ h6 h7
end
theorem keep_of_p {F:Nat→Prop} {h h1 h':Heap} (K:Keep [] h h1) (KP:KeepP F h1 h') (hF:∀b,F b→h.size≤b):Keep [] h h':=
 ⟨Nat.le_trans K.1 KP.1,fun b hb _=>(KP.2 b (Nat.lt_of_lt_of_le hb K.1) (fun hf=>by have:=hF b hf;omega)).trans (K.2 b hb (by simp))⟩
def zek (a b:KeyD):Bool:=if a.tr=b.tr then (if seq' a.suf b.suf then slt a.val b.val else slt a.suf b.suf) else decide (b.tr<a.tr)
theorem c_spanKeyLess (χ:Chi) (h:Heap) (a b:KeyD):
 Cl Tryz.prog χ 70 #[.agg #[.int .u64 a.tr,.string a.suf,.string a.val],.agg #[.int .u64 b.tr,.string b.suf,.string b.val]] h (fun r h'=>r=.bool (zek a b)∧Keep [] h h'):=by
 refine zak Tryz.func70 rfl rfl rfl ?_
 have K:Keep [] h h:=Keep.refl _ _
 refine rG<|rs_w (zdx rfl) rfl ?_
 rintro _ h1 ⟨rfl,B1,K1,Z1⟩
 have S1:=K.1;have K:=K.new0 K1
 refine rs_w (zdx rfl) rfl ?_
 rintro _ h2 ⟨rfl,B2,K2,Z2⟩
 have B1:=K2.blk (by simp) B1
 have S2:=K.1;have K:=K.new0 K2
 refine rA rfl rfl<|rN<|tr_seq<|rG<|rF zgn rfl rfl<|rs_v (v_load zfj rfl (by exact B1.cell _ rfl)) rfl ?_
 refine rF zgn rfl rfl<|rs_v (v_load zfj rfl (by exact B2.cell _ rfl)) rfl ?_
 refine rs_v (v_ne rfl rfl) rfl ?_
 refine rN ?_
 refine tr_if rfl (fun hif=>?_) (fun hif=>?_)
 ·
  simp only [decide_eq_true_eq] at hif
  refine rG<|rF zgn rfl rfl<|rs_v (v_load zfj rfl (by exact B1.cell _ rfl)) rfl ?_
  refine rF zgn rfl rfl<|rs_v (v_load zfj rfl (by exact B2.cell _ rfl)) rfl ?_
  refine rs_v (v_gt rfl rfl) rfl ?_
  refine rA rfl rfl<|rN<|tr_ret<|zaz<|q_ret (zao rfl rfl) ?_
  exact ⟨by simp [zek,hif],K⟩
 simp only [decide_eq_false_iff_not,Decidable.not_not] at hif
 have hno:=hif
 refine zah<|q_thn<|tr_seq<|rG<|rF zhc rfl rfl<|rs_v (v_load zcn rfl (by exact B1.cell _ rfl)) rfl ?_
 refine rF zhc rfl rfl<|rs_v (v_load zcn rfl (by exact B2.cell _ rfl)) rfl ?_
 refine rs_v (v_sne rfl rfl) rfl ?_
 refine rN ?_
 refine tr_if rfl (fun hif=>?_) (fun hif=>?_)
 ·
  skip
  refine rG<|rF zhc rfl rfl<|rs_v (v_load zcn rfl (by exact B1.cell _ rfl)) rfl ?_
  refine rF zhc rfl rfl<|rs_v (v_load zcn rfl (by exact B2.cell _ rfl)) rfl ?_
  refine rs_v (v_slt rfl rfl) rfl ?_
  refine rA rfl rfl<|rN<|tr_ret<|zaz<|q_ret (zao rfl rfl) ?_
  have h9:seq' a.suf b.suf=false:=by simpa using hif
  exact ⟨by simp [zek,hno,h9],K⟩
 skip
 refine zah<|q_thn<|rG<|rF zkh rfl rfl<|rs_v (v_load zcn rfl (by exact B1.cell _ rfl)) rfl ?_
 refine rF zkh rfl rfl<|rs_v (v_load zcn rfl (by exact B2.cell _ rfl)) rfl ?_
 refine rs_v (v_slt rfl rfl) rfl ?_
 refine rA rfl rfl<|rN<|tr_ret<|q_ret (zao rfl rfl) ?_
 have h9:seq' a.suf b.suf=true:=by simpa using hif
 exact ⟨by simp [zek,hno,h9],K⟩
theorem zsa {P:Program} (d:Nat) (w:World) (xs:Array Value):∀(fs:List Field),(∀f,f∈fs→∃a,(part f.type xs f.offset).run P w=.ok a w∧(Op.equalIn d f.type a a).run P w=.ok true w)→(Op.eqFields d xs xs fs).run P w=.ok true w
 | [],_=>by simp [Op.eqFields]
 |f::fs,h=>by
  obtain ⟨a,h1,h2⟩:=h f (by simp)
  have ih:=zsa d w xs fs (fun g hg=>h g (by simp [hg]))
  simp only [Op.eqFields]
  split
  · simp [Sem.run_bind,h1,h2,ih]
  · simp [Sem.run_bind,ih]
theorem eqKey (a:KeyD) (w:World):(Op.equalIn 10000 42 (.agg #[.int .u64 a.tr,.string a.suf,.string a.val]) (.agg #[.int .u64 a.tr,.string a.suf,.string a.val])).run Tryz.prog w=.ok true w:=by
 have hS:Tryz.prog.underlying 42=some (.struct (Tryz.prog.fieldsOf 42)):=by kernel_rfl
 have hp:Tryz.prog.stoodInHeld 42=false:=by kernel_rfl
 rw [show (10000:Nat)=9999+1 from rfl,run_equalIn_struct w 9999 42 _ _ hS hp]
 have hf:(Tryz.prog.fieldsOf 42).toList= [(Tryz.prog.fieldsOf 42).toList.getD 0 default,(Tryz.prog.fieldsOf 42).toList.getD 1 default,(Tryz.prog.fieldsOf 42).toList.getD 2 default]:=by kernel_rfl
 refine zsa _ _ _ _ fun f hm=>?_
 rw [hf] at hm
 simp only [List.mem_cons,List.not_mem_nil,or_false] at hm
 rcases hm with rfl|rfl|rfl
 · refine ⟨.int .u64 a.tr,by kernel_rfl,?_⟩
   rw [show ((Tryz.prog.fieldsOf 42).toList.getD 0 default).type=35 from by kernel_rfl,show (9999:Nat)=9998+1 from rfl,run_equalIn_int w _ _ _ _ _ _ zoo];simp
 · refine ⟨.string a.suf,by kernel_rfl,?_⟩
   rw [show ((Tryz.prog.fieldsOf 42).toList.getD 1 default).type=9 from by kernel_rfl,show (9999:Nat)=9998+1 from rfl,run_equalIn_string w _ _ _ _ zeg];simp
 · refine ⟨.string a.val,by kernel_rfl,?_⟩
   rw [show ((Tryz.prog.fieldsOf 42).toList.getD 2 default).type=9 from by kernel_rfl,show (9999:Nat)=9998+1 from rfl,run_equalIn_string w _ _ _ _ zeg];simp
theorem zvc (χ:Chi) (h:Heap) (A A2:Nat→Prop) (v u:Value) (ks:List KeyD) (hk:RKeys A h v ks) (hk2:RKeys A2 h u ks):
 Cl Tryz.prog χ 120 #[v,u] h (fun r h'=>r=.bool true∧Keep [] h h'):=by
 obtain ⟨hlen,a,c,rfl,hx⟩:=hk.form
 obtain ⟨_,a2,c2,rfl,hx2⟩:=hk2.form
 refine zak Tryz.func120 rfl rfl rfl ?_
 have K:Keep [] h h:=Keep.refl _ _
 refine rG<|rA rfl rfl<|rN<|tr_seq<|rG<|rM rfl rfl<|rs_v (v_len zbn rfl) rfl ?_
 refine rM rfl rfl<|rs_v (v_len zbn rfl) rfl ?_
 refine rs_v (v_ne rfl rfl) rfl ?_
 refine rN<|zav (lkb (decide_eq_false (by simp))) ?_
 refine zah<|q_thn<|tr_seq<|rG<|rM rfl rfl<|rs_v (v_len zbn rfl) rfl ?_
 refine rM rfl rfl<|rN<|zaj ?_
 refine zbo (fun m E h'=>∃k,k≤ks.length∧m=ks.length - k∧E= [(0,.slice a ks.length c),(1,.slice a2 ks.length c2),(12,.slice a ks.length c),(13,.int .i64 (ks.length:Int)),(14,.int .i64 (k:Int))]∧Keep [] h h') ks.length [(0,_),(1,_),(12,_),(13,_),(14,_)] ⟨rfl,rfl,rfl,rfl,rfl,trivial⟩ ⟨0,Nat.zero_le _,rfl,rfl,K⟩ ?_
 rintro m E hL1 ⟨k,hk,rfl,rfl,K⟩
 refine rG<|rs_v (v_lt rfl rfl) rfl<|rN<|tr_seq ?_
 refine tr_ifn rfl (fun hif=>?_) (fun hif=>?_)
 ·
  simp only [decide_eq_false_iff_not] at hif
  refine zbm<|zay<|zbd<|zbb<|q_thn<|rG<|rA rfl rfl<|rN<|tr_ret<|q_ret (zao rfl rfl) ?_
  exact ⟨rfl,K⟩
 simp only [dT,dF] at hif
 rcases hx with rfl|⟨b,o,rfl,hAb,hR⟩
 · simp at hif;omega
 rcases hx2 with rfl|⟨b2,o2,rfl,hAb2,hR2⟩
 · simp at hif;omega
 obtain ⟨y,hsk⟩:=ex_get (L:=ks) (k:=k) (by omega)
 have hc1:=K.cells (by simp) (hR k y hsk)
 have hc2:=K.cells (by simp) (hR2 k y hsk)
 refine zah<|q_thn<|tr_seq<|zaj<|rG<|rM rfl rfl<|rs_v (zcb zbn zck rfl rfl (by omega)) rfl ?_
 refine rs_v (zbe (vs:= [_,_,_]) zdo rfl (by exact hc1)) rfl ?_
 refine rs_w (w_new zgo) rfl ?_
 rintro _ h2 ⟨rfl,B2,K2,Z2⟩
 have S2:=K.1;have K:=K.new0 K2
 refine rA rfl rfl<|rs_w0 (w_put zck rfl rfl rfl rfl B2 rfl) ?_
 rintro _ h3 ⟨B3,K3⟩
 have B2:=B3;have K:=K.new1 K3 (by first|(right;omega)|(left;simp;done));have Z3:=K3.1
 refine rN<|tr_seq ?_
 refine zdb (by kernel_rfl) (by kernel_rfl) ?_
 refine rq_v (zbe (vs:= [_,_,_]) zdo rfl (by exact B2.sub _ 3 rfl)) ?_
 refine rq_v (v_move rfl)<|rq_v (v_move rfl)<|rq_v (zcb zbn zck rfl rfl (by omega)) ?_
 refine rq_v (zbe (vs:= [_,_,_]) zdo rfl (by exact K.cells (by simp) (hR2 k y hsk))) ?_
 refine rq_v (v_aggne (by kernel_rfl) rfl rfl (eqKey y)) ?_
 refine rm_end ?_;simp only [endM,hypF,ofE,argE]
 refine q_thn<|zav rfl ?_
 refine zah<|zbc<|q_thn<|tr_reg<|rs_v (v_add rfl rfl (by omega) (by omega)) rfl ?_
 refine rM rfl rfl<|rs_nil ?_
 refine q_lp (ks.length - (k+1)) [(0,_),(1,_),(12,_),(13,_),(14,_)] (by omega) ⟨rfl,rfl,rfl,rfl,rfl,trivial⟩ ⟨k+1,by omega,rfl,rfl,K⟩
theorem c_sameSpan (χ:Chi) (h:Heap) (A A2:Nat→Prop) (hA:Low A h) (hA2:Low A2 h) (s:SpanD) (v u:Value) (hk:RKeys A h v s.ks) (hk2:RKeys A2 h u s.ks):
 Cl Tryz.prog χ 85 #[.agg #[.string s.s,.string s.e,v],.agg #[.string s.s,.string s.e,u]] h (fun r h'=>r=.bool true∧Keep [] h h'):=by
 obtain ⟨ka,kc,rfl⟩:=hk.form2
 obtain ⟨ka2,kc2,rfl⟩:=hk2.form2
 have q1:seq' s.s s.s=true:=zhg.2 rfl
 have q2:seq' s.e s.e=true:=zhg.2 rfl
 refine zak Tryz.func85 rfl rfl rfl ?_
 have K:Keep [] h h:=Keep.refl _ _
 refine rG<|rs_w (zdx rfl) rfl ?_
 rintro _ h1 ⟨rfl,B1,K1,Z1⟩
 have S1:=K.1;have K:=K.new0 K1
 refine rs_w (zdx rfl) rfl ?_
 rintro _ h2 ⟨rfl,B2,K2,Z2⟩
 have B1:=K2.blk (by simp) B1
 have S2:=K.1;have K:=K.new0 K2
 refine rA rfl rfl<|rN<|rG<|rF zge rfl rfl<|rs_v (v_load zcn rfl (by exact B1.cell _ rfl)) rfl ?_
 refine rF zge rfl rfl<|rs_v (v_load zcn rfl (by exact B2.cell _ rfl)) rfl ?_
 refine rs_v (v_seq rfl rfl) rfl ?_
 refine rM rfl rfl<|rs_gv rfl (lkb q1) (zac zgf rfl) rfl ?_
 refine rs_gv rfl (lkb q1) (v_load zcn rfl (by exact B1.cell _ rfl)) rfl ?_
 refine rs_gv rfl (lkb q1) (zac zgf rfl) rfl ?_
 refine rs_gv rfl (lkb q1) (v_load zcn rfl (by exact B2.cell _ rfl)) rfl ?_
 refine rs_gv rfl (lkb q1) (v_seq rfl rfl) rfl ?_
 refine rs_v (zbq (lkb q1) rfl) rfl ?_
 refine rM rfl rfl<|rs_gv rfl (lkb q2) (zac zew rfl) rfl ?_
 refine rs_gv rfl (lkb q2) (v_load zea rfl (by exact B1.cell _ rfl)) rfl ?_
 refine rs_gv rfl (lkb q2) (zac zew rfl) rfl ?_
 refine rs_gv rfl (lkb q2) (v_load zea rfl (by exact B2.cell _ rfl)) rfl ?_
 refine rs_gw rfl (lkb q2) (w_call (vs:= [_,_]) zrg rfl ⟨rfl,rfl,trivial⟩ (zvc χ _ A A2 _ _ s.ks (hk.stab (K.st hA)) (hk2.stab (K.st hA2)))) rfl ?_
 rintro _ h3 ⟨rfl,K3⟩
 have B1:=K3.blk (by simp) B1
 have B2:=K3.blk (by simp) B2
 have K:=K.new0 K3;have Z3:=K3.1
 refine rs_v (zbq (lkb q2) rfl) rfl ?_
 refine rA rfl rfl<|rN<|tr_ret<|q_ret (zao rfl rfl) ?_
 exact ⟨rfl,K⟩
theorem c_sameSpans (χ:Chi) (h:Heap) (A A2:Nat→Prop) (hA:Low A h) (hA2:Low A2 h) (v u:Value) (W:List SpanD) (hk:RSpans A h v W) (hk2:RSpans A2 h u W):
 Cl Tryz.prog χ 42 #[v,u] h (fun r h'=>r=.bool true∧Keep [] h h'):=by
 obtain ⟨hlen,a,c,rfl,hx⟩:=hk.form
 obtain ⟨_,a2,c2,rfl,hx2⟩:=hk2.form
 refine zak Tryz.func42 rfl rfl rfl ?_
 have K:Keep [] h h:=Keep.refl _ _
 refine rG<|rA rfl rfl<|rN<|tr_seq<|rG<|rM rfl rfl<|rs_v (v_len zca rfl) rfl ?_
 refine rM rfl rfl<|rs_v (v_len zca rfl) rfl ?_
 refine rs_v (v_ne rfl rfl) rfl ?_
 refine rN<|zav (lkb (decide_eq_false (by simp))) ?_
 refine zah<|q_thn<|tr_seq<|rG<|rM rfl rfl<|rs_v (v_len zca rfl) rfl ?_
 refine rM rfl rfl<|rN<|zaj ?_
 refine zbo (fun m E h'=>∃k,k≤W.length∧m=W.length - k∧E= [(0,.slice a W.length c),(1,.slice a2 W.length c2),(12,.slice a W.length c),(13,.int .i64 (W.length:Int)),(14,.int .i64 (k:Int))]∧Keep [] h h') W.length [(0,_),(1,_),(12,_),(13,_),(14,_)] ⟨rfl,rfl,rfl,rfl,rfl,trivial⟩ ⟨0,Nat.zero_le _,rfl,rfl,K⟩ ?_
 rintro m E hL1 ⟨k,hk,rfl,rfl,K⟩
 refine rG<|rs_v (v_lt rfl rfl) rfl<|rN<|tr_seq ?_
 refine tr_ifn rfl (fun hif=>?_) (fun hif=>?_)
 ·
  simp only [decide_eq_false_iff_not] at hif
  refine zbm<|zay<|zbd<|zbb<|q_thn<|rG<|rA rfl rfl<|rN<|tr_ret<|q_ret (zao rfl rfl) ?_
  exact ⟨rfl,K⟩
 simp only [dT,dF] at hif
 rcases hx with rfl|⟨b,o,rfl,hAb,hR⟩
 · simp at hif;omega
 rcases hx2 with rfl|⟨b2,o2,rfl,hAb2,hR2⟩
 · simp at hif;omega
 obtain ⟨y,hsk⟩:=ex_get (L:=W) (k:=k) (by omega)
 obtain ⟨kv,hc1,hk9⟩:=hR k y hsk
 obtain ⟨kv2,hc2,hk8⟩:=hR2 k y hsk
 obtain ⟨ka,kc,rfl⟩:=hk9.form2
 obtain ⟨ka2,kc2,rfl⟩:=hk8.form2
 have hc1:=K.cells (by simp) hc1
 refine zah<|q_thn<|tr_seq<|zaj<|rG<|rM rfl rfl<|rs_v (zcb zca zdd rfl rfl (by omega)) rfl ?_
 refine rs_v (zbe (vs:= [_,_,_]) zdn rfl (by exact hc1)) rfl ?_
 refine rs_w (w_new zfb) rfl ?_
 rintro _ h2 ⟨rfl,B2,K2,Z2⟩
 have S2:=K.1;have K:=K.new0 K2
 refine rA rfl rfl<|rs_w0 (w_put zdd rfl rfl rfl rfl B2 rfl) ?_
 rintro _ h3 ⟨B3,K3⟩
 have B2:=B3;have K:=K.new1 K3 (by first|(right;omega)|(left;simp;done));have Z3:=K3.1
 refine rN<|tr_seq ?_
 refine tr_any (Keep []) (zaa _) (by kernel_rfl) (by kernel_rfl) ?_
 refine rm_v (zaa _) (fun h' hk=>zbe (vs:= [_,_,_]) zdn rfl (by exact (hk.blk (by simp) B2).sub _ 3 rfl)) ?_
 refine rm_v (zaa _) (fun h' hk=>v_move rfl) ?_
 refine rm_v (zaa _) (fun h' hk=>v_move rfl) ?_
 refine rm_v (zaa _) (fun h' hk=>zcb zca zdd rfl rfl (by omega)) ?_
 refine rm_v (zaa _) (fun h' hk=>zbe (vs:= [_,_,_]) zdn rfl (by exact (K.new0 hk).cells (by simp) hc2)) ?_
 refine rm_c (fun h' hk=>w_call (vs:= [_,_]) zuf rfl ⟨rfl,rfl,trivial⟩ (c_sameSpan χ h' A A2 (hA.mono (K.new0 hk).1) (hA2.mono (K.new0 hk).1) y _ _ (hk9.stab ((K.new0 hk).st hA)) (hk8.stab ((K.new0 hk).st hA2)))) ?_
 refine rm_v (zaa _) (fun h' hk=>v_not rfl) ?_
 refine rm_end ?_;intro h4 K4;simp only [endM,hypF,ofE,argE,List.nil_append]
 have B2:=K4.blk (by simp) B2
 have K:=K.new0 K4;have Z4:=K4.1
 refine q_thn<|zav rfl ?_
 refine zah<|zbc<|q_thn<|tr_reg<|rs_v (v_add rfl rfl (by omega) (by omega)) rfl ?_
 refine rM rfl rfl<|rs_nil ?_
 refine q_lp (W.length - (k+1)) [(0,_),(1,_),(12,_),(13,_),(14,_)] (by omega) ⟨rfl,rfl,rfl,rfl,rfl,trivial⟩ ⟨k+1,by omega,rfl,rfl,K⟩
def lessAt (l:List KeyD):Nat→Bool
 |0=>false
 |j+1=>match l[j+1]?,l[j]? with
  |some a,some b=>zek a b
  |_,_=>false
def swapAt (l:List KeyD) (j:Nat):List KeyD:=
 match l[j+1]?,l[j]? with
  |some a,some b=>(l.set (j+1) b).set j a
  |_,_=>l
def insW (l:List KeyD):Nat→List KeyD
 |0=>l
 |j+1=>if lessAt l (j+1) then insW (swapAt l j) j else l
def canonF (ks:List KeyD):List KeyD:=ks.foldl (fun acc k=>insW (acc++ [k]) acc.length) []
theorem swapAt_len (l:List KeyD) (j:Nat):(swapAt l j).length=l.length:=by unfold swapAt;split<;>simp
theorem insW_len (l:List KeyD) (j:Nat):(insW l j).length=l.length:=by
 induction j generalizing l with
 |zero=>rfl
 |succ j ih=>simp only [insW];split
             · rw [ih,swapAt_len]
             · rfl
theorem zqc (l:List KeyD) (x:KeyD):canonF (l++ [x])=insW (canonF l++ [x]) (canonF l).length:=by simp only [canonF,List.foldl_append,List.foldl_cons,List.foldl_nil]
theorem zoc (l:List KeyD):(canonF l).length=l.length:=by
 have:∀(l acc:List KeyD),(l.foldl (fun acc k=>insW (acc++ [k]) acc.length) acc).length=acc.length+l.length:=by
  intro l
  induction l with
  |nil=>intro acc;simp
  |cons x l ih=>intro acc;simp only [List.foldl_cons,ih,insW_len,List.length_append,List.length_cons,List.length_nil];omega
 have:=this l []
 simp only [List.length_nil,Nat.zero_add] at this
 exact this
theorem insW_stop {l:List KeyD} {j:Nat} (h:lessAt l j=false):insW l j=l:=by
 cases j with
 |zero=>rfl
 |succ j=>simp [insW,h]
theorem insW_go {l:List KeyD} {j:Nat} (h:lessAt l (j+1)=true):insW l (j+1)=insW (swapAt l j) j:=by simp [insW,h]
theorem c_SpanCanon (χ:Chi) (h:Heap) (A:Nat→Prop) (hA:Low A h) (v:Value) (ks:List KeyD) (hks:RKeys A h v ks) (hl:ks.length≤100000):
 Cl Tryz.prog χ 31 #[v] h (fun r h'=>RKeys (Up N0 h h') h' r (canonF ks)∧Keep [] h h'):=by
 obtain ⟨hlen,a,c,rfl,hx⟩:=hks.form
 refine zak Tryz.func31 rfl rfl rfl ?_
 have K:Keep [] h h:=Keep.refl _ _
 refine rG<|rA rfl rfl<|rN<|rG<|rA rfl rfl<|rN<|tr_seq<|rG<|rM rfl rfl<|rs_v (v_len zbn rfl) rfl ?_
 refine rM rfl rfl<|rN<|zaj ?_
 refine zbo (fun m E h'=>∃k v n,k≤ks.length∧m=ks.length - k∧E= [(3,v),(7,.slice a ks.length c),(8,.int .i64 (ks.length:Int)),(9,.int .i64 (k:Int))]∧Keep [] h h'∧n=(canonF (ks.take k)).length∧OutR N0 h h' h.size 42 3 cKey v n (canonF (ks.take k))) ks.length [(3,_),(7,_),(8,_),(9,_)] ⟨rfl,rfl,rfl,rfl,trivial⟩ ⟨0,_,0,Nat.zero_le _,rfl,rfl,K,rfl,OutR.nil _ _ _ _ _ _ _⟩ ?_
 rintro m E hL1 ⟨k,v,n,hk,rfl,rfl,K,hn,hout⟩
 have hout0:=hout
 obtain ⟨xs,F,O,hrow,hF⟩:=hout
 have hob:=own_ne O;have KL:=Keep.refl [] hL1
 refine rG<|rs_v (v_lt rfl rfl) rfl<|rN<|tr_seq ?_
 refine tr_ifn rfl (fun hif=>?_) (fun hif=>?_)
 ·
  simp only [dT,dF] at hif
  have hkk:k=ks.length:=by omega
  subst hkk
  refine zbm<|zay<|zbd<|zbb<|q_thn<|rG<|rM rfl rfl<|rA rfl rfl<|rN<|tr_ret<|q_ret (zao rfl rfl) ?_
  rw [List.take_length] at hout0 hn
  exact ⟨hout0.fin zmd hn (Nat.le_refl _) cKey_r,K⟩
 simp only [dT,dF] at hif
 rcases hx with rfl|⟨b,o,rfl,hAb,hR⟩
 · simp at hif;omega
 obtain ⟨x,hsk⟩:=ex_get (L:=ks) (k:=k) (by omega)
 have hkl:k<ks.length:=(List.getElem?_eq_some_iff.1 hsk).1
 have KL0:=K.1
 have hcells:=K.cells (by simp) (hR k x hsk)
 have hnk:n=k:=by rw [hn,zoc,List.length_take];omega
 refine zah<|q_thn<|tr_seq<|zaj<|rG<|rs_v (zcb zbn zck rfl rfl (by omega)) rfl ?_
 refine rs_v (zbe (vs:= [_,_,_]) zdo rfl (by exact hcells)) rfl ?_
 refine rs_w (w_new zgo) rfl ?_
 rintro _ h2 ⟨rfl,B2,K2,Z2⟩
 have O:=O.keep2 K2 (fun x hm=>by have:=hob x hm;simp;try omega)
 have S2:=K.1;have K:=K.new0 K2;have KL:=KL.new0 K2
 refine rs_w0 (w_put zck rfl rfl rfl rfl B2 rfl) ?_
 rintro _ h3 ⟨B3,K3⟩
 have O:=O.keep2 K3 (fun x hm=>by have:=hob x hm;simp;try omega)
 have B2:=B3;have K:=K.new1 K3 (by first|(right;omega)|(left;simp;done));have Z3:=K3.1;have KL:=KL.new1 K3 (.inr (by omega))
 refine rN<|rG<|rM rfl rfl<|rs_v (zbe (vs:= [_,_,_]) zdo rfl (by exact B2.sub _ 3 rfl)) rfl ?_
 refine rs_w (w_new1 zbn zck zgo rfl rfl rfl rfl rfl) rfl ?_
 rintro _ h4 ⟨rfl,B4,K4,Z4⟩
 have B2:=K4.blk (by simp) B2
 have O:=O.keep2 K4 (fun x hm=>by have:=hob x hm;simp;try omega)
 have S4:=K.1;have K:=K.new0 K4;have KL:=KL.new0 K4
 refine rs_w (w_app1 zbn znx rfl rfl rfl O rfl rfl B4 rfl (by omega) (by omega) (by omega)) rfl ?_
 rintro v5 h5 ⟨O5,K5,N5,F5⟩
 have K:=K.newX K5 (fun x hm=>.inr (by have:=hob x hm;omega));have Z5:=K5.1
 obtain ⟨g,c9,rfl,hgb,hgl,hcg4⟩:=zra O5
 have B2:=K5.blk (fun hm=>by first|(have:=hob _ hm;omega)|exact absurd rfl (hnb _ hm)) B2
 have B4:=K5.blk (fun hm=>by first|(have:=hob _ hm;omega)|exact absurd rfl (hnb _ hm)) B4
 refine rA rfl rfl<|rN<|rG<|rM rfl rfl<|rs_v (v_len zbn rfl) rfl ?_
 refine rs_v (v_sub rfl rfl (by omega) (by omega)) rfl ?_
 refine rA rfl rfl<|rN<|zaj ?_
 refine zbo (fun m E h'=>∃j i l cs,i=((j:Nat):Int)∧j=m∧E= [(3,.slice (some ⟨g,0,none⟩) (n+1) c9),(7,.slice (some ⟨b,o,none⟩) ks.length c),(8,.int .i64 (ks.length:Int)),(9,.int .i64 (k:Int)),(6,.int .i64 i)]∧Keep [] h h'∧h4.size≤h'.size∧l.length=n+1∧j≤n∧insW l j=insW (canonF (ks.take k)++ [x]) n∧Own h' h.size 42 3 (.slice (some ⟨g,0,none⟩) (n+1) c9) (n+1) cs∧RowsR 3 (cKey N0 h) cs l) n [(3,_),(7,_),(8,_),(9,_),(6,_)] ⟨rfl,rfl,rfl,rfl,rfl,trivial⟩ ⟨n,(((n+1:Nat):Int) - 1),_,_,by omega,rfl,rfl,K,by omega,by rw [List.length_append,←hn];rfl,Nat.le_refl _,rfl,O5,hrow.snoc rfl rfl⟩ ?_
 rintro m E hL6 ⟨j,i,l,cs,hij,rfl,rfl,K,hz3,hll,hjn,hins,O,hrowI⟩
 obtain ⟨g8,c8,e8,hg1,hg2,hcg⟩:=zra O
 cases e8
 have hob:=own_ne O;have KL:=Keep.refl [] hL6
 refine tr_seq ?_
 refine tr_cut (fun E h'=>Keep [] hL6 h'∧E= [(3,.slice (some ⟨g,0,none⟩) (n+1) c9),(7,.slice (some ⟨b,o,none⟩) ks.length c),(8,.int .i64 (ks.length:Int)),(9,.int .i64 (k:Int)),(6,.int .i64 i),(33,.bool (lessAt l j))]) ?_ ?_
 ·
  rcases Nat.eq_zero_or_pos j with g0|g0
  · subst g0
    have g1:decide ((0:Int)<i)=false:=decide_eq_false (by omega)
    refine tr_any (Keep []) (zaa _) (by kernel_rfl) (by kernel_rfl) ?_
    refine rm_v (zaa _) (fun h' hk=>v_move rfl) ?_
    refine rm_v (zaa _) (fun h' hk=>v_gt rfl rfl) ?_
    refine rm_v (zaa _) (fun h' hk=>v_move rfl) ?_
    refine rm_gs (zaa _) rfl (lkm g1) rfl ?_
    refine rm_gs (zaa _) rfl (lkm g1) rfl ?_
    refine rm_gs (zaa _) rfl (lkm g1) rfl ?_
    refine rm_gs (zaa _) rfl (lkm g1) rfl ?_
    refine rm_gs (zaa _) rfl (lkm g1) rfl ?_
    refine rm_gs (zaa _) rfl (lkm g1) rfl ?_
    refine rm_gs (zaa _) rfl (lkm g1) rfl ?_
    refine rm_gs (zaa _) rfl (lkm g1) rfl ?_
    refine rm_gs (zaa _) rfl (lkm g1) rfl ?_
    refine rm_gs (zaa _) rfl (lkm g1) rfl ?_
    refine rm_v (zaa _) (fun h' hk=>zbf (lkb g1) rfl) ?_
    refine rm_end ?_;intro h7 K7;simp only [endM,hypF,ofE,argE,List.nil_append]
    have O:=O.keep2 K7 (fun x hm=>by have:=hob x hm;simp;try omega)
    have K:=K.new0 K7;have Z7:=K7.1
    refine q_cut [(3,_),(7,_),(8,_),(9,_),(6,_),(33,_)] ⟨rfl,rfl,rfl,rfl,rfl,rfl,trivial⟩ ⟨K7,?_⟩
    rfl
  · obtain ⟨j,rfl⟩:∃j',j=j'+1:=⟨j - 1,by omega⟩
    have g1:decide ((0:Int)<i)=true:=decide_eq_true (by omega)
    obtain ⟨y,hy⟩:=ex_get (L:=l) (k:=j+1) (by omega)
    obtain ⟨z,hz⟩:=ex_get (L:=l) (k:=j) (by omega)
    obtain ⟨cy,_,hcy,ey⟩:=hrowI.at hcg hy
    obtain ⟨cz,_,hcz,ez⟩:=hrowI.at hcg hz
    cases ey;cases ez
    have hle:lessAt l (j+1)=zek y z:=by simp [lessAt,hy,hz]
    refine tr_any (Keep []) (zaa _) (by kernel_rfl) (by kernel_rfl) ?_
    refine rm_v (zaa _) (fun h' hk=>v_move rfl) ?_
    refine rm_v (zaa _) (fun h' hk=>v_gt rfl rfl) ?_
    refine rm_v (zaa _) (fun h' hk=>v_move rfl) ?_
    refine rm_gv (zaa _) rfl (lkm g1) (fun h' hk=>v_move rfl) ?_
    refine rm_gv (zaa _) rfl (lkm g1) (fun h' hk=>v_move rfl) ?_
    refine rm_gv (zaa _) rfl (lkm g1) (fun h' hk=>zam (i:=j+1) zbn zck rfl rfl hij (by omega)) ?_
    refine rm_gv (zaa _) rfl (lkm g1) (fun h' hk=>zbe (vs:= [_,_,_]) zdo rfl (by exact hk.cells (by simp) hcy)) ?_
    refine rm_gv (zaa _) rfl (lkm g1) (fun h' hk=>v_move rfl) ?_
    refine rm_gv (zaa _) rfl (lkm g1) (fun h' hk=>v_move rfl) ?_
    refine rm_gv (zaa _) rfl (lkm g1) (fun h' hk=>v_sub rfl rfl (by omega) (by omega)) ?_
    refine rm_gv (zaa _) rfl (lkm g1) (fun h' hk=>zam (i:=j) zbn zck rfl rfl (by omega) (by omega)) ?_
    refine rm_gv (zaa _) rfl (lkm g1) (fun h' hk=>zbe (vs:= [_,_,_]) zdo rfl (by exact hk.cells (by simp) hcz)) ?_
    refine rm_gc rfl (lkm g1) (fun h' hk=>w_call (vs:= [_,_]) zsf rfl ⟨rfl,rfl,trivial⟩ (c_spanKeyLess χ h' y z)) ?_
    refine rm_v (zaa _) (fun h' hk=>zbq (lkb g1) rfl) ?_
    refine rm_end ?_;intro h8 K8;simp only [endM,hypF,ofE,argE,List.nil_append]
    have O:=O.keep2 K8 (fun x hm=>by have:=hob x hm;simp;try omega)
    have K:=K.new0 K8;have Z8:=K8.1
    refine q_cut [(3,_),(7,_),(8,_),(9,_),(6,_),(33,_)] ⟨rfl,rfl,rfl,rfl,rfl,rfl,trivial⟩ ⟨K8,?_⟩
    rw [hle]
 rintro E h9 ⟨K9,rfl⟩
 have K:=K.new0 K9;have Z9:=K9.1
 have O:=O.keep2 K9 (by simp)
 have hcg:=K9.cells (by simp) hcg
 refine tr_ifn rfl (fun hif=>?_) (fun hif=>?_)
 ·
  skip
  refine zbm<|zay<|zbd<|zbb<|zbc<|q_thn<|tr_reg<|rs_v (v_add rfl rfl (by omega) (by omega)) rfl ?_
  refine rM rfl rfl<|rs_nil ?_
  have hst:insW l j=l:=insW_stop hif
  rw [hst] at hins
  refine q_lp (ks.length - (k+1)) [(3,_),(7,_),(8,_),(9,_)] (by omega) ⟨rfl,rfl,rfl,rfl,trivial⟩ ⟨k+1,_,n+1,by omega,rfl,rfl,K,?_,?_⟩
  · rw [zoc,List.length_take];omega
  · rw [zbt hsk,zqc,←hn,←hins]
    exact ⟨cs,N0,O,hrowI,fun _ hb=>hb.elim⟩
 skip
 refine zah<|q_thn<|tr_seq<|zaj ?_
 obtain ⟨j,rfl⟩:∃j',j=j'+1:=by
  cases j with
  |zero=>simp [lessAt] at hif
  |succ j=>exact ⟨j,rfl⟩
 obtain ⟨y,hy⟩:=ex_get (L:=l) (k:=j+1) (by omega)
 obtain ⟨z,hz⟩:=ex_get (L:=l) (k:=j) (by omega)
 obtain ⟨cy,_,hcy,ey⟩:=hrowI.at hcg hy
 obtain ⟨cz,_,hcz,ez⟩:=hrowI.at hcg hz
 cases ey;cases ez
 refine zch [(true,16),(false,2)] _ (by kernel_rfl) (by kernel_rfl) (by kernel_rfl) ?_
 refine rx_one 15 ?_
 refine re_v rfl (by kernel_rfl) (v_move rfl) ?_
 refine re_v rfl (by kernel_rfl) (v_move rfl) ?_
 refine re_a rfl (fun h'=>v_move rfl) ?_
 refine re_a rfl (fun h'=>v_move rfl) ?_
 refine re_a rfl (fun h'=>v_sub rfl rfl (by omega) (by omega)) ?_
 refine re_v rfl (by kernel_rfl) (v_move rfl) ?_
 refine re_v rfl (by kernel_rfl) (v_move rfl) ?_
 refine re_v rfl (by kernel_rfl) (v_sub rfl rfl (by omega) (by omega)) ?_
 refine re_v rfl (by kernel_rfl) (zam (i:=j) zbn zck rfl rfl (by omega) (by omega)) ?_
 refine re_v rfl (by kernel_rfl) (zbe (vs:= [_,_,_]) zdo rfl (by exact hcz)) ?_
 refine re_v rfl (by kernel_rfl) (v_move rfl) ?_
 refine re_v rfl (by kernel_rfl) (v_move rfl) ?_
 refine re_v rfl (by kernel_rfl) (zam (i:=j+1) zbn zck rfl rfl (by omega) (by omega)) ?_
 refine re_v rfl (by kernel_rfl) (zbe (vs:= [_,_,_]) zdo rfl (by exact hcy)) ?_
 refine re_v rfl (by kernel_rfl) (zam (i:=j+1) zbn zck rfl rfl (by omega) (by omega)) ?_
 refine re_w0 _ rfl (zhi zck rfl rfl rfl rfl O (Nat.zero_add _) (by omega)) ?_
 refine re_end ?_;intro hA2 _;simp only [endM,hypF,ofE,argE,List.nil_append];rintro ⟨OA,KA⟩
 refine rx_seq<|rs_v (zam (i:=j) zbn zck rfl rfl (by omega) (by omega)) rfl ?_
 refine rs_w0 (zhi zck rfl rfl rfl rfl OA (Nat.zero_add _) (by omega)) ?_
 rintro _ h10 ⟨OB,KB⟩
 have K:=(K.new1 KA (.inr hg1)).new1 KB (.inr hg1);have ZB:=KA.1;have ZC:=KB.1
 refine rs_nil<|q_con ?_
 refine rx_nil ?_
 refine zbc<|q_thn<|tr_reg<|rM rfl rfl<|rs_v (v_sub rfl rfl (by omega) (by omega)) rfl ?_
 refine rA rfl rfl<|rs_nil ?_
 refine q_lp j [(3,_),(7,_),(8,_),(9,_),(6,_)] (by omega) ⟨rfl,rfl,rfl,rfl,rfl,trivial⟩ ⟨j,_,swapAt l j,_,by omega,rfl,rfl,K,by omega,by rw [swapAt_len];exact hll,by omega,by rw [←hins,insW_go hif],OB,?_⟩
 have e:swapAt l j=(l.set (j+1) z).set j y:=by simp [swapAt,hy,hz]
 rw [e]
 exact (hrowI.set rfl rfl (by omega)).set rfl rfl (by simp;omega)
def canonS (s:SpanD):SpanD:=⟨s.s,s.e,canonF s.ks⟩
def Like (W W2:List SpanD):Prop:=W.map canonS=W2.map canonS∧∀s,s∈W→descB s.ks=true
def few (s:SpanD):Prop:=s.ks.length≤100000
theorem zsp (χ:Chi) (h:Heap) (A:Nat→Prop) (hA:Low A h) (v:Value) (W:List SpanD) (hW:RSpans A h v W) (hn:W.length≤100000) (hm:∀s,s∈W→few s):
 Cl Tryz.prog χ 43 #[v] h (fun r h'=>RSpans (Up N0 h h') h' r (W.map canonS)∧Keep [] h h'):=by
 obtain ⟨hlen,a,c,rfl,hx⟩:=hW.form
 refine zak Tryz.func43 rfl rfl rfl ?_
 have K:Keep [] h h:=Keep.refl _ _
 refine rG<|rA rfl rfl<|rN<|rG<|rA rfl rfl<|rN<|tr_seq<|rG<|rM rfl rfl<|rs_v (v_len zca rfl) rfl ?_
 refine rM rfl rfl<|rN<|zaj ?_
 refine zbo (fun m E h'=>∃k v n,k≤W.length∧m=W.length - k∧E= [(3,v),(6,.slice a W.length c),(7,.int .i64 (W.length:Int)),(8,.int .i64 (k:Int))]∧Keep [] h h'∧n=((W.take k).map canonS).length∧OutR N0 h h' h.size 40 3 cSpan v n ((W.take k).map canonS)) W.length [(3,_),(6,_),(7,_),(8,_)] ⟨rfl,rfl,rfl,rfl,trivial⟩ ⟨0,_,0,Nat.zero_le _,rfl,rfl,K,rfl,OutR.nil _ _ _ _ _ _ _⟩ ?_
 rintro m E hL1 ⟨k,v,n,hk,rfl,rfl,K,hn,hout⟩
 have hout0:=hout
 obtain ⟨xs,F,O,hrow,hF⟩:=hout
 have hob:=own_ne O;have KL:=Keep.refl [] hL1
 refine rG<|rs_v (v_lt rfl rfl) rfl<|rN<|tr_seq ?_
 refine tr_ifn rfl (fun hif=>?_) (fun hif=>?_)
 ·
  simp only [dT,dF] at hif
  have hkk:k=W.length:=by omega
  subst hkk
  refine zbm<|zay<|zbd<|zbb<|q_thn<|rG<|rM rfl rfl<|rA rfl rfl<|rN<|tr_ret<|q_ret (zao rfl rfl) ?_
  rw [List.take_length] at hout0 hn
  exact ⟨hout0.fin zdr hn (Nat.le_refl _) zme,K⟩
 simp only [dT,dF] at hif
 rcases hx with rfl|⟨b,o,rfl,hAb,hR⟩
 · simp at hif;omega
 obtain ⟨x,hsk⟩:=ex_get (L:=W) (k:=k) (by omega)
 have hkl:k<W.length:=(List.getElem?_eq_some_iff.1 hsk).1
 have KL0:=K.1
 obtain ⟨kv,hcc,hkx⟩:=hR k x hsk
 obtain ⟨ka,kc,rfl⟩:=hkx.form2
 have hcells:=K.cells (by simp) hcc
 have hnk:n=k:=by rw [hn,List.length_map,List.length_take];omega
 refine zah<|q_thn<|tr_seq<|zaj<|rG<|rs_v (zcb zca zdd rfl rfl (by omega)) rfl ?_
 refine rs_v (zbe (vs:= [_,_,_]) zdn rfl (by exact hcells)) rfl ?_
 refine rs_w (w_new zfb) rfl ?_
 rintro _ h2 ⟨rfl,B2,K2,Z2⟩
 have O:=O.keep2 K2 (fun x hm=>by have:=hob x hm;simp;try omega)
 have S2:=K.1;have K:=K.new0 K2;have KL:=KL.new0 K2
 refine rs_w0 (w_put zdd rfl rfl rfl rfl B2 rfl) ?_
 rintro _ h3 ⟨B3,K3⟩
 have O:=O.keep2 K3 (fun x hm=>by have:=hob x hm;simp;try omega)
 have B2:=B3;have K:=K.new1 K3 (by first|(right;omega)|(left;simp;done));have Z3:=K3.1;have KL:=KL.new1 K3 (.inr (by omega))
 refine rN<|rG<|rF zew rfl rfl<|rs_v (v_load zea rfl (by exact B2.cell _ rfl)) rfl ?_
 refine rs_w (w_call (vs:= [_]) zth rfl ⟨rfl,trivial⟩ (c_SpanCanon χ _ A (hA.mono (by omega)) _ x.ks (hkx.stab (K.st hA)) (hm x (List.mem_of_getElem? hsk)))) rfl ?_
 rintro kv4 h4 ⟨hkv4,K4⟩
 obtain ⟨a4,c4,rfl⟩:=hkv4.form2
 have B2:=K4.blk (by simp) B2
 have O:=O.keep2 K4 (fun x hm=>by have:=hob x hm;simp;try omega)
 have K:=K.new0 K4;have Z4:=K4.1;have KL:=KL.new0 K4
 refine rF zew rfl rfl<|rs_w0 (w_put zsd rfl rfl rfl rfl B2 rfl) ?_
 rintro _ h5 ⟨B5,K5⟩
 have O:=O.keep2 K5 (fun x hm=>by have:=hob x hm;simp;try omega)
 have B2:=B5;have K:=K.new1 K5 (by first|(right;omega)|(left;simp;done));have Z5:=K5.1;have KL:=KL.new1 K5 (.inr (by omega))
 refine rN<|tr_reg<|rM rfl rfl<|rs_v (zbe (vs:= [_,_,_]) zdn rfl (by exact B2.sub _ 3 rfl)) rfl ?_
 refine rs_w (w_new1 zca zdd zfb rfl rfl rfl rfl rfl) rfl ?_
 rintro _ h6 ⟨rfl,B6,K6,Z6⟩
 have B2:=K6.blk (by simp) B2
 have O:=O.keep2 K6 (fun x hm=>by have:=hob x hm;simp;try omega)
 have S6:=K.1;have K:=K.new0 K6;have KL:=KL.new0 K6
 refine rs_w (w_app1 zca zmq rfl rfl rfl O rfl rfl B6 rfl (by omega) (by omega) (by omega)) rfl ?_
 rintro v7 h7 ⟨O7,K7,N7,F7⟩
 have K:=K.newX K7 (fun x hm=>.inr (by have:=hob x hm;omega));have Z7:=K7.1
 have B2:=K7.blk (fun hm=>by first|(have:=hob _ hm;omega)|exact absurd rfl (hnb _ hm)) B2
 have B6:=K7.blk (fun hm=>by first|(have:=hob _ hm;omega)|exact absurd rfl (hnb _ hm)) B6
 refine rA rfl rfl<|rs_nil<|zbc<|q_thn<|tr_reg<|rs_v (v_add rfl rfl (by omega) (by omega)) rfl ?_
 refine rM rfl rfl<|rs_nil ?_
 refine q_lp (W.length - (k+1)) [(3,_),(6,_),(7,_),(8,_)] (by omega) ⟨rfl,rfl,rfl,rfl,trivial⟩ ⟨k+1,v7,n+1,by omega,rfl,rfl,K,?_,?_⟩
 · rw [zbt hsk,List.map_append];rw [List.length_append,←hn];rfl
 · rw [zbt hsk,List.map_append]
   exact OutR.snoc zdr (n0low h) (by omega) hob hrow hF KL0 KL O7 K7 F7 rfl (⟨_,rfl,(upk (n0low _) (by omega) (rk_skip hkv4 Z4 K5 (by omega)) K6).mono (n0up (by omega) (Nat.le_refl _))⟩)
theorem c_spanLike (χ:Chi) (h:Heap) (A A2:Nat→Prop) (hA:Low A h) (hA2:Low A2 h) (v u:Value) (W W2:List SpanD) (hW:RSpans A h v W) (hW2:RSpans A2 h u W2) (hn:W.length≤100000) (hn2:W2.length≤100000) (hm:∀s,s∈W→few s) (hm2:∀s,s∈W2→few s) (hlk:Like W W2):
 Cl Tryz.prog χ 13 #[v,u] h (fun r h'=>r=.bool true∧Keep [] h h'):=by
 obtain ⟨a2,c2,rfl⟩:=SlR.form2 hW2
 refine zak Tryz.func13 rfl rfl rfl ?_
 have K:Keep [] h h:=Keep.refl _ _
 refine rG<|rA rfl rfl<|rN<|rG<|rM rfl rfl<|rs_w (w_call (vs:= [_]) zpn rfl ⟨rfl,trivial⟩ (c_ofSpans χ h A hA _ W hW hn hm)) rfl ?_
 rintro v1 h1 ⟨hl1,K1⟩
 obtain ⟨hlen,a,c,rfl,hx⟩:=SlR.form hl1
 have K:=K.new0 K1;have Z1:=K1.1
 refine rA rfl rfl<|rN<|tr_seq<|rG<|rM rfl rfl<|rs_v (v_len zca rfl) rfl ?_
 refine rM rfl rfl<|rN<|zaj ?_
 refine zbo (fun m E h'=>∃k,k≤W.length∧m=W.length - k∧E= [(1,.slice a2 W2.length c2),(5,.slice a W.length c),(10,.slice a W.length c),(11,.int .i64 (W.length:Int)),(12,.int .i64 (k:Int))]∧Keep [] h h'∧Keep [] h1 h') W.length [(1,_),(5,_),(10,_),(11,_),(12,_)] ⟨rfl,rfl,rfl,rfl,rfl,trivial⟩ ⟨0,Nat.zero_le _,rfl,rfl,K,Keep.refl _ _⟩ ?_
 rintro m E hL2 ⟨k,hk,rfl,rfl,K,KA⟩
 refine rG<|rs_v (v_lt rfl rfl) rfl<|rN<|tr_seq ?_
 refine tr_ifn rfl (fun hif=>?_) (fun hif=>?_)
 ·
  simp only [dT,dF] at hif
  refine zbm<|zay<|zbd<|zbb<|q_thn<|rG<|rM rfl rfl<|rs_w (w_call (vs:= [_]) znm rfl ⟨rfl,trivial⟩ (zsp χ _ (Up A h h1) ((hA.up Z1).mono KA.1) _ W (RSpans.stab hl1 (KA.st (hA.up Z1))) hn hm)) rfl ?_
  rintro v2 h3 ⟨hl2,K3⟩
  have KA:=KA.newX K3 (fun x hx=>.inr (by first|(simp at hx;done)|(simp at hx;omega)))
  have K:=K.new0 K3;have Z3:=K3.1
  refine rM rfl rfl<|rs_w (w_call (vs:= [_]) znm rfl ⟨rfl,trivial⟩ (zsp χ _ A2 (hA2.mono K.1) _ W2 (hW2.stab (K.st hA2)) hn2 hm2)) rfl ?_
  rintro v3 h4 ⟨hl3,K4⟩
  have hz2:=K3.1
  have hl2:=hl2.stab (K4.st ((n0low _).up hz2))
  obtain ⟨aa2,cc2,rfl⟩:=SlR.form2 hl2
  obtain ⟨aa3,cc3,rfl⟩:=SlR.form2 hl3
  have KA:=KA.newX K4 (fun x hx=>.inr (by first|(simp at hx;done)|(simp at hx;omega)))
  have K:=K.new0 K4;have Z4:=K4.1
  refine rs_w (w_call (vs:= [_,_]) ztj rfl ⟨rfl,rfl,trivial⟩ (c_sameSpans χ _ _ _ (((n0low _).up hz2).mono Z4) ((n0low _).up Z4) _ _ (W.map canonS) hl2 (by rw [hlk.1];exact hl3))) rfl ?_
  rintro _ h5 ⟨rfl,K5⟩
  have KA:=KA.newX K5 (fun x hx=>.inr (by first|(simp at hx;done)|(simp at hx;omega)))
  have K:=K.new0 K5;have Z5:=K5.1
  refine rA rfl rfl<|rN<|tr_ret<|q_ret (zao rfl rfl) ?_
  exact ⟨rfl,K⟩
 simp only [dT,dF] at hif
 rcases hx with rfl|⟨b,o,rfl,hAb,hR⟩
 · simp at hif;omega
 obtain ⟨x,hsk⟩:=ex_get (L:=W) (k:=k) (by omega)
 obtain ⟨kv,hcc,hkx⟩:=hR k x hsk
 obtain ⟨ka,kc,rfl⟩:=hkx.form2
 have hcells:=KA.cells (by simp) hcc
 have hZA:=KA.1
 have hd:=hlk.2 x (List.mem_of_getElem? hsk)
 refine zah<|q_thn<|tr_seq<|zaj<|rG<|rs_v (zcb zca zdd rfl rfl (by omega)) rfl ?_
 refine rs_v (zbe (vs:= [_,_,_]) zdn rfl (by exact hcells)) rfl ?_
 refine rs_w (w_new zfb) rfl ?_
 rintro _ h6 ⟨rfl,B6,K6,Z6⟩
 have KA:=KA.newX K6 (fun x hx=>.inr (by first|(simp at hx;done)|(simp at hx;omega)))
 have S6:=K.1;have K:=K.new0 K6
 refine rs_w0 (w_put zdd rfl rfl rfl rfl B6 rfl) ?_
 rintro _ h7 ⟨B7,K7⟩
 have KA:=KA.newX K7 (fun x hx=>.inr (by first|(simp at hx;done)|(simp at hx;omega)))
 have B6:=B7;have K:=K.new1 K7 (by first|(right;omega)|(left;simp;done));have Z7:=K7.1
 refine rN<|rG<|rF zew rfl rfl<|rs_v (v_load zea rfl (by exact B6.cell _ rfl)) rfl ?_
 refine rs_w (w_call (vs:= [_]) zkn rfl ⟨rfl,trivial⟩ (zow χ _ (Up A h h1) _ x.ks (hkx.stab (KA.st (hA.up Z1))))) rfl ?_
 rintro _ h8 ⟨rfl,hsame⟩;have hsame:=hsame.symm;subst hsame
 refine rs_v (v_not rfl) rfl<|rN<|zav (lkb (by rw [hd];rfl)) ?_
 refine zah<|zbc<|q_thn<|tr_reg<|rs_v (v_add rfl rfl (by omega) (by omega)) rfl ?_
 refine rM rfl rfl<|rs_nil ?_
 refine q_lp (W.length - (k+1)) [(1,_),(5,_),(10,_),(11,_),(12,_)] (by omega) ⟨rfl,rfl,rfl,rfl,rfl,trivial⟩ ⟨k+1,by omega,rfl,rfl,K,KA⟩
theorem bsplit2 (a:Bool):a=true∨a=false:=Bool.eq_false_or_eq_true a
theorem bsplit3 (a b:Bool):a=true∨(a=false∧b=true)∨(a=false∧b=false):=by cases a<;>cases b<;>simp
theorem zsq:∀(ks:List KeyD),descB ks=true↔ks.Pairwise (fun a b=>b.tr≤a.tr)
 | []=>by simp [descB,chainB]
 | [a]=>by simp [descB,chainB]
 |a::b::l=>by
  have ih:=zsq (b::l)
  simp only [descB,chainB,Bool.and_eq_true,decide_eq_true_eq] at ih⊢
  rw [ih,List.pairwise_cons (a:=a)]
  constructor
  · rintro ⟨h1,h2⟩
    refine ⟨fun x hx=>?_,h2⟩
    rcases List.mem_cons.1 hx with rfl|hx
    · exact h1
    · exact Int.le_trans ((List.pairwise_cons.1 h2).1 x hx) h1
  · rintro ⟨h1,h2⟩
    exact ⟨h1 b (by simp),h2⟩
structure Good (W:List SpanD):Prop where
 len:W.length≤40
 full:∀s,s∈W→slt s.s s.e=true∧s.ks≠ []∧descB s.ks=true∧s.ks.length≤40
 small:∀s,s∈W→SpanD.small s
 ord:Tess.Ord W
theorem Good.few {W:List SpanD} (h:Good W):∀s,s∈W→few s:=fun s hs=>by have:=(h.full s hs).2.2.2;unfold Go.Proofs.YtgnagohmccbjcaaGreat.few;omega
theorem Good.n {W:List SpanD} (h:Good W):W.length≤100000:=by have:=h.len;omega
theorem good_of {W:List SpanD} {n:Int} (hn:n≤40) (h4:fit4 W=true) (hm:(mostB W n&&wellB W)=true):Good W∧(W.length:Int)≤n:=by
 simp only [fit4,mostB,wellB,Bool.and_eq_true,List.all_eq_true,decide_eq_true_eq] at h4 hm
 obtain ⟨⟨hm1,hm2⟩,hw1,hw2⟩:=hm
 have hfull:∀s,s∈W→slt s.s s.e=true∧s.ks≠ []∧descB s.ks=true∧s.ks.length≤40:=fun s hs=>by
  have:=hw1 s hs
  simp only [fullB,Bool.and_eq_true,decide_eq_true_eq] at this
  exact ⟨this.1,fun e=>by rw [e] at this;simp at this,this.2.2,hm1 s hs⟩
 refine ⟨⟨by omega,hfull,fun s hs=>?_,⟨fun s hs=>(hfull s hs).1,fun i a b ha hb=>(zkb _ W).1 hw2 i a b ha hb⟩⟩,hm2⟩
 have h5:=h4.2 s hs
 simp only [fit5,fit6,Bool.and_eq_true,List.all_eq_true,decide_eq_true_eq,MX] at h5
 refine ⟨by omega,by omega,by have:=hm1 s hs;omega,fun k hk=>?_⟩
 have h7:=h5.2.2 k hk
 simp only [fit7,Bool.and_eq_true,decide_eq_true_eq,MX] at h7
 exact ⟨by omega,by omega⟩
theorem c_spanWell_t (χ:Chi) (h:Heap) (A:Nat→Prop) (hA:Low A h) (v:Value) (W:List SpanD) (n:Int) (hW:RSpans A h v W) (hq:mostB W n=true):
 Cl Tryz.prog χ 29 #[v,.int .i64 n] h (fun r h'=>r=.bool (mostB W n&&wellB W)∧Keep [] h h'):=by
 refine zak Tryz.func29 rfl rfl rfl ?_
 have K:Keep [] h h:=Keep.refl _ _
 refine rG<|rA rfl rfl<|rN<|rG<|rM rfl rfl<|rM rfl rfl<|rs_w (w_call (vs:= [_,_]) zor rfl ⟨rfl,rfl,trivial⟩ (c_spanMost χ h A _ W n hW)) rfl ?_
 rintro _ h1 ⟨rfl,K1⟩
 have K:=K.new0 K1;have Z1:=K1.1
 refine rM rfl rfl<|rs_gv rfl (lkb hq) (v_move rfl) rfl ?_
 refine rs_gw rfl (lkb hq) (w_call (vs:= [_]) zue rfl ⟨rfl,trivial⟩ (c_SpanWell χ _ A (hA.mono K.1) _ W (hW.stab (K.st hA)))) rfl ?_
 rintro _ h2 ⟨rfl,K2⟩
 have K:=K.new0 K2;have Z2:=K2.1
 refine rs_v (zbq (lkb hq) rfl) rfl ?_
 refine rA rfl rfl<|rN<|tr_ret<|q_ret (zao rfl rfl) ?_
 exact ⟨by rw [hq];rfl,K⟩
theorem c_spanWell_f (χ:Chi) (h:Heap) (A:Nat→Prop) (hA:Low A h) (v:Value) (W:List SpanD) (n:Int) (hW:RSpans A h v W) (hq:mostB W n=false):
 Cl Tryz.prog χ 29 #[v,.int .i64 n] h (fun r h'=>r=.bool (mostB W n&&wellB W)∧Keep [] h h'):=by
 refine zak Tryz.func29 rfl rfl rfl ?_
 have K:Keep [] h h:=Keep.refl _ _
 refine rG<|rA rfl rfl<|rN<|rG<|rM rfl rfl<|rM rfl rfl<|rs_w (w_call (vs:= [_,_]) zor rfl ⟨rfl,rfl,trivial⟩ (c_spanMost χ h A _ W n hW)) rfl ?_
 rintro _ h1 ⟨rfl,K1⟩
 have K:=K.new0 K1;have Z1:=K1.1
 refine rM rfl rfl ?_
 refine rs_gs rfl (lkb hq) rfl rfl ?_
 refine rs_gs rfl (lkb hq) rfl rfl ?_
 refine rs_v (zbf (lkb hq) rfl) rfl ?_
 refine rA rfl rfl<|rN<|tr_ret<|q_ret (zao rfl rfl) ?_
 exact ⟨by rw [hq];rfl,K⟩
theorem c_spanWell (χ:Chi) (h:Heap) (A:Nat→Prop) (hA:Low A h) (v:Value) (W:List SpanD) (n:Int) (hW:RSpans A h v W):
 Cl Tryz.prog χ 29 #[v,.int .i64 n] h (fun r h'=>r=.bool (mostB W n&&wellB W)∧Keep [] h h'):=by
 rcases bsplit2 (mostB W n) with hq|hq
 · exact c_spanWell_t χ h A hA v W n hW hq
 · exact c_spanWell_f χ h A hA v W n hW hq
def All (h:Heap):Nat→Prop:=fun b=>b<h.size
theorem all_low (h:Heap):Low (All h) h:=fun _ hb=>hb
section
variable {h h':Heap} {v:Value}
theorem all_st (K:Keep [] h h'):Stab (All h) h h':=K.st (all_low h)
theorem all_up (K:Keep [] h h'):∀b,All h b→All h' b:=fun _ hb=>Nat.lt_of_lt_of_le hb K.1
theorem RSpans.kk {W:List SpanD} (hr:RSpans (All h) h v W) (K:Keep [] h h'):RSpans (All h') h' v W:=(RSpans.stab hr (all_st K)).mono (all_up K)
theorem RSteps.kk {W:List StepD} (hr:RSteps (All h) h v W) (K:Keep [] h h'):RSteps (All h') h' v W:=(RSteps.stab hr (all_st K)).mono (all_up K)
theorem RAnss.kk {W:List AnsD} (hr:RAnss (All h) h v W) (K:Keep [] h h'):RAnss (All h') h' v W:=(RAnss.stab hr (all_st K)).mono (all_up K)
theorem upA (K:Keep [] h h'):∀b,Up (All h) h h' b→All h' b:=(all_low h).up K.1
theorem upN (K:Keep [] h h'):∀b,Up N0 h h' b→All h' b:=(n0low h).up K.1
end
open Go.Tess Go.ChangeShapes Go.WideShapes Go.ChangeAt Go.RowKit
theorem take_open {α:Type} {n:Nat} {p:Nat→α→Prop} (hh:∀i,i<n→∃a,p i a):∃xs:List α,xs.length=n∧∀(i:Nat) a,xs[i]? =some a→p i a:=by
 induction n with
 |zero=>exact ⟨[],rfl,fun i a h=>by simp at h⟩
 |succ n ih=>
  obtain ⟨xs,hl,hx⟩:=ih fun i hi=>hh i (by omega)
  obtain ⟨a,ha⟩:=hh n (by omega)
  refine ⟨xs++ [a],by simp [hl],fun i b hb=>?_⟩
  by_cases hi:i<n
  · rw [List.getElem?_append_left (by omega)] at hb;exact hx i b hb
  · have:=(List.getElem?_eq_some_iff.1 hb).1
    simp [hl] at this
    have e:i=n:=by omega
    subst e
    rw [List.getElem?_append_right (by omega),hl] at hb
    simp at hb;subst hb;exact ha
section
variable {H:Type} {enc:TypeId × Value→H} {χ:Chi} {h:Heap} {d:Nat} {sp:Nat→Bool} {hd:Bool}
theorem sl_open {P:Program} {α:Type} {t e:TypeId} {sz:Nat} {R:List Value→α→Prop} (ht:P.underlying t=some (.slice e)) (hc:P.cellsOf e=sz) (h0:0<sz)
 (hop:∀n cs x,DataW.trod enc P (mkw χ h d) 0 sp hd n e cs=some x→∃a,R cs a) {fuel:Nat} {v:Value} {x:DataW H × List MemPlace} (htr:DataW.trod enc P (mkw χ h d) 0 sp hd fuel t [v]=some x):
 ∃xs:List α,SlR h (All h) sz (fun h b o a=>∃cs,zbh h b o cs∧R cs a) v xs:=by
 rcases Deep.open_slice ht htr with ⟨hcs,_⟩|⟨a,len,cap,m,n,D,Pl,hcs,_,hl,hm,hmm,_,hel⟩
 · cases hcs;exact ⟨[],SlR.nil _ _ _ _⟩
 cases hcs
 have hlm:len≤m:=by rw [hmm];split<;>omega
 obtain ⟨xs,hxl,hx⟩:=take_open (α:=α) (n:=len) (p:=fun i a'=>∃cs',(mkw χ h d).cells? 0 (a.add (i*sz)) sz=some cs'∧R cs' a') fun i hi=>by
  obtain ⟨cs',h1,h2⟩:=hel i (by omega)
  rw [hc] at h1
  obtain ⟨a',ha'⟩:=hop _ _ _ h2
  exact ⟨a',cs',h1,ha'⟩
 have hspot:0<len→∃b o,a=⟨b,o,none⟩:=fun hpos=>by
  obtain ⟨cs',h1,_⟩:=hel 0 (by omega)
  rw [hc] at h1
  obtain ⟨_,hlen,hcell⟩:=World.cells?_some h1
  have h2:=hcell 0 h0
  rw [List.getElem?_eq_getElem (by omega)] at h2
  have h3:=World.cell?_spot h2
  simp [Addr.add] at h3
  obtain ⟨b,o,q⟩:=a
  simp at h3;subst h3
  exact ⟨b,o,rfl⟩
 refine ⟨xs,by unfold maxLen at hm;omega,some a,cap,by rw [hxl],fun i x hi=>?_⟩
 have hlt:=(List.getElem?_eq_some_iff.1 hi).1
 obtain ⟨b,o,rfl⟩:=hspot (by omega)
 obtain ⟨cs',h1,h2⟩:=hx i x hi
 obtain ⟨_,hlen,hcell⟩:=World.cells?_some h1
 have hcells:zbh h b (o+i*sz) cs':=fun j v hj=>by
  have:=hcell j (by have:=(List.getElem?_eq_some_iff.1 hj).1;omega)
  rw [zhb,zhb,zig,hj] at this
  exact this
 refine ⟨b,o,rfl,?_,cs',hcells,h2⟩
 have:=hcells 0 cs'[0] (List.getElem?_eq_getElem (by omega))
 exact cellH_lt this
theorem zkc {P:Program} {w:World} {T:TypeId} {fs:Array Field} {n:Nat} {cs:List Value} {x:DataW H × List MemPlace} (ht:P.underlying T=some (.struct fs)) (hx:DataW.trod enc P w 0 sp hd n T cs=some x) (i:Nat) (ft off sz:Nat)
 (hf:(fs[i]?).map (fun f=>(f.type,f.offset))=some (ft,off)) (hsz:P.cellsOf ft=sz):∃m y,DataW.trod enc P w 0 sp hd m ft ((cs.drop off).take sz)=some y:=by
 obtain ⟨xs,m,_,_,_,hl,hfs⟩:=DataW.trod_struct ht hx
 cases hq:fs[i]? with
 |none=>rw [hq] at hf;simp at hf
 |some f=>
  rw [hq] at hf
  simp only [Option.map_some,Option.some.injEq,Prod.mk.injEq] at hf
  have:=hfs i f hq
  have hi:i<fs.size:=(Array.getElem?_eq_some_iff.1 hq).1
  rw [List.getElem?_eq_getElem (by omega),hf.1,hf.2,hsz] at this
  exact ⟨m,_,this⟩
theorem struct_len {P:Program} {w:World} {T:TypeId} {fs:Array Field} {n sz:Nat} {cs:List Value} {x:DataW H × List MemPlace} (ht:P.underlying T=some (.struct fs)) (hx:DataW.trod enc P w 0 sp hd n T cs=some x) (hsz:P.cellsOf T=sz):cs.length=sz:=by
 obtain ⟨_,_,_,_,hl,_⟩:=DataW.trod_struct ht hx
 rw [hl,hsz]
theorem st_key:Tryz.prog.underlying 42=some (.struct (Tryz.prog.fieldsOf 42)):=by kernel_rfl
theorem st_span:Tryz.prog.underlying 40=some (.struct (Tryz.prog.fieldsOf 40)):=by kernel_rfl
end
theorem below_of {χ:Chi} {h h':Heap} {d d':Nat} (K:Keep [] h h'):Below h.size (mkw χ h d) (mkw χ h' d'):=⟨rfl,rfl,rfl,K.1,fun k hk=>K.2 k hk (by simp)⟩
theorem laidOut:laidOutB Tryz.prog=true:=by kernel_rfl
theorem zsb {P:Program} (hl:laidOutB P=true) {H:Type} {enc:TypeId × Value→H} {W W':World} (hb:Below W.heap.size W W'):∀(ts:List TypeId) (vs:List Value) (ds:List (DataW H)) (ps:List MemPlace),
 (ts.all fun t=>P.readableRec t&&decide (t<P.types.size))=true→DataW.TrodAll enc P W 0 (fun _=>true) true ts vs ds ps→(∀x,x∈ps→x.block<W.heap.size)→
 DataW.TrodAll enc P W' 0 (fun b=>decide (b<W.heap.size)) true ts vs ds ps
 | [],vs,ds,ps,_,h,_=>by
   obtain ⟨rfl,rfl,rfl⟩:=trodAll_nil h
   exact trodAll_mk0
 |t::ts,vs,ds,ps,hr,h,hlt=>by
  obtain ⟨v,vs1,d,ds1,a,b,rfl,rfl,rfl,h1,h2⟩:=trodAll_cons h
  rw [List.all_cons,Bool.and_eq_true,Bool.and_eq_true] at hr
  exact ⟨a,b,Below.trod hl hr.1.1 (of_decide_eq_true hr.1.2) h1 hb (fun x hx=>hlt x (List.mem_append_left _ hx)),
   zsb hl hb ts vs1 ds1 b hr.2 h2 (fun x hx=>hlt x (List.mem_append_right _ hx)),rfl⟩
theorem Tryz.own:ownKnob Tryz.prog.godebug=none:=by kernel_rfl
theorem law_lift {H:Type} {enc:TypeId × Value→H} {os:Os} (started:os.Started) {f:FuncId} {fn:Func} {s:ChangeSpec} {conds:List PathCond} (noInit:Tryz.prog.inits.idxOf? f=none) (hfn:Tryz.prog.funcs[f]? =some fn)
 (witness:∃(w:World) (tape:Tape) (i:Input),w.os=os∧(w.forCall tape i).Shaped Tryz.prog∧i.vars= []∧Input.okWide Tryz.prog (w.forCall tape i) .any w.heap.size f i∧
  s.pre6 enc Tryz.prog fn conds false (w.forCall tape i).memory i.args∧Assume.holds {} Tryz.prog (lone (Frame.enter Tryz.prog f i.args .normal) [] (w.forCall tape i)))
 (hres:fn.resultTypes= #[4]) (hvars:s.vars= []) (hread:(fn.params.toList.all fun t=>Tryz.prog.readableRec t&&decide (t<Tryz.prog.types.size))=true)
 (hs:∀ds:List (DataW H),ds.length=fn.params.toList.length→(s.fn H ds).results= [.lit (.bool true)]∧(s.fn H ds).args=ds∧(s.fn H ds).vars= [])
 (contract:∀(W:World) (args:Array Value) (ds:List (DataW H)) (ps:List MemPlace) (b0:Nat),(∀(j:Nat) t v,fn.params[j]? =some t→args[j]? =some v→Value.okWide Tryz.prog W .any b0 t v)→
  DataW.TrodAll enc Tryz.prog W 0 (fun _=>true) true fn.params.toList args.toList ds ps→Cl Tryz.prog ⟨W.tape,W.os,W.output⟩ f args W.heap (fun r h'=>r=.bool true∧Keep [] W.heap h')):
 ReturnsInHanded {} Tryz.checked os f .any (s.pre6 enc Tryz.prog fn conds false) (s.post enc Tryz.prog fn false true false false):=by
 refine returnsInHanded_of_change (C:=Tryz.checked) Tryz.own started noInit hfn witness ?_
 intro W base args ds gs before hval hW _ _
 have hW':=hW
 obtain ⟨p,q,hA,hV,rfl,_,_⟩:=hW
 have hlen:∀(ts:List TypeId) (vs:List Value) (ds:List (DataW H)) (ps:List MemPlace),DataW.TrodAll enc Tryz.prog W 0 (fun _=>true) true ts vs ds ps→ds.length=ts.length:=by
  intro ts
  induction ts with
  |nil=>intro vs ds ps h;obtain ⟨_,rfl,_⟩:=trodAll_nil h;rfl
  |cons t ts ih=>intro vs ds ps h;obtain ⟨v,vs1,d,ds1,a,b,rfl,rfl,rfl,h1,h2⟩:=trodAll_cons h;simp [ih _ _ _ h2]
 have hV0:gs= []∧q= []:=by
  rw [hvars] at hV
  cases gs with
  |nil=>exact ⟨rfl,hV⟩
  |cons g gs=>exact hV.elim
 obtain ⟨rfl,rfl⟩:=hV0
 obtain ⟨e1,e2,e3⟩:=hs ds (hlen _ _ _ _ hA)
 refine (contract W args ds p base hval hA W.drawn).mono fun e W' hW2=>?_
 obtain ⟨v,h',d',rfl,rfl,rfl,K⟩:=hW2
 have hb0:Below W.heap.size (mkw ⟨W.tape,W.os,W.output⟩ W.heap W.drawn) (mkw ⟨W.tape,W.os,W.output⟩ h' d'):=below_of K
 have hb:Below W.heap.size W (mkw ⟨W.tape,W.os,W.output⟩ h' d'):=hb0
 have hlt:∀x∈p,x.block<W.heap.size:=fun x hx=>by simpa using hW'.lt x (by simpa using hx)
 refine ⟨_,rfl,ds, [],p++ [], [],p, [],hW',?_,?_,?_,hb.frame _,fun h=>by cases h⟩
 · rw [List.append_nil,e1,hres]
   exact trodAll_mk1 (shut_bool (show Tryz.prog.underlying 4=some .bool from u_bool) _)
 · rw [List.append_nil,e2]
   exact zsb laidOut hb _ _ _ _ hread hA hlt
 · rw [List.append_nil,e3,hvars]
   rfl
def UpC (up:Option ByteArray) (s:SpanD):Bool:=match up with|none=>true|some u=>slt s.s u
def LoC (lo:Option ByteArray) (s:SpanD):Bool:=match lo with|none=>true|some l=>slt l s.e
def RBnd (G:Nat→Prop) (h:Heap) (v:Value) (b:Option ByteArray):Prop:=match b with
 |none=>v=.slice none 0 0
 |some u=>∃g o n c,v=.slice (some ⟨g,o,none⟩) n c∧RBytes G h v u
structure Seg (W:List SpanD) (lo up:Option ByteArray) (i0 i1:Nat):Prop where
 le:i0≤i1
 len:i1≤W.length
 lo:∀(j:Nat) s,W[j]? =some s→(LoC lo s=true↔i0≤j)
 up:∀(j:Nat) s,W[j]? =some s→(UpC up s=true↔j<i1)
section
variable {W:List SpanD} {lo up:Option ByteArray} {i0 i1:Nat} (hs:Seg W lo up i0 i1)
include hs
end
section
variable (W:List SpanD) (I:ItI) (t:TypeId) (v0:Value) (c i0 i1:Nat) (lo up:Option ByteArray) (lov upv spl pp:Value)
end
section
variable {W:List SpanD} {I:ItI} {t:TypeId} {v0:Value} {c i0 i1:Nat} {lo up:Option ByteArray} {lov upv spl pp:Value} {q:Pos} {Fin F:Nat→Prop} {h:Heap} {sp:Option Addr} {os:Option SpanD} {pos:Int}
end
theorem pNext_pt (W:List SpanD) (j:Nat):pNext W (.pt j)=if j+1<W.length then .pt (j+1) else .behind:=rfl
section
variable {χ:Chi} {W:List SpanD} {I:ItI} {t:TypeId} {v0:Value} {c i0 i1:Nat} {lo up:Option ByteArray} {lov upv spl pp:Value} (hEnv:∀{p F h},I p F h→RBnd F h lov lo∧RBnd F h upv up) (hit:IterOK Tryz.prog χ W t v0 I) (hO:Tess.Ord W) (hs:Seg W lo up i0 i1)
include hEnv hit hO hs
end
theorem nb {b:Bool} (h:b=false):(!b)=true:=by rw [h];rfl
theorem own_new {h:Heap} {base b sz:Nat} {cs:List Value} {T:TypeId} (B:Blk h b cs T) (hb:base≤b) (hl:cs.length=sz):Own h base T sz (.slice (some ⟨b,0,none⟩) 1 1) 1 cs:=
 ⟨by omega,.inr ⟨b,1,cs.toArray,rfl,hb,B,Nat.le_refl _,by decide,by simp [hl],by rw [Nat.one_mul,←hl];simp⟩⟩
theorem RowsR.app {α:Type} {sz:Nat} {R:List Value→α→Prop} {xs ys:List Value} {ls ms:List α} (h:RowsR sz R xs ls) (k:RowsR sz R ys ms):RowsR sz R (xs++ys) (ls++ms):=by
 obtain ⟨c1,rfl,l1,h1⟩:=h
 obtain ⟨c2,rfl,l2,h2⟩:=k
 refine ⟨c1++c2,by simp,by simp [l1,l2],fun i c a hc ha=>?_⟩
 rcases Nat.lt_or_ge i c1.length with hlt|hge
 · rw [List.getElem?_append_left hlt] at hc
   rw [List.getElem?_append_left (by omega)] at ha
   exact h1 i c a hc ha
 · rw [List.getElem?_append_right hge] at hc
   rw [List.getElem?_append_right (by omega)] at ha
   rw [l1] at hc
   exact h2 _ c a hc ha
def nextS:StepD:=⟨2,ByteArray.empty⟩
def fwdS (n:Nat):List StepD:=⟨0,ByteArray.empty⟩::List.replicate n nextS
theorem fwdS_succ (n:Nat):fwdS (n+1)=fwdS n++ [nextS]:=by simp [fwdS,List.replicate_succ']
theorem fwdS_len (n:Nat):(fwdS n).length=n+1:=by simp [fwdS]
theorem fwdS_small (n:Nat):∀s,s∈fwdS n→s.key.size≤9223372036854775807:=by
 intro s hs
 simp only [fwdS,List.mem_cons,List.mem_replicate] at hs
 rcases hs with rfl|⟨_,rfl⟩<;>decide
def listOf (l:List AnsD):List SpanD:=(l.filter (·.ok)).map (·.sp)
theorem zna (l:List AnsD) (x:AnsD):listOf (l++ [x])=if x.ok then listOf l++ [x.sp] else listOf l:=by
 unfold listOf
 rw [List.filter_append]
 cases h:x.ok<;>simp [h]
theorem zqd (x:AnsD) (l:List AnsD):listOf (x::l)=if x.ok then x.sp::listOf l else listOf l:=by
 unfold listOf
 rw [List.filter_cons]
 cases h:x.ok<;>simp
theorem listOf_le (l:List AnsD):(listOf l).length≤l.length:=by unfold listOf;simpa using List.length_filter_le _ l
theorem zrm (W:List SpanD) (p:Pos) (hp:zhd p=false):∀n,listOf (walkP W p (List.replicate n nextS))= []
 |0=>rfl
 |n+1=>by
  have e:stepP W p nextS=none:=by simp [stepP,nextS,hp]
  rw [List.replicate_succ,walkP,e,zqd]
  simp only [ansOf,Option.getD_none]
  exact zrm W p hp n
theorem ztn (W:List SpanD):∀(n j:Nat),W.length≤j+1+n→listOf (walkP W (.pt j) (List.replicate n nextS))=W.drop (j+1)
 |0,j,hn=>by rw [List.drop_eq_nil_of_le (by omega)];rfl
 |n+1,j,hn=>by
  have e:stepP W (.pt j) nextS=some (pNext W (.pt j)):=by simp [stepP,nextS,zhd]
  rw [List.replicate_succ,walkP,e,zqd]
  simp only [Option.getD_some]
  by_cases hj:j+1<W.length
  · rw [show pNext W (.pt j)=.pt (j+1) from by rw [pNext_pt,if_pos hj]]
    have hc:cur W (.pt (j+1))=some W[j+1]:=List.getElem?_eq_getElem hj
    simp only [ansOf,hc,Option.isSome_some,if_true,Option.getD_some]
    rw [ztn W n (j+1) (by omega),List.drop_eq_getElem_cons hj]
  · rw [show pNext W (.pt j)=.behind from by rw [pNext_pt,if_neg hj]]
    simp only [ansOf,cur,Option.isSome_none,Bool.false_eq_true,if_false]
    rw [zrm W .behind rfl,List.drop_eq_nil_of_le (by omega)]
theorem listOf_from (W:List SpanD) (p p0:Pos) (s:StepD) (n:Nat) (hs:stepP W p s=some p0) (hp:p0=if W.length=0 then p0 else .pt 0) (h0:W.length=0→zhd p0=false) (hn:W.length≤n+1):listOf (walkP W p (s::List.replicate n nextS))=W:=by
 rw [walkP,hs,zqd]
 simp only [Option.getD_some]
 by_cases hz:W.length=0
 · have e:W= []:=List.eq_nil_of_length_eq_zero hz
   rw [zrm W p0 (h0 hz)]
   subst e
   have hc:cur [] p0=none:=by cases p0<;>simp [cur]
   simp [ansOf,hc]
 · rw [if_neg hz] at hp
   subst hp
   have hl:0<W.length:=by omega
   have hc:cur W (.pt 0)=some W[0]:=List.getElem?_eq_getElem hl
   simp only [ansOf,hc,Option.isSome_some,if_true,Option.getD_some]
   rw [ztn W n 0 (by omega)]
   have:=List.drop_eq_getElem_cons hl
   rw [List.drop_zero] at this
   exact this.symm
theorem listOf_fwd (W:List SpanD) (n:Nat) (hn:W.length≤n+1):listOf (walkP W .nowhere (fwdS n))=W:=by
 refine listOf_from W .nowhere (pFirst W) _ n (by simp [stepP]) ?_ ?_ hn
 · unfold pFirst
   by_cases h:W.length=0
   · rw [if_pos h,if_pos h]
   · rw [if_neg h,if_neg h]
 · intro h;unfold pFirst;rw [if_pos h];rfl
theorem c_spanForth (χ:Chi) (h:Heap) (n:Nat) (hn:n≤1000):
 Cl Tryz.prog χ 16 #[.int .i64 (n:Int)] h (fun r h'=>(RSteps (Up N0 h h') h' r (fwdS n)∧∃a c,r=.slice a (n+1) c∧n+1≤c)∧Keep [] h h'):=by
 refine zak Tryz.func16 rfl rfl rfl ?_
 have K:Keep [] h h:=Keep.refl _ _
 refine rG<|rA rfl rfl<|rN<|rG<|rs_v (zih rfl (zpl _)) rfl ?_
 refine rs_w (w_new1 zis zkp zmn rfl rfl rfl rfl rfl) rfl ?_
 rintro _ h1 ⟨rfl,B1,K1,Z1⟩
 have S1:=K.1;have K:=K.new0 K1
 refine rA rfl rfl<|rN<|tr_seq<|rG<|rM rfl rfl<|rM rfl rfl<|rN<|zaj ?_
 refine zbo (fun m E h'=>∃k v xs,k≤n∧m=n - k∧E= [(3,v),(6,.int .i64 (n:Int)),(7,.int .i64 (k:Int))]∧Keep [] h h'∧Own h' h.size 57 2 v (k+1) xs∧RowsR 2 (cStep N0 h) xs (fwdS k)) n [(3,_),(6,_),(7,_)] ⟨rfl,rfl,rfl,trivial⟩ ⟨0,_,_,Nat.zero_le _,rfl,rfl,K,own_new B1 (Nat.le_refl _) rfl,(RowsR.nil 2 (cStep N0 h)).snoc rfl rfl⟩ ?_
 rintro m E hL2 ⟨k,v,xs,hk,rfl,rfl,K,O,hrow⟩
 have hob:=own_ne O;have KL:=Keep.refl [] hL2
 refine rG<|rs_v (v_lt rfl rfl) rfl<|rN<|tr_seq ?_
 refine tr_ifn rfl (fun hif=>?_) (fun hif=>?_)
 ·
  simp only [dT,dF] at hif
  have hkk:k=n:=by omega
  subst hkk
  refine zbm<|zay<|zbd<|zbb<|q_thn<|rG<|rM rfl rfl<|rA rfl rfl<|rN<|tr_ret<|q_ret (zao rfl rfl) ?_
  obtain ⟨g,c9,rfl,hg1,hg2,_⟩:=zra O
  have hcap:k+1≤c9:=by
   rcases O.2 with ⟨e,_⟩|⟨g',cap,cur,e,_,_,hle,_⟩
   · cases e
   · cases e;exact hle
  exact ⟨⟨SlR.of_rows O (fwdS_len k).symm hrow (fun b h1 h2=>.inr ⟨h1,h2⟩) (fun b o c a hc hr=>cStep_r N0 _ _ _ _ _ hc hr),_,_,rfl,hcap⟩,K⟩
 simp only [dT,dF] at hif
 refine zah<|q_thn<|tr_seq<|zaj<|tr_reg<|rM rfl rfl<|rs_v (zih rfl (zpl _)) rfl ?_
 refine rs_w (w_new1 zis zkp zmn rfl rfl rfl rfl rfl) rfl ?_
 rintro _ h3 ⟨rfl,B3,K3,Z3⟩
 have O:=O.keep2 K3 (fun x hm=>by have:=hob x hm;simp;try omega)
 have S3:=K.1;have K:=K.new0 K3
 refine rs_w (w_app1 zis zux rfl rfl rfl O rfl rfl B3 rfl (by omega) (by omega) (by omega)) rfl ?_
 rintro v4 h4 ⟨O4,K4,N4,F4⟩
 have K:=K.newX K4 (fun x hm=>.inr (by have:=hob x hm;omega));have Z4:=K4.1
 have B3:=K4.blk (fun hm=>by first|(have:=hob _ hm;omega)|exact absurd rfl (hnb _ hm)) B3
 refine rA rfl rfl<|rs_nil<|zbc<|q_thn<|tr_reg<|rs_v (v_add rfl rfl (by omega) (by omega)) rfl ?_
 refine rM rfl rfl<|rs_nil ?_
 refine q_lp (n - (k+1)) [(3,_),(6,_),(7,_)] (by omega) ⟨rfl,rfl,rfl,trivial⟩ ⟨k+1,_,_,by omega,rfl,rfl,K,O4,?_⟩
 rw [fwdS_succ]
 exact hrow.snoc rfl rfl
theorem c_spanList (χ:Chi) (h:Heap) (A:Nat→Prop) (hA:Low A h) (v:Value) (G:List AnsD) (hG:RAnss A h v G) (hn:G.length≤100000):
 Cl Tryz.prog χ 14 #[v] h (fun r h'=>RSpans (Up A h h') h' r (listOf G)∧Keep [] h h'):=by
 obtain ⟨hlen,a,c,rfl,hx⟩:=hG.form
 refine zak Tryz.func14 rfl rfl rfl ?_
 have K:Keep [] h h:=Keep.refl _ _
 refine rG<|rA rfl rfl<|rN<|rG<|rA rfl rfl<|rN<|tr_seq<|rG<|rM rfl rfl<|rs_v (v_len zeq rfl) rfl ?_
 refine rM rfl rfl<|rN<|zaj ?_
 refine zbo (fun m E h'=>∃k v n,k≤G.length∧m=G.length - k∧E= [(3,v),(6,.slice a G.length c),(7,.int .i64 (G.length:Int)),(8,.int .i64 (k:Int))]∧Keep [] h h'∧n=(listOf (G.take k)).length∧OutR A h h' h.size 55 3 cSpan v n (listOf (G.take k))) G.length [(3,_),(6,_),(7,_),(8,_)] ⟨rfl,rfl,rfl,rfl,trivial⟩ ⟨0,_,0,Nat.zero_le _,rfl,rfl,K,rfl,OutR.nil _ _ _ _ _ _ _⟩ ?_
 rintro m E hL1 ⟨k,v,n,hk,rfl,rfl,K,hn,hout⟩
 have hout0:=hout
 obtain ⟨xs,F,O,hrow,hF⟩:=hout
 have KL0:=K.1
 have hob:=own_ne O;have KL:=Keep.refl [] hL1
 refine rG<|rs_v (v_lt rfl rfl) rfl<|rN<|tr_seq ?_
 refine tr_ifn rfl (fun hif=>?_) (fun hif=>?_)
 ·
  simp only [dT,dF] at hif
  have hkk:k=G.length:=by omega
  subst hkk
  refine zbm<|zay<|zbd<|zbb<|q_thn<|rG<|rM rfl rfl<|rA rfl rfl<|rN<|tr_ret<|q_ret (zao rfl rfl) ?_
  rw [List.take_length] at hout0 hn
  exact ⟨hout0.fin zdr hn (Nat.le_refl _) zme,K⟩
 simp only [dT,dF] at hif
 rcases hx with rfl|⟨b,o,rfl,hAb,hR⟩
 · simp at hif;omega
 obtain ⟨x,hsk⟩:=ex_get (L:=G) (k:=k) (by omega)
 have hkl:k<G.length:=(List.getElem?_eq_some_iff.1 hsk).1
 have KL0:=K.1
 obtain ⟨kv,hcc,hkx⟩:=hR k x hsk
 obtain ⟨ka,kc,rfl⟩:=hkx.form2
 have hcells:=K.cells (by simp) hcc
 have hnk:n≤k:=by rw [hn];exact Nat.le_trans (listOf_le _) (by rw [List.length_take];omega)
 refine zah<|q_thn<|tr_seq<|zaj<|rG<|rs_v (zcb zeq zfz rfl rfl (by omega)) rfl ?_
 refine rs_v (zbe (vs:= [_,_,_,_,_]) ziz rfl (by exact hcells)) rfl ?_
 refine rs_w (w_new zgl) rfl ?_
 rintro _ h2 ⟨rfl,B2,K2,Z2⟩
 have O:=O.keep2 K2 (fun x hm=>by have:=hob x hm;simp;try omega)
 have S2:=K.1;have K:=K.new0 K2;have KL:=KL.new0 K2
 refine rs_w0 (w_put zfz rfl rfl rfl rfl B2 rfl) ?_
 rintro _ h3 ⟨B3,K3⟩
 have O:=O.keep2 K3 (fun x hm=>by have:=hob x hm;simp;try omega)
 have B2:=B3;have K:=K.new1 K3 (by first|(right;omega)|(left;simp;done));have Z3:=K3.1;have KL:=KL.new1 K3 (.inr (by omega))
 refine rN<|rG<|rF zlm rfl rfl<|rs_v (v_load zrb rfl (by exact B2.cell _ rfl)) rfl ?_
 refine rN ?_
 refine tr_if rfl (fun hif=>?_) (fun hif=>?_)
 ·
  skip
  refine tr_reg<|rM rfl rfl<|rF zln rfl rfl<|rs_v (zbe (vs:= [_,_,_]) zex rfl (by exact B2.sub _ 3 rfl)) rfl ?_
  refine rs_w (w_new1 zdf zed zfc rfl rfl rfl rfl rfl) rfl ?_
  rintro _ h4 ⟨rfl,B4,K4,Z4⟩
  have B2:=K4.blk (by simp) B2
  have O:=O.keep2 K4 (fun x hm=>by have:=hob x hm;simp;try omega)
  have S4:=K.1;have K:=K.new0 K4;have KL:=KL.new0 K4
  refine rs_w (w_app1 zdf zka rfl rfl rfl O rfl rfl B4 rfl (by omega) (by omega) (by omega)) rfl ?_
  have K70:=K
  have KL70:=KL
  rintro v5 h5 ⟨O5,K5,N5,F5⟩
  have K:=K.newX K5 (fun x hm=>.inr (by have:=hob x hm;omega));have Z5:=K5.1
  have B2:=K5.blk (fun hm=>by first|(have:=hob _ hm;omega)|exact absurd rfl (hnb _ hm)) B2
  have B4:=K5.blk (fun hm=>by first|(have:=hob _ hm;omega)|exact absurd rfl (hnb _ hm)) B4
  refine rA rfl rfl<|rs_nil<|zbc<|q_thn<|tr_reg<|rs_v (v_add rfl rfl (by omega) (by omega)) rfl ?_
  refine rM rfl rfl<|rs_nil ?_
  refine q_lp (G.length - (k+1)) [(3,_),(6,_),(7,_),(8,_)] (by omega) ⟨rfl,rfl,rfl,rfl,trivial⟩ ⟨k+1,v5,n+1,by omega,rfl,rfl,K,?_,?_⟩
  · rw [zbt hsk,zna,if_pos hif,List.length_append,←hn];rfl
  · rw [zbt hsk,zna,if_pos hif]
    exact OutR.snoc zdr hA (by omega) hob hrow hF KL0 KL70 O5 K5 F5 rfl ⟨_,rfl,(hkx.stab (K70.st hA)).mono Up.old⟩
 skip
 refine zah<|zbc<|q_thn<|tr_reg<|rs_v (v_add rfl rfl (by omega) (by omega)) rfl ?_
 refine rM rfl rfl<|rs_nil ?_
 refine q_lp (G.length - (k+1)) [(3,_),(6,_),(7,_),(8,_)] (by omega) ⟨rfl,rfl,rfl,rfl,trivial⟩ ⟨k+1,v,n,by omega,rfl,rfl,K,?_,?_⟩
 · rw [zbt hsk,zna,if_neg (by rw [hif];decide)];exact hn
 · rw [zbt hsk,zna,if_neg (by rw [hif];decide)]
   exact hout0.keep zdr KL
section
variable {P:Program} {χ:Chi} {ρ:Operand→Option Value} {h:Heap} {ty:TypeId} {pos:String} {after:Array Edge} {guard:Option (Nat × Bool)} {dst:Option Tmp} {x y:Operand} {t t2:TypeId}
theorem zrn {s:ByteArray} {k:IntKind} {i:Nat} {c:UInt8} (ht:P.underlying t=some .string) (hx:ρ x=some (.string s)) (hy:ρ y=some (.int k (i:Int))) (hc:s.data.toList[i]? =some c):
 OpV P χ ⟨dst,.index t x y,ty,pos,after,guard⟩ ρ h (.int .u8 (c.toNat:Int)):=by
 intro r d hr
 have e1:=hr x (by simp [Op.operands]) _ hx
 have e2:=hr y (by simp [Op.operands]) _ hy
 have hlt:i<s.size:=(List.getElem?_eq_some_iff.1 hc).1
 have h3:=run_index_string (w:=mkw χ h d) t s k (i:Int) ht
 rw [dif_pos ⟨by omega,by omega⟩] at h3
 have h4:s[(i:Int).toNat]'(by simpa using hlt)=c:=by
  have:=(List.getElem?_eq_some_iff.1 hc).2
  rw [←this];rfl
 simp only [execOp,e1,e2]
 rw [Sem.run_bind,h3,h4]
 rfl
end
section
variable {P:Program} {χ:Chi} {ρ:Operand→Option Value} {h:Heap} {ty:TypeId} {pos:String} {after:Array Edge} {guard:Option (Nat × Bool)} {dst:Option Tmp} {x y z:Operand} {t t2 e:TypeId}
theorem v_mul {a b:Int} (hx:ρ x=some (.int .i64 a)) (hy:ρ y=some (.int .i64 b)) (h0: -9223372036854775808≤a*b) (h1:a*b≤9223372036854775807):
 OpV P χ ⟨dst,.binOp .mul t x y t2,ty,pos,after,guard⟩ ρ h (.int .i64 (a*b)):=
 v_bin hx hy fun w=>by simp [eqGuard,binOp,Op.intArith,IntWalk.i64_in _ ⟨h0,h1⟩]
end
def Free (a:Value) (b o:Nat):Prop:=∃n c,a=.slice (some ⟨b,0,none⟩) n c∧n≤o
structure Tn (X:List Nat) (h h':Heap) (a a':Value):Prop where
 sz:h.size≤h'.size
 blk:∀b,b<h.size→b∉X→b∉a.ownBlock.toList→h'[b]? =h[b]?
 cell:∀b o v,b∉X→¬Free a b o→cellH h b o=some v→cellH h' b o=some v
 free:∀b o,Free a' b o→Free a b o∨h.size≤b
 own:∀x,x∈a'.ownBlock.toList→x∈a.ownBlock.toList∨h.size≤x
section
variable {P:Program} {χ:Chi} {ρ:Operand→Option Value} {h:Heap} {ty:TypeId} {pos:String} {after:Array Edge} {guard:Option (Nat × Bool)} {dst:Option Tmp} {x y z:Operand} {t t2 e:TypeId}
end
section
variable {P:Program} {χ:Chi} {n:Nat} {ops:Array Oper} {rest:List Oper} {S Sb:Heap→Heap→Prop} {h0:Heap} {Z:MEnv→List (Heap→Prop)→Prop} {M:MEnv} {F:List (Heap→Prop)} {big:Bool}
 {dd:Nat} {op:Op} {ty:TypeId} {pos:String} {after:Array Edge}
theorem rb_o (t:Nat) {Ψ:Value→Heap→Prop} (Φ:Value→Heap→Prop) (hl:M.lookup t=some (.loose Ψ)) (hm:((⟨some dd,op,ty,pos,after,none⟩:Oper).looksAt ops).contains t=true)
 (hst:∀v h h',S h0 h→S h h'→Φ v h→Φ v h')
 (hw:∀u h',S h0 h'→Ψ u h'→OpW P χ ⟨some dd,op,ty,pos,after,none⟩ (evM ((t,.val u)::M)) h' (fun v h''=>Sb h' h''∧Φ v h''))
 (k:RMb P χ n ops Sb S h0 Z big rest ((dd,.loose Φ)::M) F):RMb P χ n ops Sb S h0 Z big (⟨some dd,op,ty,pos,after,none⟩::rest) M F:=
 ⟨.loose Φ,false,by simp,fun _=>hst,by simp,fun _ h' hs=>zkx t hl hm fun u hu=>om_w (by simp) rfl (hw u h' hs hu),by simp,by rw [show (big&&!false)=big from by simp];exact k⟩
end
section
variable {P:Program} {χ:Chi} {ρ:Operand→Option Value} {h:Heap} {ty:TypeId} {pos:String} {after:Array Edge} {guard:Option (Nat × Bool)}
theorem w_appS {s x:Operand} {t e:TypeId} {dst:Option Tmp} {z:Value} {size bytes base:Nat} {v:Value} {n m c:Nat} {y:Option Addr} {xs:List Value} {news:List Value}
 (ht:P.underlying t=some (.slice e)) (hi:(P.info? e).map (fun i=>(i.zero,i.size,i.bytes))=some (some z,size,bytes)) (hzs:Nat.beq z.cells.size size=true) (hsz:Nat.blt 0 size=true)
 (hs:ρ s=some v) (hown:Own h base e size v n xs) (hx:ρ x=some (.slice y m c)) (hl:news.length=m*size)
 (hnews:news= []∨∃b o,y=some ⟨b,o,none⟩∧zbh h b o news) (h1:∀u,u∈news→u.oneCell'=true) (hbytes:(n+m) *bytes≤140737488355328) (hn:n+m≤9223372036854775807) (hbase:base≤h.size):
 OpW P χ ⟨dst,.call ⟨.builtin .append, #[s,x], #[t,t]⟩,ty,pos,after,guard⟩ ρ h
  (fun v' h'=>Own h' base e size v' (n+m) (xs++news)∧Keep v.ownBlock.toList h h'∧(v'.ownBlock=v.ownBlock∨v'.ownBlock=some h.size)):=by
 cases hq:P.info? e with
 |none=>rw [hq] at hi;simp at hi
 |some i=>
  rw [hq] at hi
  simp only [Option.map_some,Option.some.injEq,Prod.mk.injEq] at hi
  have hsz':0<size:=by simpa [Nat.blt_eq] using hsz
  refine zjk fun r d hr=>?_
  have e1:=hr s (by simp [Op.operands,Call.operands]) _ hs
  have e2:=hr x (by simp [Op.operands,Call.operands]) _ hx
  cases y with
  |none=>
   have hnil:news= []:=by
    rcases hnews with e|⟨b,o,e,_⟩
    · exact e
    · cases e
   subst hnil
   have hm:m=0:=by
    simp only [List.length_nil] at hl
    rcases Nat.eq_zero_or_pos m with h0|h0
    · exact h0
    · have:=Nat.mul_pos h0 hsz';omega
   subst hm
   have hrun:(Builtin.append_ #[t,t] ty #[v,.slice none 0 c]).run P (mkw χ h d)=.ok v (mkw χ h d):=by
    rcases hown.2 with ⟨rfl,rfl⟩|⟨g,cap,cur,rfl,_,_,hnc,_⟩
    · simp [Builtin.append_,run_underlying ht,sizeOf,typeInfo,hq,Builtin.lenOf,Builtin.firstCells]
    · simp [Builtin.append_,run_underlying ht,sizeOf,typeInfo,hq,Builtin.lenOf,Builtin.firstCells,hnc,storeCells]
   refine ⟨v,h,d,?_,by simpa using hown,Keep.refl _ _,.inl rfl⟩
   simp [execOp,resolve,invoke,builtin,e1,e2,hrun]
  |some ad=>
   obtain ⟨v',w',hrun,h2,h3,h4,h5⟩:=run_append_own_at (P:=P) (mkw χ h d) base t ty e i z size bytes ht hq hi.1 hi.2.1 hi.2.2 (Nat.eq_of_beq_eq_true hzs) hsz' v n xs hown ad m c news hl
    (fun j u hj=>by
     rcases hnews with e|⟨b,o,e,hc⟩
     · rw [e] at hj;simp at hj
     · cases e;rw [zhb,zig];exact hc j u hj) h1 (by unfold maxLen;omega) hbytes hbase
   obtain ⟨k1,k2⟩:=grown_keep h3
   refine ⟨v',w'.heap,w'.drawn,?_,?_,k2,h5⟩
   · simp [execOp,resolve,invoke,builtin,e1,e2,hrun];exact k1
   · rw [k1] at h2;exact h2
end
section
variable {W:List SpanD} {I:ItI} {t:TypeId} {v0 cm:Value} {c cb:Nat} {d:Bool} {cur:SpanD} {q q':Pos} {Fin F G:Nat→Prop} {h h' h1 h2 h3:Heap} {sp sp' sv sv' ev ev' kv kv' a ksv kbv kbv':Value} {z z':Int} {nk nb nb':Nat} {xk xb xb':List Value} {χ:Chi}
end
theorem zfs {P:Program} {χ:Chi} {ρ:Operand→Option Value} {h:Heap} {dst:Option Tmp} {ty:TypeId} {pos:String} {after:Array Edge} {guard:Option (Nat × Bool)} {x:Operand} {t t2:TypeId} (ht:Tess.IsIface P t) (hx:ρ x=some .nilIface) (hy:ρ (.const .nilIface)=some .nilIface):
 OpV P χ ⟨dst,.binOp .neq t x (.const .nilIface) t2,ty,pos,after,guard⟩ ρ h (.bool false):=by
 intro r d hr
 have e1:=hr x (by simp [Op.operands]) _ hx
 unfold Tess.IsIface at ht
 cases hu:P.underlying t with
 |none=>rw [hu] at ht;simp at ht
 |some d'=>
  rw [hu] at ht
  cases d'<;>first|(simp at ht;done)|skip
  have:(Op.equal t .nilIface .nilIface).run P (mkw χ h d)=.ok true (mkw χ h d):=zju (fun d=>by simp [Op.equalIn,run_underlying hu])
  have e2:=hr (.const .nilIface) (by simp [Op.operands]) _ hy
  simp [execOp,e1,e2,eqGuard,binOp,this]
theorem v_makeIfaceF {P:Program} {χ:Chi} {ρ:Operand→Option Value} {h:Heap} {dst:Option Tmp} {ty:TypeId} {pos:String} {after:Array Edge} {guard:Option (Nat × Bool)} {x:Operand} {t:TypeId} {v:Value} (ht:Tess.IsFunc P t) (hx:ρ x=some v):OpV P χ ⟨dst,.makeInterface t x,ty,pos,after,guard⟩ ρ h (.iface t v):=by
 intro r d hr
 have e1:=hr x (by simp [Op.operands]) _ hx
 unfold Tess.IsFunc at ht
 cases hu:P.underlying t with
 |none=>rw [hu] at ht;simp at ht
 |some d'=>
  rw [hu] at ht
  cases d'<;>first|(simp at ht;done)|skip
  simp [execOp,e1,Instr.makeInterface,run_underlying hu]
section
variable {A:Nat→Prop} {h:Heap} {v:Value} {cb:Nat} {cs:List Value} {T:TypeId}
end
theorem w_putOwnF {P:Program} {χ:Chi} {ρ:Operand→Option Value} {h:Heap} {ty:TypeId} {pos:String} {after:Array Edge} {guard:Option (Nat × Bool)} {x y:Operand} {t e:TypeId} {g o vs:Nat} {v:Value} {base sz n c:Nat} {xs:List Value} (hs:Siz P t vs)
 (hx:ρ x=some (.pointer (some ⟨g,o,none⟩))) (hy:ρ y=some v) (hv:Nat.beq v.cells.size vs=true) (h1:v.cells.toList.all (fun u=>u.oneCell')=true)
 (ho:Own h base e sz (.slice (some ⟨g,0,none⟩) n c) n xs) (hi:o+vs≤n*sz):
 OpW P χ ⟨none,.store t x y,ty,pos,after,guard⟩ ρ h (fun _ h'=>Own h' base e sz (.slice (some ⟨g,0,none⟩) n c) n (putRow xs o v.cells.toList)∧Keep [g] h h'):=by
 have hv:=Nat.eq_of_beq_eq_true hv
 obtain ⟨hl,hn|⟨g',cap,cur,e1,hb,hg,hnc,hcm,hcs,htk⟩⟩:=ho
 · cases hn.1
 cases e1
 have hle2:n*sz≤c*sz:=Nat.mul_le_mul_right sz hnc
 have hgg:h[g]? =some (.cells cur e (0,0)):=hg
 have hsz:v.cells.toList.length=vs:=by simpa using hv
 have hcl:cur.toList.length=c*sz:=by simpa using hcs
 have hm1:min o (n*sz)=o:=Nat.min_eq_left (by omega)
 have hm2:min o (c*sz)=o:=Nat.min_eq_left (by omega)
 refine (zcv (cs:=cur.toList) (T:=e) hs hx hy hv h1 (by simpa [Blk] using hgg) (by omega)).mono ?_
 rintro _ h' ⟨B,K⟩
 refine ⟨⟨?_,.inr ⟨g,c,(putRow cur.toList o v.cells.toList).toArray,rfl,hb,B,hnc,hcm,?_,?_⟩⟩,K⟩
 · simp only [putRow,List.length_append,List.length_take,List.length_drop,hsz,hl,hm1];omega
 · simp only [putRow,List.size_toArray,List.length_append,List.length_take,List.length_drop,hsz,hcl,hm2];omega
 · rw [←htk]
   simp only [putRow]
   rw [List.take_take,List.drop_take,hm1]
   rw [List.append_assoc,List.take_append,List.take_append,List.append_assoc]
   have t1:List.take (n*sz) (List.take o cur.toList)=List.take o cur.toList:=by rw [List.take_take,Nat.min_comm,hm1]
   have t2:List.take (n*sz - o) v.cells.toList=v.cells.toList:=List.take_of_length_le (by omega)
   rw [List.length_take,hcl,hm2,hsz,t1,t2]
   rw [show n*sz - o - vs=n*sz - (o+vs) from by omega]
theorem zjc (A c B u:List Value) (d:Nat) (h:d+u.length≤c.length):putRow (A++c++B) (A.length+d) u=A++putRow c d u++B:=by
 unfold putRow
 rw [List.append_assoc A c B,List.take_append,List.drop_append,List.take_append,List.drop_append]
 rw [List.take_of_length_le (by omega:A.length≤A.length+d),List.drop_of_length_le (by omega:A.length≤A.length+d+u.length)]
 rw [show A.length+d - A.length=d from by omega,show A.length+d+u.length - A.length=d+u.length from by omega]
 rw [show d - c.length=0 from by omega,show d+u.length - c.length=0 from by omega]
 simp
theorem putRow_all {c u:List Value} (h:u.length=c.length):putRow c 0 u=u:=by
 unfold putRow
 rw [List.take_zero,Nat.zero_add,h,List.drop_of_length_le (Nat.le_refl _),List.nil_append,List.append_nil]
theorem RowsR.setF {α:Type} {sz:Nat} {R:List Value→α→Prop} {xs:List Value} {ls:List α} (h:RowsR sz R xs ls) {i d:Nat} {u:List Value} {a:α} (hi:i<ls.length) (hd:d+u.length≤sz)
 (hr:∀c b,ls[i]? =some b→c.length=sz→R c b→R (putRow c d u) a):RowsR sz R (putRow xs (i*sz+d) u) (ls.set i a):=by
 obtain ⟨css,rfl,hl,hx⟩:=h
 have hci:css[i]? =some (css[i]'(by omega)):=List.getElem?_eq_getElem (by omega)
 have hai:ls[i]? =some ls[i]:=List.getElem?_eq_getElem hi
 obtain ⟨hcl,hcr⟩:=hx i _ _ hci hai
 have hlens:=RowsR.lens hl hx
 have hpl:(putRow (css[i]'(by omega)) d u).length=sz:=by
  simp only [putRow,List.length_append,List.length_take,List.length_drop,hcl];omega
 have e:putRow css.flatten (i*sz+d) u=putRow css.flatten (i*sz) (putRow (css[i]'(by omega)) d u):=by
  have hs:css.flatten=(css.take i).flatten++css[i]'(by omega)++(css.drop (i+1)).flatten:=by
   have h9:=congrArg List.flatten (List.take_append_drop i css)
   rw [List.drop_eq_getElem_cons (by omega:i<css.length),List.flatten_append,List.flatten_cons] at h9
   rw [←h9,List.append_assoc]
  have hal:(css.take i).flatten.length=i*sz:=by
   rw [←(zlk css i hlens (by omega)).1,List.length_take]
   have:css.flatten.length=css.length*sz:=by
    have:=RowsR.len (sz:=sz) (R:=R) (xs:=css.flatten) (α:=α) ⟨css,rfl,hl,hx⟩
    rw [this,hl]
   rw [this]
   exact Nat.min_eq_left (Nat.mul_le_mul_right sz (by omega))
  rw [hs,←hal,zjc _ _ _ _ _ (by omega)]
  refine Eq.trans ?_ (zjc (css.take i).flatten (css[i]'(by omega)) (css.drop (i+1)).flatten (putRow (css[i]'(by omega)) d u) 0 (by omega)).symm
  rw [putRow_all (by rw [hpl,hcl])]
 rw [e]
 exact RowsR.set ⟨css,rfl,hl,hx⟩ hpl (hr _ _ hai hcl hcr) hi
theorem swapAt_mem {l:List KeyD} {j:Nat} {x:KeyD} (h:x∈swapAt l j):x∈l:=by
 unfold swapAt at h
 split at h
 · rename_i a b ha hb
   rcases List.mem_or_eq_of_mem_set h with h|rfl
   · rcases List.mem_or_eq_of_mem_set h with h|rfl
     · exact h
     · exact List.mem_of_getElem? hb
   · exact List.mem_of_getElem? ha
 · exact h
theorem insW_mem:∀(j:Nat) (l:List KeyD) (x:KeyD),x∈insW l j→x∈l
 |0,l,x,h=>h
 |j+1,l,x,h=>by
  simp only [insW] at h
  split at h
  · exact swapAt_mem (insW_mem j _ x h)
  · exact h
theorem canonF_mem {ks:List KeyD} {x:KeyD}:∀k,k≤ks.length→x∈canonF (ks.take k)→x∈ks
 |0,_,h=>by simp [canonF] at h
 |k+1,hk,h=>by
  obtain ⟨y,hy⟩:=ex_get (L:=ks) (k:=k) (by omega)
  rw [zbt hy,zqc] at h
  rcases List.mem_append.1 (insW_mem _ _ x h) with h|h
  · exact canonF_mem k (by omega) h
  · simp at h;subst h;exact List.mem_of_getElem? hy
theorem canonF_sub {ks:List KeyD} {x:KeyD} (h:x∈canonF ks):x∈ks:=by
 have:=canonF_mem (ks:=ks) (x:=x) ks.length (Nat.le_refl _)
 rw [List.take_length] at this
 exact this h
def atF (a e:ByteArray) (keys:List ByteArray):ByteArray:=keys.foldl (fun t k=>if slt a k&&slt k t then k else t) e
theorem zfl (a:ByteArray):slt a a=false:=by
 cases h:slt a a with
 |false=>rfl
 |true=>have:=zds.1 h;have h2:=zef.1 (zdj a);have h3:=zev.2 (zdj a);rw [h] at h3;cases h3
theorem spans_row {A:Nat→Prop} {h:Heap} {v:Value} {L:List SpanD} (hL:RSpans A h v L):∃a c news,v=.slice a L.length c∧news.length=L.length*3∧RowsR 3 (cSpan A h) news L∧(news= []∨∃b o,a=some ⟨b,o,none⟩∧zbh h b o news)∧∀u,u∈news→u.oneCell'=true:=by
 obtain ⟨_,a,c,e,hx⟩:=SlR.form hL
 have one:∀(cs:List Value) (s:SpanD),cSpan A h cs s→cs.all (fun u=>u.oneCell')=true:=fun cs s hc=>by
  obtain ⟨kv,rfl,hk⟩:=hc
  obtain ⟨ka,kc,rfl⟩:=hk.form2
  rfl
 rcases hx with rfl|⟨b,o,rfl,hAb,hR⟩
 · exact ⟨a,c, [],e,rfl,RowsR.nil _ _,.inl rfl,by simp⟩
 · obtain ⟨news,h1,h2⟩:=rows_of (h:=h) (b:=b) (o:=o) (sz:=3) (R:=cSpan A h) (fun i x hi=>by
    obtain ⟨kv,hc,hk⟩:=hR i x hi
    exact ⟨_,rfl,hc,kv,rfl,hk⟩) (by omega)
   exact ⟨_,c,news,e,h2.len,h2,.inr ⟨b,o,rfl,h1⟩,fun u hu=>List.all_eq_true.1 (h2.all1 one) u hu⟩
end Go.Proofs.YtgnagohmccbjcaaGreat
