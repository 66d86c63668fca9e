/- Texts Facts to W66, as far as the statement reaches them, laid together by a program of ours. Conditions: those that each theorem names. -/
import Derived.Test.YtblhkgldhcbmeaaGreatK1
import Derived.Test.YtblhkgldhcbmeaaGreatProg
import Derived.Test.YtblhkgldhcbmeaaGreatRows
import Derived.ProofKit
import Derived.Deep.Slices
set_option linter.unusedVariables false
set_option linter.unusedSimpArgs false
set_option linter.unusedSectionVars false
namespace Go.Proofs.YtblhkgldhcbmeaaGreat
open Go.Tess
set_option maxRecDepth 100000
theorem u_int : Tryz.prog.underlying 3 = some (.int .i64) := by kernel_rfl
theorem u_bool : Tryz.prog.underlying 4 = some (.bool) := by kernel_rfl
theorem zgh : Tryz.prog.underlying 5 = some (.int .u8) := by kernel_rfl
theorem zdl : Tryz.prog.underlying 9 = some (.string) := by kernel_rfl
theorem u_sl_spec_Entry : Tryz.prog.underlying 22 = some (.slice 53) := by kernel_rfl
theorem u_sl_spec_Span : Tryz.prog.underlying 23 = some (.slice 56) := by kernel_rfl
theorem u_sl_spec_Step : Tryz.prog.underlying 24 = some (.slice 66) := by kernel_rfl
theorem zdw : Tryz.prog.underlying 29 = some (.slice 52) := by kernel_rfl
theorem zig : Tryz.prog.underlying 31 = some (.slice 47) := by kernel_rfl
theorem zgi : Tryz.prog.underlying 33 = some (.slice 50) := by kernel_rfl
theorem zgx : Tryz.prog.underlying 37 = some (.slice 90) := by kernel_rfl
theorem zev : Tryz.prog.underlying 40 = some (.slice 59) := by kernel_rfl
theorem u_uint64 : Tryz.prog.underlying 45 = some (.int .u64) := by kernel_rfl
theorem zey : Tryz.prog.underlying 48 = some (.slice 254) := by kernel_rfl
theorem zbq : Tryz.prog.underlying 54 = some (.slice 73) := by kernel_rfl
theorem zcx : Tryz.prog.underlying 107 = some (.slice 5) := by kernel_rfl
theorem zbj : Tryz.prog.underlying 108 = some (.pointer 116) := by kernel_rfl
theorem zbo : Tryz.prog.underlying 114 = some (.pointer 121) := by kernel_rfl
theorem zeo : Tryz.prog.underlying 117 = some (.slice 261) := by kernel_rfl
theorem zre : Tryz.prog.underlying 126 = some (.pointer 236) := by kernel_rfl
theorem zom : Tryz.prog.underlying 131 = some (.pointer 239) := by kernel_rfl
theorem zco : Tryz.prog.underlying 148 = some (.slice 121) := by kernel_rfl
theorem zez : Tryz.prog.underlying 155 = some (.slice 161) := by kernel_rfl
theorem u_p_impl_mask : Tryz.prog.underlying 169 = some (.pointer 171) := by kernel_rfl
theorem u_uint : Tryz.prog.underlying 231 = some (.int .u64) := by kernel_rfl
theorem zcl : Tryz.prog.underlying 233 = some (.slice 116) := by kernel_rfl
theorem zkt : Tryz.prog.underlying 234 = some (.slice 107) := by kernel_rfl
theorem zkp : Tryz.prog.underlying 262 = some (.int .u8) := by kernel_rfl
theorem zei : IsIface Tryz.prog 106 := by unfold IsIface; kernel_rfl
theorem zcz : IsIface Tryz.prog 113 := by unfold IsIface; kernel_rfl
theorem ztu : FA Tryz.prog 36 0 0 := fun _ _ _ => by kernel_rfl
theorem ztv : FA Tryz.prog 36 1 1 := fun _ _ _ => by kernel_rfl
theorem ztw : FA Tryz.prog 47 0 0 := fun _ _ _ => by kernel_rfl
theorem zoy : FA Tryz.prog 47 1 1 := fun _ _ _ => by kernel_rfl
theorem zoz : FA Tryz.prog 47 2 2 := fun _ _ _ => by kernel_rfl
theorem zps : FA Tryz.prog 50 0 0 := fun _ _ _ => by kernel_rfl
theorem zpt : FA Tryz.prog 50 1 1 := fun _ _ _ => by kernel_rfl
theorem zpu : FA Tryz.prog 50 2 2 := fun _ _ _ => by kernel_rfl
theorem zhd : FA Tryz.prog 52 0 0 := fun _ _ _ => by kernel_rfl
theorem zel : FA Tryz.prog 52 1 1 := fun _ _ _ => by kernel_rfl
theorem zhe : FA Tryz.prog 52 2 2 := fun _ _ _ => by kernel_rfl
theorem zgj : FA Tryz.prog 52 3 3 := fun _ _ _ => by kernel_rfl
theorem zfm : FA Tryz.prog 52 4 6 := fun _ _ _ => by kernel_rfl
theorem zlm : FA Tryz.prog 52 5 7 := fun _ _ _ => by kernel_rfl
theorem zfl : FA Tryz.prog 53 0 0 := fun _ _ _ => by kernel_rfl
theorem zih : FA Tryz.prog 53 1 1 := fun _ _ _ => by kernel_rfl
theorem ztx : FA Tryz.prog 53 2 2 := fun _ _ _ => by kernel_rfl
theorem zeu : FA Tryz.prog 56 0 0 := fun _ _ _ => by kernel_rfl
theorem zfg : FA Tryz.prog 56 1 1 := fun _ _ _ => by kernel_rfl
theorem zew : FA Tryz.prog 56 2 2 := fun _ _ _ => by kernel_rfl
theorem zhf : FA Tryz.prog 59 0 0 := fun _ _ _ => by kernel_rfl
theorem zhg : FA Tryz.prog 59 1 1 := fun _ _ _ => by kernel_rfl
theorem zln : FA Tryz.prog 59 2 2 := fun _ _ _ => by kernel_rfl
theorem zlo : FA Tryz.prog 59 3 3 := fun _ _ _ => by kernel_rfl
theorem zir : FA Tryz.prog 59 4 6 := fun _ _ _ => by kernel_rfl
theorem zlp : FA Tryz.prog 59 5 7 := fun _ _ _ => by kernel_rfl
theorem zka : FA Tryz.prog 66 0 0 := fun _ _ _ => by kernel_rfl
theorem zis : FA Tryz.prog 66 1 1 := fun _ _ _ => by kernel_rfl
theorem zfx : FA Tryz.prog 73 0 0 := fun _ _ _ => by kernel_rfl
theorem zhm : FA Tryz.prog 73 1 1 := fun _ _ _ => by kernel_rfl
theorem zki : FA Tryz.prog 73 2 2 := fun _ _ _ => by kernel_rfl
theorem zmn : FA Tryz.prog 90 0 0 := fun _ _ _ => by kernel_rfl
theorem zpv : FA Tryz.prog 90 1 1 := fun _ _ _ => by kernel_rfl
theorem zrk : FA Tryz.prog 111 0 0 := fun _ _ _ => by kernel_rfl
theorem zca : FA Tryz.prog 116 0 0 := fun _ _ _ => by kernel_rfl
theorem zgk : FA Tryz.prog 116 1 1 := fun _ _ _ => by kernel_rfl
theorem zea : FA Tryz.prog 121 0 0 := fun _ _ _ => by kernel_rfl
theorem zep : FA Tryz.prog 121 1 1 := fun _ _ _ => by kernel_rfl
theorem zfh : FA Tryz.prog 121 2 2 := fun _ _ _ => by kernel_rfl
theorem zbe : FA Tryz.prog 124 0 0 := fun _ _ _ => by kernel_rfl
theorem zme : FA Tryz.prog 124 1 1 := fun _ _ _ => by kernel_rfl
theorem zbt : FA Tryz.prog 124 2 2 := fun _ _ _ => by kernel_rfl
theorem zcr : FA Tryz.prog 124 3 3 := fun _ _ _ => by kernel_rfl
theorem zcj : FA Tryz.prog 124 4 4 := fun _ _ _ => by kernel_rfl
theorem zdu : FA Tryz.prog 124 5 5 := fun _ _ _ => by kernel_rfl
theorem zfo : FA Tryz.prog 124 6 6 := fun _ _ _ => by kernel_rfl
theorem zgv : FA Tryz.prog 124 7 7 := fun _ _ _ => by kernel_rfl
theorem zam : FA Tryz.prog 124 9 9 := fun _ _ _ => by kernel_rfl
theorem zgo : FA Tryz.prog 124 10 10 := fun _ _ _ => by kernel_rfl
theorem zaj : FA Tryz.prog 124 11 12 := fun _ _ _ => by kernel_rfl
theorem zgp : FA Tryz.prog 124 12 13 := fun _ _ _ => by kernel_rfl
theorem zag : FA Tryz.prog 124 13 14 := fun _ _ _ => by kernel_rfl
theorem zdb : FA Tryz.prog 124 14 15 := fun _ _ _ => by kernel_rfl
theorem zdp : FA Tryz.prog 124 15 17 := fun _ _ _ => by kernel_rfl
theorem zby : FA Tryz.prog 124 16 21 := fun _ _ _ => by kernel_rfl
theorem zak : FA Tryz.prog 124 17 22 := fun _ _ _ => by kernel_rfl
theorem zas : FA Tryz.prog 124 18 23 := fun _ _ _ => by kernel_rfl
theorem zdq : FA Tryz.prog 124 19 24 := fun _ _ _ => by kernel_rfl
theorem zem : FA Tryz.prog 124 20 25 := fun _ _ _ => by kernel_rfl
theorem zdr : FA Tryz.prog 124 21 26 := fun _ _ _ => by kernel_rfl
theorem zii : FA Tryz.prog 147 0 0 := fun _ _ _ => by kernel_rfl
theorem zru : FA Tryz.prog 147 1 1 := fun _ _ _ => by kernel_rfl
theorem zhq : FA Tryz.prog 151 0 0 := fun _ _ _ => by kernel_rfl
theorem zhr : FA Tryz.prog 151 1 1 := fun _ _ _ => by kernel_rfl
theorem zhs : FA Tryz.prog 151 2 2 := fun _ _ _ => by kernel_rfl
theorem zgq : FA Tryz.prog 159 0 0 := fun _ _ _ => by kernel_rfl
theorem zdg : FA Tryz.prog 159 1 1 := fun _ _ _ => by kernel_rfl
theorem zbg : FA Tryz.prog 159 2 2 := fun _ _ _ => by kernel_rfl
theorem zes : FA Tryz.prog 159 3 3 := fun _ _ _ => by kernel_rfl
theorem zet : FA Tryz.prog 159 4 4 := fun _ _ _ => by kernel_rfl
theorem zfs : FA Tryz.prog 159 5 5 := fun _ _ _ => by kernel_rfl
theorem zmo : FA Tryz.prog 161 0 0 := fun _ _ _ => by kernel_rfl
theorem zun : FA Tryz.prog 161 1 3 := fun _ _ _ => by kernel_rfl
theorem zuo : FA Tryz.prog 171 0 0 := fun _ _ _ => by kernel_rfl
theorem zgy : FA Tryz.prog 171 1 1 := fun _ _ _ => by kernel_rfl
theorem zdt : FA Tryz.prog 236 0 0 := fun _ _ _ => by kernel_rfl
theorem zkb : FA Tryz.prog 236 1 1 := fun _ _ _ => by kernel_rfl
theorem zbl : FA Tryz.prog 236 2 2 := fun _ _ _ => by kernel_rfl
theorem zkc : FA Tryz.prog 236 3 3 := fun _ _ _ => by kernel_rfl
theorem zkd : FA Tryz.prog 236 4 4 := fun _ _ _ => by kernel_rfl
theorem znt : FA Tryz.prog 239 0 0 := fun _ _ _ => by kernel_rfl
theorem zcw : FA Tryz.prog 239 1 1 := fun _ _ _ => by kernel_rfl
theorem zbh : FA Tryz.prog 239 2 2 := fun _ _ _ => by kernel_rfl
theorem zsj : FA Tryz.prog 254 0 0 := fun _ _ _ => by kernel_rfl
theorem zsk : FA Tryz.prog 254 1 1 := fun _ _ _ => by kernel_rfl
theorem zsl : FA Tryz.prog 254 2 2 := fun _ _ _ => by kernel_rfl
theorem zkx : FA Tryz.prog 261 0 0 := fun _ _ _ => by kernel_rfl
theorem zth : FA Tryz.prog 261 1 1 := fun _ _ _ => by kernel_rfl
theorem zti : FA Tryz.prog 261 2 2 := fun _ _ _ => by kernel_rfl
theorem zbx : One Tryz.prog 3 := fun _ => by kernel_rfl
theorem zav : One Tryz.prog 4 := fun _ => by kernel_rfl
theorem zjr : One Tryz.prog 5 := fun _ => by kernel_rfl
theorem zbp : One Tryz.prog 9 := fun _ => by kernel_rfl
theorem zen : One Tryz.prog 45 := fun _ => by kernel_rfl
theorem zmf : One Tryz.prog 48 := fun _ => by kernel_rfl
theorem zed : One Tryz.prog 54 := fun _ => by kernel_rfl
theorem zbz : One Tryz.prog 99 := fun _ => by kernel_rfl
theorem zrl : One Tryz.prog 100 := fun _ => by kernel_rfl
theorem zcc : One Tryz.prog 102 := fun _ => by kernel_rfl
theorem zcu : One Tryz.prog 104 := fun _ => by kernel_rfl
theorem zdc : One Tryz.prog 106 := fun _ => by kernel_rfl
theorem zau : One Tryz.prog 107 := fun _ => by kernel_rfl
theorem zat : One Tryz.prog 108 := fun _ => by kernel_rfl
theorem zcv : One Tryz.prog 113 := fun _ => by kernel_rfl
theorem zan : One Tryz.prog 114 := fun _ => by kernel_rfl
theorem zfc : One Tryz.prog 117 := fun _ => by kernel_rfl
theorem one_int8 : One Tryz.prog 118 := fun _ => by kernel_rfl
theorem zbr : One Tryz.prog 122 := fun _ => by kernel_rfl
theorem zup : One Tryz.prog 134 := fun _ => by kernel_rfl
theorem zcm : One Tryz.prog 148 := fun _ => by kernel_rfl
theorem zab : One Tryz.prog 153 := fun _ => by kernel_rfl
theorem zcg : One Tryz.prog 233 := fun _ => by kernel_rfl
theorem zly : One Tryz.prog 234 := fun _ => by kernel_rfl
theorem zjm : Many Tryz.prog 36 2 := ⟨fun _ => by kernel_rfl, fun _ => by kernel_rfl⟩
theorem zij : Many Tryz.prog 47 3 := ⟨fun _ => by kernel_rfl, fun _ => by kernel_rfl⟩
theorem zgz : Many Tryz.prog 50 3 := ⟨fun _ => by kernel_rfl, fun _ => by kernel_rfl⟩
theorem zit : Many Tryz.prog 52 10 := ⟨fun _ => by kernel_rfl, fun _ => by kernel_rfl⟩
theorem zdy : Many Tryz.prog 53 3 := ⟨fun _ => by kernel_rfl, fun _ => by kernel_rfl⟩
theorem zcy : Many Tryz.prog 56 3 := ⟨fun _ => by kernel_rfl, fun _ => by kernel_rfl⟩
theorem ziu : Many Tryz.prog 59 10 := ⟨fun _ => by kernel_rfl, fun _ => by kernel_rfl⟩
theorem ziv : Many Tryz.prog 66 2 := ⟨fun _ => by kernel_rfl, fun _ => by kernel_rfl⟩
theorem zdv : Many Tryz.prog 73 3 := ⟨fun _ => by kernel_rfl, fun _ => by kernel_rfl⟩
theorem zuq : Many Tryz.prog 90 2 := ⟨fun _ => by kernel_rfl, fun _ => by kernel_rfl⟩
theorem zba : Many Tryz.prog 111 2 := ⟨fun _ => by kernel_rfl, fun _ => by kernel_rfl⟩
theorem ziw : Many Tryz.prog 116 2 := ⟨fun _ => by kernel_rfl, fun _ => by kernel_rfl⟩
theorem znu : Many Tryz.prog 121 4 := ⟨fun _ => by kernel_rfl, fun _ => by kernel_rfl⟩
theorem zur : Many Tryz.prog 161 4 := ⟨fun _ => by kernel_rfl, fun _ => by kernel_rfl⟩
theorem zkj : Many Tryz.prog 254 3 := ⟨fun _ => by kernel_rfl, fun _ => by kernel_rfl⟩
theorem zhw : Many Tryz.prog 261 3 := ⟨fun _ => by kernel_rfl, fun _ => by kernel_rfl⟩
theorem zer : Siz Tryz.prog 3 1 := fun _ => by kernel_rfl
theorem zch : Siz Tryz.prog 4 1 := fun _ => by kernel_rfl
theorem siz_uint8 : Siz Tryz.prog 5 1 := fun _ => by kernel_rfl
theorem siz_string : Siz Tryz.prog 9 1 := fun _ => by kernel_rfl
theorem znz : Siz Tryz.prog 45 1 := fun _ => by kernel_rfl
theorem zhu : Siz Tryz.prog 47 3 := fun _ => by kernel_rfl
theorem zfp : Siz Tryz.prog 50 3 := fun _ => by kernel_rfl
theorem zex : Siz Tryz.prog 52 10 := fun _ => by kernel_rfl
theorem zeg : Siz Tryz.prog 53 3 := fun _ => by kernel_rfl
theorem zrm : Siz Tryz.prog 54 1 := fun _ => by kernel_rfl
theorem zck : Siz Tryz.prog 56 3 := fun _ => by kernel_rfl
theorem zft : Siz Tryz.prog 59 10 := fun _ => by kernel_rfl
theorem zid : Siz Tryz.prog 66 2 := fun _ => by kernel_rfl
theorem zcp : Siz Tryz.prog 73 3 := fun _ => by kernel_rfl
theorem zje : Siz Tryz.prog 90 2 := fun _ => by kernel_rfl
theorem zgc : Siz Tryz.prog 107 1 := fun _ => by kernel_rfl
theorem zkq : Siz Tryz.prog 108 1 := fun _ => by kernel_rfl
theorem zaz : Siz Tryz.prog 111 2 := fun _ => by kernel_rfl
theorem zjs : Siz Tryz.prog 113 1 := fun _ => by kernel_rfl
theorem zik : Siz Tryz.prog 114 1 := fun _ => by kernel_rfl
theorem zfe : Siz Tryz.prog 116 2 := fun _ => by kernel_rfl
theorem zmp : Siz Tryz.prog 118 1 := fun _ => by kernel_rfl
theorem zdz : Siz Tryz.prog 121 4 := fun _ => by kernel_rfl
theorem zbm : Siz Tryz.prog 122 1 := fun _ => by kernel_rfl
theorem zix : Siz Tryz.prog 124 27 := fun _ => by kernel_rfl
theorem zrn : Siz Tryz.prog 159 6 := fun _ => by kernel_rfl
theorem zjf : Siz Tryz.prog 161 4 := fun _ => by kernel_rfl
theorem zov : Siz Tryz.prog 233 1 := fun _ => by kernel_rfl
theorem zty : Siz Tryz.prog 234 1 := fun _ => by kernel_rfl
theorem ztj : Siz Tryz.prog 239 3 := fun _ => by kernel_rfl
theorem zgf : Siz Tryz.prog 254 3 := fun _ => by kernel_rfl
theorem zfz : Siz Tryz.prog 261 3 := fun _ => by kernel_rfl
theorem zjn : Zero Tryz.prog 47 [.string ByteArray.empty, .int .u64 0, .string ByteArray.empty] := fun _ => ⟨.agg #[.string ByteArray.empty, .int .u64 0, .string ByteArray.empty], by kernel_rfl, by kernel_rfl⟩
theorem zha : Zero Tryz.prog 50 [.string ByteArray.empty, .string ByteArray.empty, .slice none 0 0] := fun _ => ⟨.agg #[.string ByteArray.empty, .string ByteArray.empty, .slice none 0 0], by kernel_rfl, by kernel_rfl⟩
theorem zhh : Zero Tryz.prog 52 [.bool false, .bool false, .bool false, .string ByteArray.empty, .int .u64 0, .string ByteArray.empty, .bool false, .string ByteArray.empty, .string ByteArray.empty, .slice none 0 0] := fun _ => ⟨.agg #[.bool false, .bool false, .bool false, .string ByteArray.empty, .int .u64 0, .string ByteArray.empty, .bool false, .string ByteArray.empty, .string ByteArray.empty, .slice none 0 0], by kernel_rfl, by kernel_rfl⟩
theorem zhi : Zero Tryz.prog 53 [.string ByteArray.empty, .int .u64 0, .string ByteArray.empty] := fun _ => ⟨.agg #[.string ByteArray.empty, .int .u64 0, .string ByteArray.empty], by kernel_rfl, by kernel_rfl⟩
theorem zeh : Zero Tryz.prog 56 [.string ByteArray.empty, .string ByteArray.empty, .slice none 0 0] := fun _ => ⟨.agg #[.string ByteArray.empty, .string ByteArray.empty, .slice none 0 0], by kernel_rfl, by kernel_rfl⟩
theorem zgl : Zero Tryz.prog 59 [.bool false, .bool false, .bool false, .string ByteArray.empty, .int .u64 0, .string ByteArray.empty, .bool false, .string ByteArray.empty, .string ByteArray.empty, .slice none 0 0] := fun _ => ⟨.agg #[.bool false, .bool false, .bool false, .string ByteArray.empty, .int .u64 0, .string ByteArray.empty, .bool false, .string ByteArray.empty, .string ByteArray.empty, .slice none 0 0], by kernel_rfl, by kernel_rfl⟩
theorem zmq : Zero Tryz.prog 66 [.int .u8 0, .string ByteArray.empty] := fun _ => ⟨.agg #[.int .u8 0, .string ByteArray.empty], by kernel_rfl, by kernel_rfl⟩
theorem zfy : Zero Tryz.prog 73 [.int .u64 0, .string ByteArray.empty, .string ByteArray.empty] := fun _ => ⟨.agg #[.int .u64 0, .string ByteArray.empty, .string ByteArray.empty], by kernel_rfl, by kernel_rfl⟩
theorem zke : Zero Tryz.prog 90 [.int .u8 0, .string ByteArray.empty] := fun _ => ⟨.agg #[.int .u8 0, .string ByteArray.empty], by kernel_rfl, by kernel_rfl⟩
theorem zero_sl_uint8 : Zero Tryz.prog 107 [.slice none 0 0] := fun _ => ⟨.slice none 0 0, by kernel_rfl, by kernel_rfl⟩
theorem zbf : Zero Tryz.prog 111 [.slice none 0 0, .pointer none] := fun _ => ⟨.agg #[.slice none 0 0, .pointer none], by kernel_rfl, by kernel_rfl⟩
theorem zlq : Zero Tryz.prog 116 [.slice none 0 0, .int .u64 0] := fun _ => ⟨.agg #[.slice none 0 0, .int .u64 0], by kernel_rfl, by kernel_rfl⟩
theorem znv : Zero Tryz.prog 121 [.slice none 0 0, .slice none 0 0, .slice none 0 0, .int .i8 0] := fun _ => ⟨.agg #[.slice none 0 0, .slice none 0 0, .slice none 0 0, .int .i8 0], by kernel_rfl, by kernel_rfl⟩
theorem zin : Zero Tryz.prog 124 [.nilFunc, .pointer none, .nilIface, .nilIface, .nilIface, .slice none 0 0, .slice none 0 0, .slice none 0 0, .slice none 0 0, .pointer none, .slice none 0 0, .pointer none, .nilIface, .slice none 0 0, .pointer none, .slice none 0 0, .int .u64 0, .slice none 0 0, .slice none 0 0, .slice none 0 0, .int .i8 0, .bool false, .int .i8 0, .bool false, .bool false, .bool false, .int .i8 0] := fun _ => ⟨.agg #[.nilFunc, .pointer none, .nilIface, .nilIface, .nilIface, .slice none 0 0, .slice none 0 0, .slice none 0 0, .slice none 0 0, .pointer none, .slice none 0 0, .pointer none, .nilIface, .slice none 0 0, .pointer none, .slice none 0 0, .int .u64 0, .slice none 0 0, .slice none 0 0, .slice none 0 0, .int .i8 0, .bool false, .int .i8 0, .bool false, .bool false, .bool false, .int .i8 0], by kernel_rfl, by kernel_rfl⟩
theorem zmr : Zero Tryz.prog 161 [.string ByteArray.empty, .int .u64 0, .string ByteArray.empty, .bool false] := fun _ => ⟨.agg #[.string ByteArray.empty, .int .u64 0, .string ByteArray.empty, .bool false], by kernel_rfl, by kernel_rfl⟩
theorem zhn : Zero Tryz.prog 254 [.int .u64 0, .string ByteArray.empty, .string ByteArray.empty] := fun _ => ⟨.agg #[.int .u64 0, .string ByteArray.empty, .string ByteArray.empty], by kernel_rfl, by kernel_rfl⟩
theorem zky : Zero Tryz.prog 261 [.int .u64 0, .slice none 0 0, .slice none 0 0] := fun _ => ⟨.agg #[.int .u64 0, .slice none 0 0, .slice none 0 0], by kernel_rfl, by kernel_rfl⟩
theorem zpa  : ∀ w, (Instr.build 36 #[]).run Tryz.prog w = .ok (.agg #[.string ByteArray.empty, .bool false]) w := fun _ => by kernel_rfl
theorem znf (x0 : ByteArray) (x1 : Int) : ∀ w, (Instr.build 47 #[(0, .string x0), (1, .int .u64 x1)]).run Tryz.prog w = .ok (.agg #[.string x0, .int .u64 x1, .string ByteArray.empty]) w := fun _ => by kernel_rfl
theorem zjj (x0 : ByteArray) (x1 : ByteArray) (x2 : Option Addr) (x2n x2c : Nat) : ∀ w, (Instr.build 50 #[(0, .string x0), (1, .string x1), (2, .slice x2 x2n x2c)]).run Tryz.prog w = .ok (.agg #[.string x0, .string x1, .slice x2 x2n x2c]) w := fun _ => by kernel_rfl
theorem zpw  : ∀ w, (Instr.build 52 #[]).run Tryz.prog w = .ok (.agg #[.bool false, .bool false, .bool false, .string ByteArray.empty, .int .u64 0, .string ByteArray.empty, .bool false, .string ByteArray.empty, .string ByteArray.empty, .slice none 0 0]) w := fun _ => by kernel_rfl
theorem zph (x0 : Bool) : ∀ w, (Instr.build 52 #[(0, .bool x0)]).run Tryz.prog w = .ok (.agg #[.bool x0, .bool false, .bool false, .string ByteArray.empty, .int .u64 0, .string ByteArray.empty, .bool false, .string ByteArray.empty, .string ByteArray.empty, .slice none 0 0]) w := fun _ => by kernel_rfl
theorem zon (x0 : ByteArray) : ∀ w, (Instr.build 53 #[(0, .string x0)]).run Tryz.prog w = .ok (.agg #[.string x0, .int .u64 0, .string ByteArray.empty]) w := fun _ => by kernel_rfl
theorem zro (x0 : ByteArray) (x1 : ByteArray) (x2 : Option Addr) (x2n x2c : Nat) : ∀ w, (Instr.build 56 #[(0, .string x0), (1, .string x1), (2, .slice x2 x2n x2c)]).run Tryz.prog w = .ok (.agg #[.string x0, .string x1, .slice x2 x2n x2c]) w := fun _ => by kernel_rfl
theorem zpi (x0 : Bool) : ∀ w, (Instr.build 59 #[(0, .bool x0)]).run Tryz.prog w = .ok (.agg #[.bool x0, .bool false, .bool false, .string ByteArray.empty, .int .u64 0, .string ByteArray.empty, .bool false, .string ByteArray.empty, .string ByteArray.empty, .slice none 0 0]) w := fun _ => by kernel_rfl
theorem zms (x0 : Bool) (x1 : Bool) (x2 : Bool) (x3_0 : ByteArray) (x3_1 : Int) (x3_2 : ByteArray) : ∀ w, (Instr.build 59 #[(0, .bool x0), (1, .bool x1), (2, .bool x2), (3, (.agg #[.string x3_0, .int .u64 x3_1, .string x3_2]))]).run Tryz.prog w = .ok (.agg #[.bool x0, .bool x1, .bool x2, .string x3_0, .int .u64 x3_1, .string x3_2, .bool false, .string ByteArray.empty, .string ByteArray.empty, .slice none 0 0]) w := fun _ => by kernel_rfl
theorem zpb (x0 : Int) : ∀ w, (Instr.build 90 #[(0, .int .u8 x0)]).run Tryz.prog w = .ok (.agg #[.int .u8 x0, .string ByteArray.empty]) w := fun _ => by kernel_rfl
theorem zfk  : ∀ w, (Instr.build 111 #[]).run Tryz.prog w = .ok (.agg #[.slice none 0 0, .pointer none]) w := fun _ => by kernel_rfl
theorem zqo (x0 : Option Addr) (x0n x0c : Nat) : ∀ w, (Instr.build 111 #[(0, .slice x0 x0n x0c)]).run Tryz.prog w = .ok (.agg #[.slice x0 x0n x0c, .pointer none]) w := fun _ => by kernel_rfl
theorem zoo (x0 : Option Addr) (x0n x0c : Nat) (x1 : Int) : ∀ w, (Instr.build 116 #[(0, .slice x0 x0n x0c), (1, .int .u64 x1)]).run Tryz.prog w = .ok (.agg #[.slice x0 x0n x0c, .int .u64 x1]) w := fun _ => by kernel_rfl
theorem zio  : ∀ w, (Instr.build 121 #[]).run Tryz.prog w = .ok (.agg #[.slice none 0 0, .slice none 0 0, .slice none 0 0, .int .i8 0]) w := fun _ => by kernel_rfl
theorem zpj (x0 : Option Addr) (x0n x0c : Nat) (x1 : Option Addr) (x1n x1c : Nat) (x2 : Option Addr) (x2n x2c : Nat) : ∀ w, (Instr.build 121 #[(0, .slice x0 x0n x0c), (1, .slice x1 x1n x1c), (2, .slice x2 x2n x2c)]).run Tryz.prog w = .ok (.agg #[.slice x0 x0n x0c, .slice x1 x1n x1c, .slice x2 x2n x2c, .int .i8 0]) w := fun _ => by kernel_rfl
theorem zlv (x0 : FuncId) (x0a x0b : Array Value) (x1 : FuncId) (x1a x1b : Array Value) (x2 : FuncId) (x2a x2b : Array Value) (x4 : FuncId) (x4a x4b : Array Value) (x6 : FuncId) (x6a x6b : Array Value) (x7 : FuncId) (x7a x7b : Array Value) (x8 : ByteArray) : ∀ w, (Instr.build 147 #[(0, .func (.func x0) x0a x0b), (1, .func (.func x1) x1a x1b), (2, .func (.func x2) x2a x2b), (4, .func (.func x4) x4a x4b), (6, .func (.func x6) x6a x6b), (7, .func (.func x7) x7a x7b), (8, .string x8)]).run Tryz.prog w = .ok (.agg #[.func (.func x0) x0a x0b, .func (.func x1) x1a x1b, .func (.func x2) x2a x2b, .nilFunc, .func (.func x4) x4a x4b, .nilFunc, .func (.func x6) x6a x6b, .func (.func x7) x7a x7b, .string x8]) w := fun _ => by kernel_rfl
theorem zkk (x0t : TypeId) (x0 : Value) : ∀ w, (Instr.build 151 #[(0, .iface x0t x0)]).run Tryz.prog w = .ok (.agg #[.iface x0t x0, .slice none 0 0, .slice none 0 0]) w := fun _ => by kernel_rfl
theorem zjt (x1 : Option Addr) (x1n x1c : Nat) (x2 : Option Addr) (x2n x2c : Nat) : ∀ w, (Instr.build 151 #[(1, .slice x1 x1n x1c), (2, .slice x2 x2n x2c)]).run Tryz.prog w = .ok (.agg #[.nilIface, .slice x1 x1n x1c, .slice x2 x2n x2c]) w := fun _ => by kernel_rfl
theorem zpx (x0 : Int) : ∀ w, (Instr.build 159 #[(0, .int .i64 x0)]).run Tryz.prog w = .ok (.agg #[.int .i64 x0, .int .i64 0, .bool false, .bool false, .bool false, .bool false]) w := fun _ => by kernel_rfl
theorem zng (x0 : Int) (x1 : Int) (x2 : Bool) (x5 : Bool) : ∀ w, (Instr.build 159 #[(0, .int .i64 x0), (1, .int .i64 x1), (2, .bool x2), (5, .bool x5)]).run Tryz.prog w = .ok (.agg #[.int .i64 x0, .int .i64 x1, .bool x2, .bool false, .bool false, .bool x5]) w := fun _ => by kernel_rfl
theorem zpc (x0_0 : ByteArray) (x0_1 : Int) (x0_2 : ByteArray) : ∀ w, (Instr.build 161 #[(0, (.agg #[.string x0_0, .int .u64 x0_1, .string x0_2]))]).run Tryz.prog w = .ok (.agg #[.string x0_0, .int .u64 x0_1, .string x0_2, .bool false]) w := fun _ => by kernel_rfl
theorem znw (x0_0 : ByteArray) (x0_1 : Int) (x0_2 : ByteArray) (x1 : Bool) : ∀ w, (Instr.build 161 #[(0, (.agg #[.string x0_0, .int .u64 x0_1, .string x0_2])), (1, .bool x1)]).run Tryz.prog w = .ok (.agg #[.string x0_0, .int .u64 x0_1, .string x0_2, .bool x1]) w := fun _ => by kernel_rfl
theorem ztz (x0 : Int) : ∀ w, (Instr.build 171 #[(0, .int .u64 x0)]).run Tryz.prog w = .ok (.agg #[.int .u64 x0, .bool false]) w := fun _ => by kernel_rfl
theorem zua (x2 : Int) : ∀ w, (Instr.build 236 #[(2, .int .i64 x2)]).run Tryz.prog w = .ok (.agg #[.slice none 0 0, .slice none 0 0, .int .i64 x2, .slice none 0 0, .slice none 0 0]) w := fun _ => by kernel_rfl
theorem zsm  : ∀ w, (Instr.build 239 #[]).run Tryz.prog w = .ok (.agg #[.nilFunc, .slice none 0 0, .int .i64 0]) w := fun _ => by kernel_rfl
theorem zpk (x0 : FuncId) (x0a x0b : Array Value) (x1 : Option Addr) (x1n x1c : Nat) (x2 : Int) : ∀ w, (Instr.build 239 #[(0, .func (.func x0) x0a x0b), (1, .slice x1 x1n x1c), (2, .int .i64 x2)]).run Tryz.prog w = .ok (.agg #[.func (.func x0) x0a x0b, .slice x1 x1n x1c, .int .i64 x2]) w := fun _ => by kernel_rfl
theorem zrv (x0 : Int) : ∀ w, (Instr.build 254 #[(0, .int .u64 x0)]).run Tryz.prog w = .ok (.agg #[.int .u64 x0, .string ByteArray.empty, .string ByteArray.empty]) w := fun _ => by kernel_rfl
theorem zpl (x0 : Int) (x1 : ByteArray) (x2 : ByteArray) : ∀ w, (Instr.build 254 #[(0, .int .u64 x0), (1, .string x1), (2, .string x2)]).run Tryz.prog w = .ok (.agg #[.int .u64 x0, .string x1, .string x2]) w := fun _ => by kernel_rfl
theorem zpy (x0 : Int) (x1 : Option Addr) (x1n x1c : Nat) (x2 : Option Addr) (x2n x2c : Nat) : ∀ w, (Instr.build 261 #[(0, .int .u64 x0), (1, .slice x1 x1n x1c), (2, .slice x2 x2n x2c)]).run Tryz.prog w = .ok (.agg #[.int .u64 x0, .slice x1 x1n x1c, .slice x2 x2n x2c]) w := fun _ => by kernel_rfl
theorem info_uint8 : (Tryz.prog.info? 5).map (fun i => (i.zero, i.size, i.bytes)) = some (some (.int .u8 0), 1, 1) := by kernel_rfl
theorem zub : (Tryz.prog.info? 47).map (fun i => (i.zero, i.size, i.bytes)) = some (some (.agg #[.string ByteArray.empty, .int .u64 0, .string ByteArray.empty]), 3, 40) := by kernel_rfl
theorem zus : (Tryz.prog.info? 50).map (fun i => (i.zero, i.size, i.bytes)) = some (some (.agg #[.string ByteArray.empty, .string ByteArray.empty, .slice none 0 0]), 3, 56) := by kernel_rfl
theorem zlr : (Tryz.prog.info? 52).map (fun i => (i.zero, i.size, i.bytes)) = some (some (.agg #[.bool false, .bool false, .bool false, .string ByteArray.empty, .int .u64 0, .string ByteArray.empty, .bool false, .string ByteArray.empty, .string ByteArray.empty, .slice none 0 0]), 10, 112) := by kernel_rfl
theorem zuc : (Tryz.prog.info? 53).map (fun i => (i.zero, i.size, i.bytes)) = some (some (.agg #[.string ByteArray.empty, .int .u64 0, .string ByteArray.empty]), 3, 40) := by kernel_rfl
theorem zpz : (Tryz.prog.info? 56).map (fun i => (i.zero, i.size, i.bytes)) = some (some (.agg #[.string ByteArray.empty, .string ByteArray.empty, .slice none 0 0]), 3, 56) := by kernel_rfl
theorem ziy : (Tryz.prog.info? 59).map (fun i => (i.zero, i.size, i.bytes)) = some (some (.agg #[.bool false, .bool false, .bool false, .string ByteArray.empty, .int .u64 0, .string ByteArray.empty, .bool false, .string ByteArray.empty, .string ByteArray.empty, .slice none 0 0]), 10, 112) := by kernel_rfl
theorem zkl : (Tryz.prog.info? 73).map (fun i => (i.zero, i.size, i.bytes)) = some (some (.agg #[.int .u64 0, .string ByteArray.empty, .string ByteArray.empty]), 3, 40) := by kernel_rfl
theorem zqa : (Tryz.prog.info? 90).map (fun i => (i.zero, i.size, i.bytes)) = some (some (.agg #[.int .u8 0, .string ByteArray.empty]), 2, 24) := by kernel_rfl
theorem info_sl_uint8 : (Tryz.prog.info? 107).map (fun i => (i.zero, i.size, i.bytes)) = some (some (.slice none 0 0), 1, 24) := by kernel_rfl
theorem zqb : (Tryz.prog.info? 116).map (fun i => (i.zero, i.size, i.bytes)) = some (some (.agg #[.slice none 0 0, .int .u64 0]), 2, 32) := by kernel_rfl
theorem zsn : (Tryz.prog.info? 121).map (fun i => (i.zero, i.size, i.bytes)) = some (some (.agg #[.slice none 0 0, .slice none 0 0, .slice none 0 0, .int .i8 0]), 4, 80) := by kernel_rfl
theorem zmt : (Tryz.prog.info? 161).map (fun i => (i.zero, i.size, i.bytes)) = some (some (.agg #[.string ByteArray.empty, .int .u64 0, .string ByteArray.empty, .bool false]), 4, 48) := by kernel_rfl
theorem znx : (Tryz.prog.info? 254).map (fun i => (i.zero, i.size, i.bytes)) = some (some (.agg #[.int .u64 0, .string ByteArray.empty, .string ByteArray.empty]), 3, 40) := by kernel_rfl
theorem ztk : (Tryz.prog.info? 261).map (fun i => (i.zero, i.size, i.bytes)) = some (some (.agg #[.int .u64 0, .slice none 0 0, .slice none 0 0]), 3, 56) := by kernel_rfl
theorem zkz : callOk Tryz.prog 10 = true := by kernel_rfl
theorem zpd : callOk Tryz.prog 11 = true := by kernel_rfl
theorem zud : callOk Tryz.prog 12 = true := by kernel_rfl
theorem zju : callOk Tryz.prog 13 = true := by kernel_rfl
theorem zop : callOk Tryz.prog 14 = true := by kernel_rfl
theorem zow : callOk Tryz.prog 15 = true := by kernel_rfl
theorem zso : callOk Tryz.prog 16 = true := by kernel_rfl
theorem zue : callOk Tryz.prog 17 = true := by kernel_rfl
theorem zuf : callOk Tryz.prog 18 = true := by kernel_rfl
theorem zqp : callOk Tryz.prog 19 = true := by kernel_rfl
theorem zsp : callOk Tryz.prog 20 = true := by kernel_rfl
theorem zsq : callOk Tryz.prog 21 = true := by kernel_rfl
theorem zsr : callOk Tryz.prog 22 = true := by kernel_rfl
theorem zut : callOk Tryz.prog 24 = true := by kernel_rfl
theorem zss : callOk Tryz.prog 25 = true := by kernel_rfl
theorem zuu : callOk Tryz.prog 31 = true := by kernel_rfl
theorem zrw : callOk Tryz.prog 32 = true := by kernel_rfl
theorem ztl : callOk Tryz.prog 34 = true := by kernel_rfl
theorem ztm : callOk Tryz.prog 41 = true := by kernel_rfl
theorem zrx : callOk Tryz.prog 43 = true := by kernel_rfl
theorem ztn : callOk Tryz.prog 46 = true := by kernel_rfl
theorem zug : callOk Tryz.prog 47 = true := by kernel_rfl
theorem zuh : callOk Tryz.prog 48 = true := by kernel_rfl
theorem zlz : callOk Tryz.prog 49 = true := by kernel_rfl
theorem zst : callOk Tryz.prog 50 = true := by kernel_rfl
theorem zoq : callOk Tryz.prog 51 = true := by kernel_rfl
theorem zto : callOk Tryz.prog 52 = true := by kernel_rfl
theorem zkh : callOk Tryz.prog 53 = true := by kernel_rfl
theorem zpe : callOk Tryz.prog 54 = true := by kernel_rfl
theorem zpm : callOk Tryz.prog 55 = true := by kernel_rfl
theorem zib : callOk Tryz.prog 56 = true := by kernel_rfl
theorem zhx : callOk Tryz.prog 57 = true := by kernel_rfl
theorem znh : callOk Tryz.prog 58 = true := by kernel_rfl
theorem zrf : callOk Tryz.prog 59 = true := by kernel_rfl
theorem zni : callOk Tryz.prog 60 = true := by kernel_rfl
theorem zuv : callOk Tryz.prog 61 = true := by kernel_rfl
theorem ok_spec_marks : callOk Tryz.prog 62 = true := by kernel_rfl
theorem zmg : callOk Tryz.prog 63 = true := by kernel_rfl
theorem zox : callOk Tryz.prog 64 = true := by kernel_rfl
theorem ztp : callOk Tryz.prog 65 = true := by kernel_rfl
theorem zuw : callOk Tryz.prog 66 = true := by kernel_rfl
theorem zma : callOk Tryz.prog 67 = true := by kernel_rfl
theorem zny : callOk Tryz.prog 68 = true := by kernel_rfl
theorem zqq : callOk Tryz.prog 71 = true := by kernel_rfl
theorem zsu : callOk Tryz.prog 73 = true := by kernel_rfl
theorem zui : callOk Tryz.prog 84 = true := by kernel_rfl
theorem zkr : callOk Tryz.prog 85 = true := by kernel_rfl
theorem zsv : callOk Tryz.prog 86 = true := by kernel_rfl
theorem znj : callOk Tryz.prog 87 = true := by kernel_rfl
theorem zuj : callOk Tryz.prog 88 = true := by kernel_rfl
theorem zla : callOk Tryz.prog 89 = true := by kernel_rfl
theorem zcd : callOk Tryz.prog 90 = true := by kernel_rfl
theorem zux : callOk Tryz.prog 91 = true := by kernel_rfl
theorem ok_impl_key : callOk Tryz.prog 98 = true := by kernel_rfl
theorem zqr : callOk Tryz.prog 99 = true := by kernel_rfl
theorem ok_impl_taken : callOk Tryz.prog 100 = true := by kernel_rfl
theorem zks : callOk Tryz.prog 101 = true := by kernel_rfl
theorem zlb : callOk Tryz.prog 102 = true := by kernel_rfl
theorem zlc : callOk Tryz.prog 103 = true := by kernel_rfl
theorem zld : callOk Tryz.prog 104 = true := by kernel_rfl
theorem zkm : callOk Tryz.prog 105 = true := by kernel_rfl
theorem zkn : callOk Tryz.prog 106 = true := by kernel_rfl
theorem ok_impl_entry : callOk Tryz.prog 107 = true := by kernel_rfl
theorem znp : callOk Tryz.prog 108 = true := by kernel_rfl
theorem zmb : callOk Tryz.prog 109 = true := by kernel_rfl
theorem zle : callOk Tryz.prog 110 = true := by kernel_rfl
theorem zsw : callOk Tryz.prog 111 = true := by kernel_rfl
theorem zuy : callOk Tryz.prog 112 = true := by kernel_rfl
theorem zci : callOk Tryz.prog 113 = true := by kernel_rfl
theorem zrp : callOk Tryz.prog 114 = true := by kernel_rfl
theorem ztq : callOk Tryz.prog 116 = true := by kernel_rfl
theorem zjk : callOk Tryz.prog 119 = true := by kernel_rfl
theorem zuk : callOk Tryz.prog 128 = true := by kernel_rfl
theorem zct : callOk Tryz.prog 132 = true := by kernel_rfl
theorem zef : callOk Tryz.prog 133 = true := by kernel_rfl
theorem zbi : callOk Tryz.prog 134 = true := by kernel_rfl
theorem zdf : callOk Tryz.prog 135 = true := by kernel_rfl
theorem zbn : callOk Tryz.prog 136 = true := by kernel_rfl
theorem zdn : callOk Tryz.prog 137 = true := by kernel_rfl
theorem zdj : callOk Tryz.prog 138 = true := by kernel_rfl
theorem zfu : callOk Tryz.prog 139 = true := by kernel_rfl
theorem zde : callOk Tryz.prog 140 = true := by kernel_rfl
theorem zds : callOk Tryz.prog 141 = true := by kernel_rfl
theorem zhj : callOk Tryz.prog 142 = true := by kernel_rfl
theorem zjc : callOk Tryz.prog 143 = true := by kernel_rfl
theorem zjd : callOk Tryz.prog 144 = true := by kernel_rfl
theorem zsx : callOk Tryz.prog 145 = true := by kernel_rfl
theorem zrg : callOk Tryz.prog 146 = true := by kernel_rfl
theorem ziz : callOk Tryz.prog 157 = true := by kernel_rfl
theorem zdh : callOk Tryz.prog 160 = true := by kernel_rfl
theorem zhc : callOk Tryz.prog 161 = true := by kernel_rfl
theorem zek : callOk Tryz.prog 162 = true := by kernel_rfl
theorem zgm : callOk Tryz.prog 163 = true := by kernel_rfl
theorem zja : callOk Tryz.prog 164 = true := by kernel_rfl
theorem zff : callOk Tryz.prog 165 = true := by kernel_rfl
theorem zeb : callOk Tryz.prog 185 = true := by kernel_rfl
theorem zjl : callOk Tryz.prog 186 = true := by kernel_rfl
theorem zry : callOk Tryz.prog 225 = true := by kernel_rfl
theorem zrz : callOk Tryz.prog 226 = true := by kernel_rfl
theorem zsy : callOk Tryz.prog 227 = true := by kernel_rfl
theorem zsz : callOk Tryz.prog 228 = true := by kernel_rfl
theorem zta : callOk Tryz.prog 230 = true := by kernel_rfl
theorem zrq : callOk Tryz.prog 231 = true := by kernel_rfl
theorem zrr : callOk Tryz.prog 232 = true := by kernel_rfl
theorem zfv : callOk Tryz.prog 235 = true := by kernel_rfl
theorem zfn : callOk Tryz.prog 236 = true := by kernel_rfl
theorem zic : callOk Tryz.prog 237 = true := by kernel_rfl
theorem zil : callOk Tryz.prog 238 = true := by kernel_rfl
theorem zjo : callOk Tryz.prog 239 = true := by kernel_rfl
theorem zjv : callOk Tryz.prog 240 = true := by kernel_rfl
theorem zls : callOk Tryz.prog 242 = true := by kernel_rfl
theorem zqc : callOk Tryz.prog 243 = true := by kernel_rfl
theorem zqs : callOk Tryz.prog 244 = true := by kernel_rfl
theorem zqt : callOk Tryz.prog 245 = true := by kernel_rfl
theorem zqu : callOk Tryz.prog 246 = true := by kernel_rfl
theorem zpn : callOk Tryz.prog 247 = true := by kernel_rfl
theorem zpo : callOk Tryz.prog 248 = true := by kernel_rfl
theorem zpp : callOk Tryz.prog 256 = true := by kernel_rfl
theorem zjw : callOk Tryz.prog 257 = true := by kernel_rfl
def mostB (L : List SpanD) (n : Int) : Bool := L.all (fun s => decide (s.ks.length ≤ 40)) && decide ((L.length : Int) ≤ n)
theorem zlf {α : Type} {p : α → Bool} {L : List α} {k : Nat} {x : α} (hx : L[k]? = some x) : (L.take (k + 1)).all p = ((L.take k).all p && p x) := by
  have hlt := (List.getElem?_eq_some_iff.1 hx).1
  rw [List.take_succ_eq_append_getElem hlt]
  have := (List.getElem?_eq_some_iff.1 hx).2
  simp [this]
theorem all_hit {α : Type} {p : α → Bool} {L : List α} {k : Nat} {x : α} (hx : L[k]? = some x) (h : p x = false) : L.all p = false :=
  List.all_eq_false.2 ⟨x, List.mem_of_getElem? hx, by simp [h]⟩
theorem ex_get {α : Type} {L : List α} {k : Nat} (h : k < L.length) : ∃ x, L[k]? = some x := ⟨L[k], List.getElem?_eq_getElem h⟩
abbrev MX : Nat := 2147483647
def fit7 (k : KeyD) : Bool := decide (k.suf.size ≤ MX) && decide (k.val.size ≤ MX)
def fit6 (l : List KeyD) : Bool := decide (l.length ≤ MX) && l.all fit7
def fit5 (s : SpanD) : Bool := decide (s.s.size ≤ MX) && decide (s.e.size ≤ MX) && fit6 s.ks
def fit4 (l : List SpanD) : Bool := decide (l.length ≤ MX) && l.all fit5
def fit9 (s : StepD) : Bool := decide (s.key.size ≤ MX)
def fit8 (l : List StepD) : Bool := decide (l.length ≤ MX) && l.all fit9
theorem zhy {n : Nat} (h : (2147483647 : Int) < (n : Int)) : decide (n ≤ MX) = false := by simp [MX]; omega
theorem zhz {n : Nat} (h : ¬ (2147483647 : Int) < (n : Int)) : decide (n ≤ MX) = true := by simp [MX]; omega
theorem c_spanMost (χ : Chi) (h : Heap) (A : Nat → Prop) (v : Value) (L : List SpanD) (n : Int) (hL : RSpans A h v L) :
    Cl Tryz.prog χ 51 #[v, .int .i64 n] h (fun r h' => r = .bool (mostB L n) ∧ Keep [] h h') := by
  obtain ⟨hlen, a, c, rfl, hx⟩ := hL.form
  refine zah Tryz.func51 rfl rfl rfl ?_
  have K : Keep [] h h := Keep.refl _ _
  refine rG <| rA rfl rfl <| rN <| tr_seq <| rG <| rM rfl rfl <| rs_v (v_len u_sl_spec_Span rfl) rfl ?_
  refine rM rfl rfl <| rN <| zal ?_
  refine zdd (fun m E h' => ∃ k, k ≤ L.length ∧ m = L.length - k ∧ E = [(0, .slice a L.length c), (1, .int .i64 n), (7, .slice a L.length c), (8, .int .i64 (L.length : Int)), (9, .int .i64 (k : Int))] ∧ Keep [] h h' ∧ (L.take k).all (fun s => decide (s.ks.length ≤ 40)) = true) L.length [(0, _), (1, _), (7, _), (8, _), (9, _)] ⟨rfl, rfl, rfl, rfl, rfl, trivial⟩ ⟨0, Nat.zero_le _, rfl, rfl, K, rfl⟩ ?_
  rintro m E hL1 ⟨k, hk, rfl, rfl, K, hall⟩
  refine rG <| rs_v (v_lt rfl rfl) rfl <| rN <| tr_seq ?_
  refine tr_ifn rfl (fun hif => ?_) (fun hif => ?_)
  · -- no
    simp only [dT, dF] at hif
    have hkk : k = L.length := by omega
    subst hkk
    refine zda <| zcb <| zcq <| zcf <| q_thn <| rG <| rM rfl rfl <| rs_v (v_len u_sl_spec_Span rfl) rfl ?_
    refine rM rfl rfl <| rs_v (v_le rfl rfl) rfl ?_
    refine rA rfl rfl <| rN <| tr_ret <| q_ret (zap rfl rfl) ?_
    refine ⟨?_, K⟩
    rw [List.take_length] at hall
    simp only [mostB, hall, Bool.true_and]
  -- yes
  simp only [dT, dF] at hif
  rcases hx with rfl | ⟨b, o, rfl, hAb, hR⟩
  · simp at hif; omega
  obtain ⟨x, hxk⟩ := ex_get (L := L) (k := k) (by omega)
  obtain ⟨kv, hcells, hkeys⟩ := hR k x hxk
  obtain ⟨hkl, ka, kc, rfl, hkx⟩ := hkeys.form
  have hcells := K.cells (by simp) hcells
  refine zai <| q_thn <| tr_seq <| zal <| rG <| rs_v (zbv u_sl_spec_Span zck rfl rfl (by omega)) rfl ?_
  refine rs_v (zay (vs := [_, _, _]) zcy rfl (by exact hcells)) rfl ?_
  refine rs_w (w_new zeh) rfl ?_
  rintro _ h2 ⟨rfl, B2, K2, Z2⟩
  have S2 := K.1; have K := K.new0 K2
  refine rs_w0 (w_put zck rfl rfl rfl rfl B2 rfl) ?_
  rintro _ h3 ⟨B3, K3⟩
  have B2 := B3; have K := K.new1 K3 (by first | (right; omega) | (left; simp; done)); have Z3 := K3.1
  refine rN <| rG <| rF zew rfl rfl <| rs_v (v_load zed rfl (by exact B2.cell _ rfl)) rfl ?_
  refine rs_v (v_len zbq rfl) rfl ?_
  refine rs_v (v_gt rfl rfl) rfl ?_
  refine rN ?_
  refine tr_if rfl (fun hif => ?_) (fun hif => ?_)
  · -- yes
    simp only [dT, dF] at hif
    refine rG <| rA rfl rfl <| rN <| tr_ret <| zbs <| zaw ?_
    refine zgd ?_
    refine zbs <| zaw <| q_ret (zap rfl rfl) ?_
    refine ⟨?_, K⟩
    simp only [mostB, all_hit (p := fun s : SpanD => decide (s.ks.length ≤ 40)) hxk (by simp; omega), Bool.false_and]
  -- no
  simp only [dT, dF] at hif
  refine zai <| zbc <| q_thn <| tr_reg <| rs_v (v_add rfl rfl (by omega) (by omega)) rfl ?_
  refine rM rfl rfl <| rs_nil ?_
  refine q_lp (L.length - (k + 1)) [(0, _), (1, _), (7, _), (8, _), (9, _)] (by omega) ⟨rfl, rfl, rfl, rfl, rfl, trivial⟩ ⟨k + 1, by omega, rfl, rfl, K, ?_⟩
  rw [zlf hxk, hall]
  simp
  omega
theorem c_zzFits7 (χ : Chi) (h : Heap) (k : KeyD) :
    Cl Tryz.prog χ 128 #[.agg k.cells.toArray] h (fun r h' => r = .bool (fit7 k) ∧ Keep [] h h') := by
  refine zah Tryz.func128 rfl rfl rfl ?_
  have K : Keep [] h h := Keep.refl _ _
  refine rG <| rs_w (zbw rfl) rfl ?_
  rintro _ h1 ⟨rfl, B1, K1, Z1⟩
  have S1 := K.1; have K := K.new0 K1
  refine rA rfl rfl <| rN <| tr_seq <| rG <| rF zhm rfl rfl <| rs_v (v_load zbp rfl (by exact B1.cell _ rfl)) rfl ?_
  refine rs_v (zkw zdl rfl) rfl ?_
  refine rs_v (v_gt rfl rfl) rfl ?_
  refine rN ?_
  refine tr_if rfl (fun hif => ?_) (fun hif => ?_)
  · -- yes
    simp only [dT, dF] at hif
    refine rG <| rA rfl rfl <| rN <| tr_ret <| zaw <| q_ret (zap rfl rfl) ?_
    exact ⟨by simp only [fit7, zhy hif, Bool.false_and], K⟩
  -- no
  simp only [dT, dF] at hif
  have f1 := hif; clear hif
  refine zai <| q_thn <| tr_seq <| rG <| rF zki rfl rfl <| rs_v (v_load zbp rfl (by exact B1.cell _ rfl)) rfl ?_
  refine rs_v (zkw zdl rfl) rfl ?_
  refine rs_v (v_gt rfl rfl) rfl ?_
  refine rN ?_
  refine tr_if rfl (fun hif => ?_) (fun hif => ?_)
  · -- yes
    simp only [dT, dF] at hif
    refine rG <| rA rfl rfl <| rN <| tr_ret <| zaw <| q_ret (zap rfl rfl) ?_
    exact ⟨by simp only [fit7, zhy hif, Bool.and_false], K⟩
  -- no
  simp only [dT, dF] at hif
  refine zai <| q_thn <| rG <| rA rfl rfl <| rN <| tr_ret <| q_ret (zap rfl rfl) ?_
  exact ⟨by simp only [fit7, zhz f1, zhz hif]; rfl, K⟩
theorem c_zzFits6 (χ : Chi) (h : Heap) (A : Nat → Prop) (v : Value) (L : List KeyD) (hL : RKeys A h v L) :
    Cl Tryz.prog χ 88 #[v] h (fun r h' => r = .bool (fit6 L) ∧ Keep [] h h') := by
  obtain ⟨hlen, a, c, rfl, hx⟩ := hL.form
  refine zah Tryz.func88 rfl rfl rfl ?_
  have K : Keep [] h h := Keep.refl _ _
  refine rG <| rA rfl rfl <| rN <| tr_seq <| rG <| rM rfl rfl <| rs_v (v_len zbq rfl) rfl ?_
  refine rs_v (v_gt rfl rfl) rfl ?_
  refine rN ?_
  refine tr_if rfl (fun hif => ?_) (fun hif => ?_)
  · -- yes
    simp only [dT, dF] at hif
    refine rG <| rA rfl rfl <| rN <| tr_ret <| zaw <| q_ret (zap rfl rfl) ?_
    refine ⟨?_, K⟩
    simp only [fit6, zhy hif, Bool.false_and]
  -- no
  simp only [dT, dF] at hif
  have hmx := zhz hif
  clear hif
  refine zai <| q_thn <| tr_seq <| rG <| rM rfl rfl <| rs_v (v_len zbq rfl) rfl ?_
  refine rM rfl rfl <| rN <| zal ?_
  refine zdd (fun m E h' => ∃ k, k ≤ L.length ∧ m = L.length - k ∧ E = [(0, .slice a L.length c), (8, .slice a L.length c), (9, .int .i64 (L.length : Int)), (10, .int .i64 (k : Int))] ∧ Keep [] h h' ∧ (L.take k).all fit7 = true) L.length [(0, _), (8, _), (9, _), (10, _)] ⟨rfl, rfl, rfl, rfl, trivial⟩ ⟨0, Nat.zero_le _, rfl, rfl, K, rfl⟩ ?_
  rintro m E hL1 ⟨k, hk, rfl, rfl, K, hall⟩
  refine rG <| rs_v (v_lt rfl rfl) rfl <| rN <| tr_seq ?_
  refine tr_ifn rfl (fun hif => ?_) (fun hif => ?_)
  · -- no
    simp only [dT, dF] at hif
    have hkk : k = L.length := by omega
    subst hkk
    refine zda <| zcb <| zcq <| zcf <| q_thn <| rG <| rA rfl rfl <| rN <| tr_ret <| q_ret (zap rfl rfl) ?_
    refine ⟨?_, K⟩
    rw [List.take_length] at hall
    simp only [fit6, hall, hmx, Bool.true_and]
  -- yes
  simp only [dT, dF] at hif
  rcases hx with rfl | ⟨b, o, rfl, hAb, hR⟩
  · simp at hif; omega
  obtain ⟨x, hxk⟩ := ex_get (L := L) (k := k) (by omega)
  have hcells := K.cells (by simp) (hR k x hxk)
  refine zai <| q_thn <| tr_seq <| zal <| rG <| rs_v (zbv zbq zcp rfl rfl (by omega)) rfl ?_
  refine rs_v (zay (vs := [_, _, _]) zdv rfl (by exact hcells)) rfl ?_
  refine rs_w (w_new zfy) rfl ?_
  rintro _ h2 ⟨rfl, B2, K2, Z2⟩
  have S2 := K.1; have K := K.new0 K2
  refine rs_w0 (w_put zcp rfl rfl rfl rfl B2 rfl) ?_
  rintro _ h3 ⟨B3, K3⟩
  have B2 := B3; have K := K.new1 K3 (by first | (right; omega) | (left; simp; done)); have Z3 := K3.1
  refine rN <| rG <| rs_v (zay (vs := [_, _, _]) zdv rfl (by exact B2.sub _ 3 rfl)) rfl ?_
  refine rs_w (w_call (vs := [_]) zuk rfl ⟨rfl, trivial⟩ (c_zzFits7 χ _ x)) rfl ?_
  rintro _ h4 ⟨rfl, K4⟩
  have B2 := K4.blk (by simp) B2
  have K := K.new0 K4; have Z4 := K4.1
  refine rs_v (v_not rfl) rfl <| rN ?_
  refine tr_if rfl (fun hif => ?_) (fun hif => ?_)
  · -- yes
    simp only [Bool.not_eq_true'] at hif
    refine rG <| rA rfl rfl <| rN <| tr_ret <| zbs <| zaw ?_
    refine zgd ?_
    refine zbs <| zaw <| q_ret (zap rfl rfl) ?_
    refine ⟨?_, K⟩
    simp only [fit6, all_hit hxk hif, Bool.and_false]
  -- no
  simp only [Bool.not_eq_false'] at hif
  refine zai <| zbc <| q_thn <| tr_reg <| rs_v (v_add rfl rfl (by omega) (by omega)) rfl ?_
  refine rM rfl rfl <| rs_nil ?_
  refine q_lp (L.length - (k + 1)) [(0, _), (8, _), (9, _), (10, _)] (by omega) ⟨rfl, rfl, rfl, rfl, trivial⟩ ⟨k + 1, by omega, rfl, rfl, K, ?_⟩
  rw [zlf hxk, hall, hif]
  rfl
theorem c_zzFits5 (χ : Chi) (h : Heap) (A : Nat → Prop) (kv : Value) (s : SpanD) (hA : ∀ b, A b → b < h.size) (hk : RKeys A h kv s.ks) :
    Cl Tryz.prog χ 47 #[.agg #[.string s.s, .string s.e, kv]] h (fun r h' => r = .bool (fit5 s) ∧ Keep [] h h') := by
  refine zah Tryz.func47 rfl rfl rfl ?_
  have K : Keep [] h h := Keep.refl _ _
  refine rG <| rs_w (zbw rfl) rfl ?_
  rintro _ h1 ⟨rfl, B1, K1, Z1⟩
  have S1 := K.1; have K := K.new0 K1
  refine rA rfl rfl <| rN <| tr_seq <| rG <| rF zeu rfl rfl <| rs_v (v_load zbp rfl (by exact B1.cell _ rfl)) rfl ?_
  refine rs_v (zkw zdl rfl) rfl ?_
  refine rs_v (v_gt rfl rfl) rfl ?_
  refine rN ?_
  refine tr_if rfl (fun hif => ?_) (fun hif => ?_)
  · -- yes
    simp only [dT, dF] at hif
    refine rG <| rA rfl rfl <| rN <| tr_ret <| zaw <| q_ret (zap rfl rfl) ?_
    exact ⟨by simp only [fit5, zhy hif, Bool.false_and], K⟩
  -- no
  simp only [dT, dF] at hif
  have f1 := zhz hif; clear hif
  refine zai <| q_thn <| tr_seq <| rG <| rF zfg rfl rfl <| rs_v (v_load zbp rfl (by exact B1.cell _ rfl)) rfl ?_
  refine rs_v (zkw zdl rfl) rfl ?_
  refine rs_v (v_gt rfl rfl) rfl ?_
  refine rN ?_
  refine tr_if rfl (fun hif => ?_) (fun hif => ?_)
  · -- yes
    simp only [dT, dF] at hif
    refine rG <| rA rfl rfl <| rN <| tr_ret <| zaw <| q_ret (zap rfl rfl) ?_
    exact ⟨by simp only [fit5, zhy hif, Bool.and_false, Bool.false_and], K⟩
  -- no
  simp only [dT, dF] at hif
  have f2 := zhz hif; clear hif
  refine zai <| q_thn <| tr_seq <| rG <| rF zew rfl rfl <| rs_v (v_load zed rfl (by exact B1.cell _ rfl)) rfl ?_
  refine rs_w (w_call (vs := [_]) zuj rfl ⟨rfl, trivial⟩ (c_zzFits6 χ _ A kv s.ks (hk.stab (K.stab fun b hb => ⟨hA b hb, by simp⟩)))) rfl ?_
  rintro _ h2 ⟨rfl, K2⟩
  have B1 := K2.blk (by simp) B1
  have K := K.new0 K2; have Z2 := K2.1
  refine rs_v (v_not rfl) rfl <| rN ?_
  refine tr_if rfl (fun hif => ?_) (fun hif => ?_)
  · -- yes
    simp only [Bool.not_eq_true'] at hif
    refine rG <| rA rfl rfl <| rN <| tr_ret <| zaw <| q_ret (zap rfl rfl) ?_
    exact ⟨by simp only [fit5, hif, Bool.and_false], K⟩
  -- no
  simp only [Bool.not_eq_false'] at hif
  refine zai <| q_thn <| rG <| rA rfl rfl <| rN <| tr_ret <| q_ret (zap rfl rfl) ?_
  exact ⟨by simp only [fit5, f1, f2, hif]; rfl, K⟩
theorem c_zzFits4 (χ : Chi) (h : Heap) (A : Nat → Prop) (hA : ∀ b, A b → b < h.size) (v : Value) (L : List SpanD) (hL : RSpans A h v L) :
    Cl Tryz.prog χ 11 #[v] h (fun r h' => r = .bool (fit4 L) ∧ Keep [] h h') := by
  obtain ⟨hlen, a, c, rfl, hx⟩ := hL.form
  refine zah Tryz.func11 rfl rfl rfl ?_
  have K : Keep [] h h := Keep.refl _ _
  refine rG <| rA rfl rfl <| rN <| tr_seq <| rG <| rM rfl rfl <| rs_v (v_len u_sl_spec_Span rfl) rfl ?_
  refine rs_v (v_gt rfl rfl) rfl ?_
  refine rN ?_
  refine tr_if rfl (fun hif => ?_) (fun hif => ?_)
  · -- yes
    simp only [dT, dF] at hif
    refine rG <| rA rfl rfl <| rN <| tr_ret <| zaw <| q_ret (zap rfl rfl) ?_
    refine ⟨?_, K⟩
    simp only [fit4, zhy hif, Bool.false_and]
  -- no
  simp only [dT, dF] at hif
  have hmx := zhz hif
  clear hif
  refine zai <| q_thn <| tr_seq <| rG <| rM rfl rfl <| rs_v (v_len u_sl_spec_Span rfl) rfl ?_
  refine rM rfl rfl <| rN <| zal ?_
  refine zdd (fun m E h' => ∃ k, k ≤ L.length ∧ m = L.length - k ∧ E = [(0, .slice a L.length c), (8, .slice a L.length c), (9, .int .i64 (L.length : Int)), (10, .int .i64 (k : Int))] ∧ Keep [] h h' ∧ (L.take k).all fit5 = true) L.length [(0, _), (8, _), (9, _), (10, _)] ⟨rfl, rfl, rfl, rfl, trivial⟩ ⟨0, Nat.zero_le _, rfl, rfl, K, rfl⟩ ?_
  rintro m E hL1 ⟨k, hk, rfl, rfl, K, hall⟩
  refine rG <| rs_v (v_lt rfl rfl) rfl <| rN <| tr_seq ?_
  refine tr_ifn rfl (fun hif => ?_) (fun hif => ?_)
  · -- no
    simp only [dT, dF] at hif
    have hkk : k = L.length := by omega
    subst hkk
    refine zda <| zcb <| zcq <| zcf <| q_thn <| rG <| rA rfl rfl <| rN <| tr_ret <| q_ret (zap rfl rfl) ?_
    refine ⟨?_, K⟩
    rw [List.take_length] at hall
    simp only [fit4, hall, hmx, Bool.true_and]
  -- yes
  simp only [dT, dF] at hif
  rcases hx with rfl | ⟨b, o, rfl, hAb, hR⟩
  · simp at hif; omega
  obtain ⟨x, hxk⟩ := ex_get (L := L) (k := k) (by omega)
  obtain ⟨kv, hcells, hkeys⟩ := hR k x hxk
  obtain ⟨ka, kc, hkv⟩ := hkeys.form2
  subst hkv
  have hcells := K.cells (by simp) hcells
  refine zai <| q_thn <| tr_seq <| zal <| rG <| rs_v (zbv u_sl_spec_Span zck rfl rfl (by omega)) rfl ?_
  refine rs_v (zay (vs := [_, _, _]) zcy rfl (by exact hcells)) rfl ?_
  refine rs_w (w_new zeh) rfl ?_
  rintro _ h2 ⟨rfl, B2, K2, Z2⟩
  have S2 := K.1; have K := K.new0 K2
  refine rs_w0 (w_put zck rfl rfl rfl rfl B2 rfl) ?_
  rintro _ h3 ⟨B3, K3⟩
  have B2 := B3; have K := K.new1 K3 (by first | (right; omega) | (left; simp; done)); have Z3 := K3.1
  refine rN <| rG <| rs_v (zay (vs := [_, _, _]) zcy rfl (by exact B2.sub _ 3 rfl)) rfl ?_
  refine rs_w (w_call (vs := [_]) zug rfl ⟨rfl, trivial⟩ (c_zzFits5 χ _ A _ x (fun b hb => by have := hA b hb; have := K.1; omega) (hkeys.stab (K.stab fun b hb => ⟨hA b hb, by simp⟩)))) rfl ?_
  rintro _ h4 ⟨rfl, K4⟩
  have B2 := K4.blk (by simp) B2
  have K := K.new0 K4; have Z4 := K4.1
  refine rs_v (v_not rfl) rfl <| rN ?_
  refine tr_if rfl (fun hif => ?_) (fun hif => ?_)
  · -- yes
    simp only [Bool.not_eq_true'] at hif
    refine rG <| rA rfl rfl <| rN <| tr_ret <| zbs <| zaw ?_
    refine zgd ?_
    refine zbs <| zaw <| q_ret (zap rfl rfl) ?_
    refine ⟨?_, K⟩
    simp only [fit4, all_hit hxk hif, Bool.and_false]
  -- no
  simp only [Bool.not_eq_false'] at hif
  refine zai <| zbc <| q_thn <| tr_reg <| rs_v (v_add rfl rfl (by omega) (by omega)) rfl ?_
  refine rM rfl rfl <| rs_nil ?_
  refine q_lp (L.length - (k + 1)) [(0, _), (8, _), (9, _), (10, _)] (by omega) ⟨rfl, rfl, rfl, rfl, trivial⟩ ⟨k + 1, by omega, rfl, rfl, K, ?_⟩
  rw [zlf hxk, hall, hif]
  rfl
theorem c_zzFits9 (χ : Chi) (h : Heap) (k : StepD) :
    Cl Tryz.prog χ 48 #[.agg k.cells.toArray] h (fun r h' => r = .bool (fit9 k) ∧ Keep [] h h') := by
  refine zah Tryz.func48 rfl rfl rfl ?_
  have K : Keep [] h h := Keep.refl _ _
  refine rG <| rs_w (zbw rfl) rfl ?_
  rintro _ h1 ⟨rfl, B1, K1, Z1⟩
  have S1 := K.1; have K := K.new0 K1
  refine rA rfl rfl <| rN <| tr_seq <| rG <| rF zis rfl rfl <| rs_v (v_load zbp rfl (by exact B1.cell _ rfl)) rfl ?_
  refine rs_v (zkw zdl rfl) rfl ?_
  refine rs_v (v_gt rfl rfl) rfl ?_
  refine rN ?_
  refine tr_if rfl (fun hif => ?_) (fun hif => ?_)
  · -- yes
    simp only [dT, dF] at hif
    refine rG <| rA rfl rfl <| rN <| tr_ret <| zaw <| q_ret (zap rfl rfl) ?_
    exact ⟨by simp only [fit9, zhy hif], K⟩
  -- no
  simp only [dT, dF] at hif
  refine zai <| q_thn <| rG <| rA rfl rfl <| rN <| tr_ret <| q_ret (zap rfl rfl) ?_
  exact ⟨by simp only [fit9, zhz hif], K⟩
theorem c_zzFits8 (χ : Chi) (h : Heap) (A : Nat → Prop) (v : Value) (L : List StepD) (hL : RSteps A h v L) :
    Cl Tryz.prog χ 12 #[v] h (fun r h' => r = .bool (fit8 L) ∧ Keep [] h h') := by
  obtain ⟨hlen, a, c, rfl, hx⟩ := hL.form
  refine zah Tryz.func12 rfl rfl rfl ?_
  have K : Keep [] h h := Keep.refl _ _
  refine rG <| rA rfl rfl <| rN <| tr_seq <| rG <| rM rfl rfl <| rs_v (v_len u_sl_spec_Step rfl) rfl ?_
  refine rs_v (v_gt rfl rfl) rfl ?_
  refine rN ?_
  refine tr_if rfl (fun hif => ?_) (fun hif => ?_)
  · -- yes
    simp only [dT, dF] at hif
    refine rG <| rA rfl rfl <| rN <| tr_ret <| zaw <| q_ret (zap rfl rfl) ?_
    refine ⟨?_, K⟩
    simp only [fit8, zhy hif, Bool.false_and]
  -- no
  simp only [dT, dF] at hif
  have hmx := zhz hif
  clear hif
  refine zai <| q_thn <| tr_seq <| rG <| rM rfl rfl <| rs_v (v_len u_sl_spec_Step rfl) rfl ?_
  refine rM rfl rfl <| rN <| zal ?_
  refine zdd (fun m E h' => ∃ k, k ≤ L.length ∧ m = L.length - k ∧ E = [(0, .slice a L.length c), (8, .slice a L.length c), (9, .int .i64 (L.length : Int)), (10, .int .i64 (k : Int))] ∧ Keep [] h h' ∧ (L.take k).all fit9 = true) L.length [(0, _), (8, _), (9, _), (10, _)] ⟨rfl, rfl, rfl, rfl, trivial⟩ ⟨0, Nat.zero_le _, rfl, rfl, K, rfl⟩ ?_
  rintro m E hL1 ⟨k, hk, rfl, rfl, K, hall⟩
  refine rG <| rs_v (v_lt rfl rfl) rfl <| rN <| tr_seq ?_
  refine tr_ifn rfl (fun hif => ?_) (fun hif => ?_)
  · -- no
    simp only [dT, dF] at hif
    have hkk : k = L.length := by omega
    subst hkk
    refine zda <| zcb <| zcq <| zcf <| q_thn <| rG <| rA rfl rfl <| rN <| tr_ret <| q_ret (zap rfl rfl) ?_
    refine ⟨?_, K⟩
    rw [List.take_length] at hall
    simp only [fit8, hall, hmx, Bool.true_and]
  -- yes
  simp only [dT, dF] at hif
  rcases hx with rfl | ⟨b, o, rfl, hAb, hR⟩
  · simp at hif; omega
  obtain ⟨x, hxk⟩ := ex_get (L := L) (k := k) (by omega)
  have hcells := K.cells (by simp) (hR k x hxk)
  refine zai <| q_thn <| tr_seq <| zal <| rG <| rs_v (zbv u_sl_spec_Step zid rfl rfl (by omega)) rfl ?_
  refine rs_v (zay (vs := [_, _]) ziv rfl (by exact hcells)) rfl ?_
  refine rs_w (w_new zmq) rfl ?_
  rintro _ h2 ⟨rfl, B2, K2, Z2⟩
  have S2 := K.1; have K := K.new0 K2
  refine rs_w0 (w_put zid rfl rfl rfl rfl B2 rfl) ?_
  rintro _ h3 ⟨B3, K3⟩
  have B2 := B3; have K := K.new1 K3 (by first | (right; omega) | (left; simp; done)); have Z3 := K3.1
  refine rN <| rG <| rs_v (zay (vs := [_, _]) ziv rfl (by exact B2.sub _ 2 rfl)) rfl ?_
  refine rs_w (w_call (vs := [_]) zuh rfl ⟨rfl, trivial⟩ (c_zzFits9 χ _ x)) rfl ?_
  rintro _ h4 ⟨rfl, K4⟩
  have B2 := K4.blk (by simp) B2
  have K := K.new0 K4; have Z4 := K4.1
  refine rs_v (v_not rfl) rfl <| rN ?_
  refine tr_if rfl (fun hif => ?_) (fun hif => ?_)
  · -- yes
    simp only [Bool.not_eq_true'] at hif
    refine rG <| rA rfl rfl <| rN <| tr_ret <| zbs <| zaw ?_
    refine zgd ?_
    refine zbs <| zaw <| q_ret (zap rfl rfl) ?_
    refine ⟨?_, K⟩
    simp only [fit8, all_hit hxk hif, Bool.and_false]
  -- no
  simp only [Bool.not_eq_false'] at hif
  refine zai <| zbc <| q_thn <| tr_reg <| rs_v (v_add rfl rfl (by omega) (by omega)) rfl ?_
  refine rM rfl rfl <| rs_nil ?_
  refine q_lp (L.length - (k + 1)) [(0, _), (8, _), (9, _), (10, _)] (by omega) ⟨rfl, rfl, rfl, rfl, trivial⟩ ⟨k + 1, by omega, rfl, rfl, K, ?_⟩
  rw [zlf hxk, hall, hif]
  rfl
def chainB {α : Type} (r : α → α → Bool) : List α → Bool
  | a :: b :: l => r a b && chainB r (b :: l)
  | _ => true
theorem zhp {α : Type} (r : α → α → Bool) : ∀ l : List α, chainB r l = true ↔ ∀ (i : Nat) a b, l[i]? = some a → l[i + 1]? = some b → r a b = true
  | [] => by simp [chainB]
  | [a] => by simp [chainB]
  | a :: b :: l => by
    simp only [chainB, Bool.and_eq_true, zhp r (b :: l)]
    constructor
    · rintro ⟨h1, h2⟩ i x y hx hy
      cases i with
      | zero => simp at hx hy; subst hx; subst hy; exact h1
      | succ i => exact h2 i x y (by simpa using hx) (by simpa using hy)
    · intro h
      exact ⟨h 0 a b rfl rfl, fun i x y hx hy => h (i + 1) x y (by simpa using hx) (by simpa using hy)⟩
theorem chainB_hit {α : Type} {r : α → α → Bool} {l : List α} {i : Nat} {a b : α} (ha : l[i]? = some a) (hb : l[i + 1]? = some b) (h : r a b = false) : chainB r l = false := by
  cases hc : chainB r l with
  | false => rfl
  | true => rw [(zhp r l).1 hc i a b ha hb] at h; cases h
def descB (ks : List KeyD) : Bool := chainB (fun a b : KeyD => decide (b.tr ≤ a.tr)) ks
def fullB (s : SpanD) : Bool := slt s.s s.e && (decide ((0 : Int) < (s.ks.length : Int)) && descB s.ks)
def wellB (L : List SpanD) : Bool := L.all fullB && chainB (fun a b : SpanD => sle a.e b.s) L
theorem zor (χ : Chi) (h : Heap) (A : Nat → Prop) (v : Value) (ks : List KeyD) (hk : RKeys A h v ks) :
    Cl Tryz.prog χ 85 #[v] h (fun r h' => r = .bool (descB ks) ∧ h' = h) := by
  obtain ⟨hlen, a, c, rfl, hx⟩ := hk.form
  refine zah Tryz.func85 rfl rfl rfl ?_
  have K : Keep [] h h := Keep.refl _ _
  refine rG <| rA rfl rfl <| rN <| tr_seq <| rG <| rA rfl rfl <| rN <| zal ?_
  refine zdd (fun m E h' => ∃ k, m = ks.length - k ∧ E = [(0, .slice a ks.length c), (3, .int .i64 ((k + 1 : Nat) : Int))] ∧ h' = h ∧ (k = 0 ∨ k + 1 ≤ ks.length) ∧ ∀ (i : Nat) x y, i < k → ks[i]? = some x → ks[i + 1]? = some y → decide (y.tr ≤ x.tr) = true) ks.length [(0, _), (3, _)] ⟨rfl, rfl, trivial⟩ ⟨0, rfl, rfl, rfl, .inl rfl, fun i _ _ hi => by omega⟩ ?_
  rintro m E hL1 ⟨k, rfl, rfl, rfl, hk1, hall⟩
  refine tr_seq <| rG <| rM rfl rfl <| rM rfl rfl <| rs_v (v_len zbq rfl) rfl ?_
  refine rs_v (v_lt rfl rfl) rfl <| rN ?_
  refine tr_ifn rfl (fun hif => ?_) (fun hif => ?_)
  · -- no
    simp only [dT, dF] at hif
    refine zda <| zcb <| zcq <| zcf <| q_thn <| rG <| rA rfl rfl <| rN <| tr_ret <| q_ret (zap rfl rfl) ?_
    refine ⟨?_, rfl⟩
    have : descB ks = true := (zhp _ ks).2 fun i x y hx hy => by
      have hlt := (List.getElem?_eq_some_iff.1 hy).1
      exact hall i x y (by omega) hx hy
    rw [this]
  -- yes
  simp only [dT, dF] at hif
  rcases hx with rfl | ⟨b, o, rfl, hAb, hR⟩
  · simp at hif; omega
  obtain ⟨x, hxk⟩ := ex_get (L := ks) (k := k) (by omega)
  obtain ⟨y, hyk⟩ := ex_get (L := ks) (k := k + 1) (by omega)
  refine zai <| q_thn <| tr_seq <| zal <| tr_seq ?_
  refine zbb (by kernel_rfl) (by kernel_rfl) ?_
  refine rq_v (v_move rfl) <| rq_v (v_move rfl) <| rq_v (v_sub rfl rfl (by omega) (by omega)) ?_
  refine rq_v (zcn (i := k) zbq zcp rfl rfl (by omega) (by omega)) ?_
  refine rq_v (zac zfx rfl) <| rq_v (v_load zen rfl (by exact (hR k x hxk).at 0 rfl)) ?_
  refine rq_v (v_move rfl) <| rq_v (v_move rfl) <| rq_v (zbv zbq zcp rfl rfl (by omega)) ?_
  refine rq_v (zac zfx rfl) <| rq_v (v_load zen rfl (by exact (hR (k + 1) y hyk).at 0 rfl)) ?_
  refine rq_v (v_lt rfl rfl) ?_
  refine rm_end ?_; simp only [endM, hypF, ofE, argE]
  refine q_thn ?_
  refine tr_if rfl (fun hif => ?_) (fun hif => ?_)
  · -- yes
    simp only [dT, dF] at hif
    refine rG <| rA rfl rfl <| rN <| tr_ret <| zbs <| zaw ?_
    refine zgd ?_
    refine zbs <| zaw <| q_ret (zap rfl rfl) ?_
    exact ⟨by rw [show descB ks = false from chainB_hit hxk hyk (by simpa using hif)], rfl⟩
  -- no
  simp only [dT, dF] at hif
  have hno := hif
  refine zai <| zbc <| q_thn <| tr_reg <| rM rfl rfl <| rs_v (v_add rfl rfl (by omega) (by omega)) rfl ?_
  refine rA rfl rfl <| rs_nil ?_
  refine q_lp (ks.length - (k + 1)) [(0, _), (3, _)] (by omega) ⟨rfl, rfl, trivial⟩ ⟨k + 1, rfl, rfl, rfl, .inr (by omega), fun i x' y' hi hx' hy' => ?_⟩
  rcases Nat.lt_or_ge i k with hlt | hge
  · exact hall i x' y' hlt hx' hy'
  · have : i = k := by omega
    subst this
    rw [hxk] at hx'; rw [hyk] at hy'; cases hx'; cases hy'
    simpa using hno
theorem c_SpanFull_a (χ : Chi) (h : Heap) (A : Nat → Prop) (kv : Value) (s : SpanD) (hA : ∀ b, A b → b < h.size) (hk : RKeys A h kv s.ks) (hs : slt s.s s.e = false) :
    Cl Tryz.prog χ 89 #[.agg #[.string s.s, .string s.e, kv]] h (fun r h' => r = .bool (fullB s) ∧ Keep [] h h') := by
  obtain ⟨ka, kc, rfl⟩ := hk.form2
  refine zah Tryz.func89 rfl rfl rfl ?_
  have K : Keep [] h h := Keep.refl _ _
  refine rG <| rs_w (zbw rfl) rfl ?_
  rintro _ h1 ⟨rfl, B1, K1, Z1⟩
  have S1 := K.1; have K := K.new0 K1
  refine rA rfl rfl <| rN <| rG <| rF zeu rfl rfl <| rs_v (v_load zbp rfl (by exact B1.cell _ rfl)) rfl ?_
  refine rF zfg rfl rfl <| rs_v (v_load zbp rfl (by exact B1.cell _ rfl)) rfl ?_
  refine rs_v (v_slt rfl rfl) rfl ?_
  refine rM rfl rfl ?_
  refine rs_gs rfl (lkb hs) rfl rfl ?_
  refine rs_gs rfl (lkb hs) rfl rfl ?_
  refine rs_gs rfl (lkb hs) rfl rfl ?_
  refine rs_gs rfl (lkb hs) rfl rfl ?_
  refine rs_v (zar (lkb hs) rfl) rfl ?_
  refine rM rfl rfl <| rs_gs rfl rfl rfl rfl <| rs_gs rfl rfl rfl rfl <| rs_gs rfl rfl rfl rfl <| rs_v (zar rfl rfl) rfl ?_
  refine rA rfl rfl <| rN <| tr_ret <| q_ret (zap rfl rfl) ?_
  exact ⟨by simp only [fullB, hs, Bool.false_and], K⟩
theorem c_SpanFull_b (χ : Chi) (h : Heap) (A : Nat → Prop) (kv : Value) (s : SpanD) (hA : ∀ b, A b → b < h.size) (hk : RKeys A h kv s.ks) (hs : slt s.s s.e = true) (hz : decide ((0 : Int) < (s.ks.length : Int)) = false) :
    Cl Tryz.prog χ 89 #[.agg #[.string s.s, .string s.e, kv]] h (fun r h' => r = .bool (fullB s) ∧ Keep [] h h') := by
  obtain ⟨ka, kc, rfl⟩ := hk.form2
  refine zah Tryz.func89 rfl rfl rfl ?_
  have K : Keep [] h h := Keep.refl _ _
  refine rG <| rs_w (zbw rfl) rfl ?_
  rintro _ h1 ⟨rfl, B1, K1, Z1⟩
  have S1 := K.1; have K := K.new0 K1
  refine rA rfl rfl <| rN <| rG <| rF zeu rfl rfl <| rs_v (v_load zbp rfl (by exact B1.cell _ rfl)) rfl ?_
  refine rF zfg rfl rfl <| rs_v (v_load zbp rfl (by exact B1.cell _ rfl)) rfl ?_
  refine rs_v (v_slt rfl rfl) rfl ?_
  refine rM rfl rfl <| rs_gv rfl (lkb hs) (zac zew rfl) rfl ?_
  refine rs_gv rfl (lkb hs) (v_load zed rfl (by exact B1.cell _ rfl)) rfl ?_
  refine rs_gv rfl (lkb hs) (v_len zbq rfl) rfl ?_
  refine rs_gv rfl (lkb hs) (v_gt rfl rfl) rfl ?_
  refine rs_v (zbd (lkb hs) rfl) rfl ?_
  refine rM rfl rfl ?_
  refine rs_gs rfl (lkb hz) rfl rfl ?_
  refine rs_gs rfl (lkb hz) rfl rfl ?_
  refine rs_gs rfl (lkb hz) rfl rfl ?_
  refine rs_v (zar (lkb hz) rfl) rfl ?_
  refine rA rfl rfl <| rN <| tr_ret <| q_ret (zap rfl rfl) ?_
  exact ⟨by simp only [fullB, hs, hz, Bool.false_and, Bool.and_false], K⟩
theorem c_SpanFull_c (χ : Chi) (h : Heap) (A : Nat → Prop) (kv : Value) (s : SpanD) (hA : ∀ b, A b → b < h.size) (hk : RKeys A h kv s.ks) (hs : slt s.s s.e = true) (hz : decide ((0 : Int) < (s.ks.length : Int)) = true) :
    Cl Tryz.prog χ 89 #[.agg #[.string s.s, .string s.e, kv]] h (fun r h' => r = .bool (fullB s) ∧ Keep [] h h') := by
  obtain ⟨ka, kc, rfl⟩ := hk.form2
  refine zah Tryz.func89 rfl rfl rfl ?_
  have K : Keep [] h h := Keep.refl _ _
  refine rG <| rs_w (zbw rfl) rfl ?_
  rintro _ h1 ⟨rfl, B1, K1, Z1⟩
  have S1 := K.1; have K := K.new0 K1
  refine rA rfl rfl <| rN <| rG <| rF zeu rfl rfl <| rs_v (v_load zbp rfl (by exact B1.cell _ rfl)) rfl ?_
  refine rF zfg rfl rfl <| rs_v (v_load zbp rfl (by exact B1.cell _ rfl)) rfl ?_
  refine rs_v (v_slt rfl rfl) rfl ?_
  refine rM rfl rfl <| rs_gv rfl (lkb hs) (zac zew rfl) rfl ?_
  refine rs_gv rfl (lkb hs) (v_load zed rfl (by exact B1.cell _ rfl)) rfl ?_
  refine rs_gv rfl (lkb hs) (v_len zbq rfl) rfl ?_
  refine rs_gv rfl (lkb hs) (v_gt rfl rfl) rfl ?_
  refine rs_v (zbd (lkb hs) rfl) rfl ?_
  refine rM rfl rfl <| rs_gv rfl (lkb hz) (zac zew rfl) rfl ?_
  refine rs_gv rfl (lkb hz) (v_load zed rfl (by exact B1.cell _ rfl)) rfl ?_
  refine rs_gw rfl (lkb hz) (w_call (vs := [_]) zkr rfl ⟨rfl, trivial⟩ (zor χ _ A _ s.ks (hk.stab (K.stab fun b hb => ⟨hA b hb, by simp⟩)))) rfl ?_
  rintro _ h2 ⟨rfl, hsame⟩; have hsame := hsame.symm; subst hsame
  refine rs_v (zbd (lkb hz) rfl) rfl ?_
  refine rA rfl rfl <| rN <| tr_ret <| q_ret (zap rfl rfl) ?_
  exact ⟨by simp only [fullB, hs, hz, Bool.true_and], K⟩
theorem c_SpanFull (χ : Chi) (h : Heap) (A : Nat → Prop) (kv : Value) (s : SpanD) (hA : ∀ b, A b → b < h.size) (hk : RKeys A h kv s.ks) :
    Cl Tryz.prog χ 89 #[.agg #[.string s.s, .string s.e, kv]] h (fun r h' => r = .bool (fullB s) ∧ Keep [] h h') := by
  rcases Bool.eq_false_or_eq_true (slt s.s s.e) with hs | hs
  · rcases Bool.eq_false_or_eq_true (decide ((0 : Int) < (s.ks.length : Int))) with hz | hz
    · exact c_SpanFull_c χ h A kv s hA hk hs hz
    · exact c_SpanFull_b χ h A kv s hA hk hs hz
  · exact c_SpanFull_a χ h A kv s hA hk hs
theorem c_SpanWell (χ : Chi) (h : Heap) (A : Nat → Prop) (hA : ∀ b, A b → b < h.size) (v : Value) (L : List SpanD) (hL : RSpans A h v L) :
    Cl Tryz.prog χ 52 #[v] h (fun r h' => r = .bool (wellB L) ∧ Keep [] h h') := by
  obtain ⟨hlen, a, c, rfl, hx⟩ := hL.form
  refine zah Tryz.func52 rfl rfl rfl ?_
  have K : Keep [] h h := Keep.refl _ _
  refine rG <| rA rfl rfl <| rN <| tr_seq <| rG <| rM rfl rfl <| rs_v (v_len u_sl_spec_Span rfl) rfl ?_
  refine rM rfl rfl <| rN <| zal ?_
  refine zdd (fun m E h' => ∃ k, k ≤ L.length ∧ m = L.length - k ∧ E = [(0, .slice a L.length c), (5, .slice a L.length c), (6, .int .i64 (L.length : Int)), (7, .int .i64 (k : Int))] ∧ Keep [] h h' ∧ (L.take k).all fullB = true ∧ ∀ (i : Nat) x y, i + 1 < k → L[i]? = some x → L[i + 1]? = some y → sle x.e y.s = true) L.length [(0, _), (5, _), (6, _), (7, _)] ⟨rfl, rfl, rfl, rfl, trivial⟩ ⟨0, Nat.zero_le _, rfl, rfl, K, rfl, fun i _ _ hi => by omega⟩ ?_
  rintro m E hL1 ⟨k, hk, rfl, rfl, K, hall, hch⟩
  refine rG <| rs_v (v_lt rfl rfl) rfl <| rN <| tr_seq ?_
  refine tr_ifn rfl (fun hif => ?_) (fun hif => ?_)
  · -- no
    simp only [dT, dF] at hif
    have hkk : k = L.length := by omega
    subst hkk
    refine zda <| zcb <| zcq <| zcf <| q_thn <| rG <| rA rfl rfl <| rN <| tr_ret <| q_ret (zap rfl rfl) ?_
    refine ⟨?_, K⟩
    rw [List.take_length] at hall
    have : chainB (fun a b : SpanD => sle a.e b.s) L = true := (zhp _ L).2 fun i x y hx hy => hch i x y (by have := (List.getElem?_eq_some_iff.1 hy).1; omega) hx hy
    simp only [wellB, hall, this]; rfl
  -- yes
  simp only [dT, dF] at hif
  rcases hx with rfl | ⟨b, o, rfl, hAb, hR⟩
  · simp at hif; omega
  obtain ⟨x, hxk⟩ := ex_get (L := L) (k := k) (by omega)
  obtain ⟨kv, hcells, hkeys⟩ := hR k x hxk
  obtain ⟨ka, kc, hkv⟩ := hkeys.form2
  subst hkv
  have hcells := K.cells (by simp) hcells
  refine zai <| q_thn <| tr_seq <| zal <| rG <| rM rfl rfl <| rs_v (zbv u_sl_spec_Span zck rfl rfl (by omega)) rfl ?_
  refine rs_v (zay (vs := [_, _, _]) zcy rfl (by exact hcells)) rfl ?_
  refine rs_w (w_new zeh) rfl ?_
  rintro _ h2 ⟨rfl, B2, K2, Z2⟩
  have S2 := K.1; have K := K.new0 K2
  refine rA rfl rfl <| rs_w0 (w_put zck rfl rfl rfl rfl B2 rfl) ?_
  rintro _ h3 ⟨B3, K3⟩
  have B2 := B3; have K := K.new1 K3 (by first | (right; omega) | (left; simp; done)); have Z3 := K3.1
  refine rN ?_
  refine tr_cut (fun E h' => ∃ bad, E = [(0, .slice (some ⟨b, o, none⟩) L.length c), (5, .slice (some ⟨b, o, none⟩) L.length c), (6, .int .i64 (L.length : Int)), (7, .int .i64 (k : Int)), (29, .bool bad)] ∧ Keep [] h h' ∧ (bad = false ↔ fullB x = true ∧ ∀ j y, k = j + 1 → L[j]? = some y → sle y.e x.s = true)) ?_ ?_
  ·
    have hcall : ∀ h', Keep [] h3 h' → Cl Tryz.prog χ 89 #[.agg #[.string x.s, .string x.e, .slice ka x.ks.length kc]] h' (fun r h'' => r = .bool (fullB x) ∧ Keep [] h' h'') := fun h' hk => c_SpanFull χ h' A _ x (fun b hb => by have := hA b hb; have := K.1; have := hk.1; omega) (hkeys.stab ((K.new0 hk).stab fun b hb => ⟨hA b hb, by simp⟩))
    rcases Bool.eq_false_or_eq_true (fullB x) with hf | hf
    rcases Nat.eq_zero_or_pos k with hk0 | hk0
    · -- the first one
      have hz : decide ((0 : Int) < (k : Int)) = false := by simp; omega
      have hf2 : (!fullB x) = false := by rw [hf]; rfl
      refine tr_any (Keep []) (zae _) (by kernel_rfl) (by kernel_rfl) ?_
      refine rm_v (zae _) (fun h' hk => zay (vs := [_, _, _]) zcy rfl (by exact (hk.blk (by simp) B2).sub _ 3 rfl)) ?_
      refine rm_c (fun h' hk => w_call (vs := [_]) zla rfl ⟨rfl, trivial⟩ (hcall h' hk)) ?_
      refine rm_v (zae _) (fun h' hk => v_not rfl) ?_
      refine rm_v (zae _) (fun h' hk => v_move rfl) ?_
      refine rm_gv (zae _) rfl (lkm hf2) (fun h' hk => v_move rfl) ?_
      refine rm_gv (zae _) rfl (lkm hf2) (fun h' hk => v_gt rfl rfl) ?_
      refine rm_gv (zae _) rfl (lkm hf2) (fun h' hk => v_move rfl) ?_
      refine rm_gs (zae _) rfl (lkm hz) rfl ?_
      refine rm_gs (zae _) rfl (lkm hz) rfl ?_
      refine rm_gs (zae _) rfl (lkm hz) rfl ?_
      refine rm_gs (zae _) rfl (lkm hz) rfl ?_
      refine rm_gs (zae _) rfl (lkm hz) rfl ?_
      refine rm_gs (zae _) rfl (lkm hz) rfl ?_
      refine rm_gs (zae _) rfl (lkm hz) rfl ?_
      refine rm_gs (zae _) rfl (lkm hz) rfl ?_
      refine rm_gs (zae _) rfl (lkm hz) rfl ?_
      refine rm_gv (zae _) rfl (lkm hf2) (fun h' hk => zar (lkb hz) rfl) ?_
      refine rm_v (zae _) (fun h' hk => zar (lkb hf2) rfl) ?_
      refine rm_end ?_; intro h4 K4; simp only [endM, hypF, ofE, argE, List.nil_append]
      have B2 := K4.blk (by simp) B2
      have K := K.new0 K4; have Z4 := K4.1
      refine q_cut [(0, _), (5, _), (6, _), (7, _), (29, _)] ⟨rfl, rfl, rfl, rfl, rfl, trivial⟩ ⟨_, rfl, K, ⟨fun _ => ⟨hf, fun j y hj => by omega⟩, fun _ => rfl⟩⟩
    · -- a later one
      obtain ⟨j, rfl⟩ : ∃ j, k = j + 1 := ⟨k - 1, by omega⟩
      obtain ⟨y, hyj⟩ := ex_get (L := L) (k := j) (by omega)
      obtain ⟨kv2, hcells2, hkeys2⟩ := hR j y hyj
      have hcells2 := K.cells (by simp) hcells2
      have hz : decide ((0 : Int) < ((j + 1 : Nat) : Int)) = true := by simp
      have hf2 : (!fullB x) = false := by rw [hf]; rfl
      refine tr_any (Keep []) (zae _) (by kernel_rfl) (by kernel_rfl) ?_
      refine rm_v (zae _) (fun h' hk => zay (vs := [_, _, _]) zcy rfl (by exact (hk.blk (by simp) B2).sub _ 3 rfl)) ?_
      refine rm_c (fun h' hk => w_call (vs := [_]) zla rfl ⟨rfl, trivial⟩ (hcall h' hk)) ?_
      refine rm_v (zae _) (fun h' hk => v_not rfl) ?_
      refine rm_v (zae _) (fun h' hk => v_move rfl) ?_
      refine rm_gv (zae _) rfl (lkm hf2) (fun h' hk => v_move rfl) ?_
      refine rm_gv (zae _) rfl (lkm hf2) (fun h' hk => v_gt rfl rfl) ?_
      refine rm_gv (zae _) rfl (lkm hf2) (fun h' hk => v_move rfl) ?_
      refine rm_gv (zae _) rfl (lkm hz) (fun h' hk => v_move rfl) ?_
      refine rm_gv (zae _) rfl (lkm hz) (fun h' hk => v_move rfl) ?_
      refine rm_gv (zae _) rfl (lkm hz) (fun h' hk => v_sub rfl rfl (by omega) (by omega)) ?_
      refine rm_gv (zae _) rfl (lkm hz) (fun h' hk => zcn (i := j) u_sl_spec_Span zck rfl rfl (by omega) (by omega)) ?_
      refine rm_gv (zae _) rfl (lkm hz) (fun h' hk => zac zfg rfl) ?_
      refine rm_gv (zae _) rfl (lkm hz) (fun h' hk => v_load zbp rfl (by exact hk.cell (by simp) (hcells2.at 1 rfl))) ?_
      refine rm_gv (zae _) rfl (lkm hz) (fun h' hk => zac zeu rfl) ?_
      refine rm_gv (zae _) rfl (lkm hz) (fun h' hk => v_load zbp rfl (by exact (hk.blk (by simp) B2).cell _ rfl)) ?_
      refine rm_gv (zae _) rfl (lkm hz) (fun h' hk => v_sgt rfl rfl) ?_
      refine rm_gv (zae _) rfl (lkm hf2) (fun h' hk => zbd (lkb hz) rfl) ?_
      refine rm_v (zae _) (fun h' hk => zar (lkb hf2) rfl) ?_
      refine rm_end ?_; intro h5 K5; simp only [endM, hypF, ofE, argE, List.nil_append]
      have B2 := K5.blk (by simp) B2
      have K := K.new0 K5; have Z5 := K5.1
      refine q_cut [(0, _), (5, _), (6, _), (7, _), (29, _)] ⟨rfl, rfl, rfl, rfl, rfl, trivial⟩ ⟨_, rfl, K, ⟨fun hb => ⟨hf, fun i z hi hz2 => ?_⟩, fun hb => ?_⟩⟩
      · have : i = j := by omega
        subst this
        rw [hyj] at hz2; cases hz2
        simpa using hb
      · have := hb.2 j y rfl hyj
        simpa using this
    · -- not full
      have hf2 : (!fullB x) = true := by rw [hf]; rfl
      refine tr_any (Keep []) (zae _) (by kernel_rfl) (by kernel_rfl) ?_
      refine rm_v (zae _) (fun h' hk => zay (vs := [_, _, _]) zcy rfl (by exact (hk.blk (by simp) B2).sub _ 3 rfl)) ?_
      refine rm_c (fun h' hk => w_call (vs := [_]) zla rfl ⟨rfl, trivial⟩ (hcall h' hk)) ?_
      refine rm_v (zae _) (fun h' hk => v_not rfl) ?_
      refine rm_v (zae _) (fun h' hk => v_move rfl) ?_
      refine rm_gs (zae _) rfl (lkm hf2) rfl ?_
      refine rm_gs (zae _) rfl (lkm hf2) rfl ?_
      refine rm_gs (zae _) rfl (lkm hf2) rfl ?_
      refine rm_gu (zae _) rfl rfl ?_
      refine rm_gu (zae _) rfl rfl ?_
      refine rm_gu (zae _) rfl rfl ?_
      refine rm_gu (zae _) rfl rfl ?_
      refine rm_gu (zae _) rfl rfl ?_
      refine rm_gu (zae _) rfl rfl ?_
      refine rm_gu (zae _) rfl rfl ?_
      refine rm_gu (zae _) rfl rfl ?_
      refine rm_gu (zae _) rfl rfl ?_
      refine rm_gs (zae _) rfl (lkm hf2) rfl ?_
      refine rm_v (zae _) (fun h' hk => zbd (lkb hf2) rfl) ?_
      refine rm_end ?_; intro h6 K6; simp only [endM, hypF, ofE, argE, List.nil_append]
      have B2 := K6.blk (by simp) B2
      have K := K.new0 K6; have Z6 := K6.1
      refine q_cut [(0, _), (5, _), (6, _), (7, _), (29, _)] ⟨rfl, rfl, rfl, rfl, rfl, trivial⟩ ⟨true, rfl, K, ⟨fun e => (by cases e), fun e => (by rw [hf] at e; cases e.1)⟩⟩
  rintro E h4 ⟨bad, rfl, K, hbad⟩
  refine tr_if rfl (fun hif => ?_) (fun hif => ?_)
  · -- yes
    subst hif
    refine rG <| rA rfl rfl <| rN <| tr_ret <| zbs <| zaw ?_
    refine zgd ?_
    refine zbs <| zaw <| q_ret (zap rfl rfl) ?_
    refine ⟨?_, K⟩
    have : wellB L = false := by
      cases hw : wellB L with
      | false => rfl
      | true =>
        simp only [wellB, Bool.and_eq_true] at hw
        have h1 : fullB x = true := List.all_eq_true.1 hw.1 x (List.mem_of_getElem? hxk)
        have := hbad.2 ⟨h1, fun j y hj hy => (zhp _ L).1 hw.2 j y x hy (by rw [← hj]; exact hxk)⟩
        cases this
    rw [this]
  -- no
  subst hif
  refine zai <| zbc <| q_thn <| tr_reg <| rs_v (v_add rfl rfl (by omega) (by omega)) rfl ?_
  refine rM rfl rfl <| rs_nil ?_
  have hb2 := hbad.1 rfl
  refine q_lp (L.length - (k + 1)) [(0, _), (5, _), (6, _), (7, _)] (by omega) ⟨rfl, rfl, rfl, rfl, trivial⟩ ⟨k + 1, by omega, rfl, rfl, K, ?_, ?_⟩
  · rw [zlf hxk, hall, hb2.1]; rfl
  · intro i x' y' hi hx' hy'
    rcases Nat.lt_or_ge (i + 1) k with hlt | hge
    · exact hch i x' y' hlt hx' hy'
    · have hik : k = i + 1 := by omega
      subst hik
      rw [hxk] at hy'; cases hy'
      exact hb2.2 i x' rfl hx'
def inR (x n : Int) : Bool := decide (0 ≤ x) && decide (x < n)
def curL (n x : Int) (f b a : Bool) : List Value := [.int .i64 n, .int .i64 x, .bool f, .bool b, .bool a, .bool false]
theorem c_SpanSeekGE (χ : Chi) (h : Heap) (A : Nat → Prop) (v : Value) (W : List SpanD) (key : ByteArray) (hW : RSpans A h v W) :
    Cl Tryz.prog χ 43 #[v, .string key] h (fun r h' => r = .int .i64 (geI W key : Int) ∧ Keep [] h h') := by
  obtain ⟨hlen, a, c, rfl, hx⟩ := hW.form
  refine zah Tryz.func43 rfl rfl rfl ?_
  have K : Keep [] h h := Keep.refl _ _
  refine rG <| rA rfl rfl <| rN <| tr_seq <| rG <| rM rfl rfl <| rs_v (v_len u_sl_spec_Span rfl) rfl ?_
  refine rM rfl rfl <| rN <| zal ?_
  refine zdd (fun m E h' => ∃ k, k ≤ W.length ∧ m = W.length - k ∧ E = [(0, .slice a W.length c), (1, .string key), (7, .slice a W.length c), (8, .int .i64 (W.length : Int)), (9, .int .i64 (k : Int))] ∧ Keep [] h h' ∧ ∀ (j : Nat) s, j < k → W[j]? = some s → sle s.e key = true) W.length [(0, _), (1, _), (7, _), (8, _), (9, _)] ⟨rfl, rfl, rfl, rfl, rfl, trivial⟩ ⟨0, Nat.zero_le _, rfl, rfl, K, fun j _ hj => by omega⟩ ?_
  rintro m E hL1 ⟨k, hk, rfl, rfl, K, hall⟩
  refine rG <| rs_v (v_lt rfl rfl) rfl <| rN <| tr_seq ?_
  refine tr_ifn rfl (fun hif => ?_) (fun hif => ?_)
  · -- no
    simp only [dT, dF] at hif
    have hkk : k = W.length := by omega
    subst hkk
    refine zda <| zcb <| zcq <| zcf <| q_thn <| rG <| rM rfl rfl <| rs_v (v_len u_sl_spec_Span rfl) rfl ?_
    refine rA rfl rfl <| rN <| tr_ret <| q_ret (zap rfl rfl) ?_
    exact ⟨by rw [zqj W key W.length hall (.inl rfl)], K⟩
  -- yes
  simp only [dT, dF] at hif
  rcases hx with rfl | ⟨b, o, rfl, hAb, hR⟩
  · simp at hif; omega
  obtain ⟨x, hxk⟩ := ex_get (L := W) (k := k) (by omega)
  obtain ⟨kv, hcells, hkeys⟩ := hR k x hxk
  obtain ⟨ka, kc, hkv⟩ := hkeys.form2
  subst hkv
  have hcells := K.cells (by simp) hcells
  refine zai <| q_thn <| tr_seq <| zal <| rG <| rM rfl rfl <| rs_v (zbv u_sl_spec_Span zck rfl rfl (by omega)) rfl ?_
  refine rs_v (zay (vs := [_, _, _]) zcy rfl (by exact hcells)) rfl ?_
  refine rs_w (w_new zeh) rfl ?_
  rintro _ h2 ⟨rfl, B2, K2, Z2⟩
  have S2 := K.1; have K := K.new0 K2
  refine rA rfl rfl <| rs_w0 (w_put zck rfl rfl rfl rfl B2 rfl) ?_
  rintro _ h3 ⟨B3, K3⟩
  have B2 := B3; have K := K.new1 K3 (by first | (right; omega) | (left; simp; done)); have Z3 := K3.1
  refine rN <| rG <| rF zfg rfl rfl <| rs_v (v_load zbp rfl (by exact B2.cell _ rfl)) rfl ?_
  refine rM rfl rfl <| rs_v (v_sgt rfl rfl) rfl ?_
  refine rN ?_
  refine tr_if rfl (fun hif => ?_) (fun hif => ?_)
  · -- yes
    simp only [Bool.not_eq_true'] at hif
    refine rG <| rM rfl rfl <| rA rfl rfl <| rN <| tr_ret <| zbs <| zaw ?_
    refine zgd ?_
    refine zbs <| zaw <| q_ret (zap rfl rfl) ?_
    exact ⟨by rw [zqj W key k hall (.inr ⟨x, hxk, hif⟩)], K⟩
  -- no
  simp only [Bool.not_eq_false'] at hif
  have hno := hif
  refine zai <| zbc <| q_thn <| tr_reg <| rs_v (v_add rfl rfl (by omega) (by omega)) rfl ?_
  refine rM rfl rfl <| rs_nil ?_
  refine q_lp (W.length - (k + 1)) [(0, _), (1, _), (7, _), (8, _), (9, _)] (by omega) ⟨rfl, rfl, rfl, rfl, rfl, trivial⟩ ⟨k + 1, by omega, rfl, rfl, K, fun j s hj hs => ?_⟩
  rcases Nat.lt_or_ge j k with hlt | hge
  · exact hall j s hlt hs
  · have : j = k := by omega
    subst this
    rw [hxk] at hs; cases hs; exact hno
theorem c_place_a (χ : Chi) (h : Heap) (c : Nat) (n x y : Int) (f b a i fwd : Bool) (T : TypeId) (Bc : Blk h c [.int .i64 n, .int .i64 y, .bool f, .bool b, .bool a, .bool i] T) (g0 : decide ((0 : Int) ≤ x) = false) :
    Cl Tryz.prog χ 113 #[.pointer (some ⟨c, 0, none⟩), .int .i64 x, .bool fwd] h (fun r h' => r = .tuple #[] ∧ Blk h' c (curL n x false fwd (!fwd)) T ∧ Keep [c] h h') := by
  refine zah Tryz.func113 rfl rfl rfl ?_
  have K : Keep [c] h h := Keep.refl _ _
  refine rG <| rM rfl rfl <| rM rfl rfl <| rC rfl rfl <| rF zdg rfl rfl <| rs_w0 (w_put zer rfl rfl rfl rfl Bc rfl) ?_
  rintro _ h1 ⟨B1, K1⟩
  have Bc := B1; have K := K.new1 K1 (by first | (right; omega) | (left; simp; done)); have Z1 := K1.1
  refine rN <| rG <| rM rfl rfl <| rM rfl rfl <| rs_v (v_le rfl rfl) rfl ?_
  refine rM rfl rfl <| rs_gs rfl (lkb g0) rfl rfl <| rs_gs rfl (lkb g0) rfl rfl <| rs_gs rfl (lkb g0) rfl rfl <| rs_gs rfl (lkb g0) rfl rfl <| rs_gs rfl (lkb g0) rfl rfl <| rs_gs rfl (lkb g0) rfl rfl <| rs_v (zar (lkb g0) rfl) rfl ?_
  refine rC rfl rfl <| rF zbg rfl rfl <| rs_w0 (w_put zch rfl rfl rfl rfl Bc rfl) ?_
  rintro _ h2 ⟨B2, K2⟩
  have Bc := B2; have K := K.new1 K2 (by first | (right; omega) | (left; simp; done)); have Z2 := K2.1
  refine rN <| rG <| rM rfl rfl <| rM rfl rfl <| rC rfl rfl <| rF zbg rfl rfl <| rs_v (v_load zav rfl (by exact Bc.cell _ rfl)) rfl ?_
  refine rs_v (v_not rfl) rfl <| rM rfl rfl <| rs_gv rfl rfl (v_move rfl) rfl <| rs_v (zbd rfl rfl) rfl ?_
  refine rC rfl rfl <| rF zes rfl rfl <| rs_w0 (w_put zch rfl rfl rfl rfl Bc rfl) ?_
  rintro _ h3 ⟨B3, K3⟩
  have Bc := B3; have K := K.new1 K3 (by first | (right; omega) | (left; simp; done)); have Z3 := K3.1
  refine rN <| rG <| rM rfl rfl <| rM rfl rfl <| rC rfl rfl <| rF zbg rfl rfl <| rs_v (v_load zav rfl (by exact Bc.cell _ rfl)) rfl ?_
  refine rs_v (v_not rfl) rfl <| rM rfl rfl <| rs_gv rfl rfl (v_move rfl) rfl <| rs_gv rfl rfl (v_not rfl) rfl ?_
  refine rs_v (zbd rfl rfl) rfl ?_
  refine rC rfl rfl <| rF zet rfl rfl <| rs_w0 (w_put zch rfl rfl rfl rfl Bc rfl) ?_
  rintro _ h4 ⟨B4, K4⟩
  have Bc := B4; have K := K.new1 K4 (by first | (right; omega) | (left; simp; done)); have Z4 := K4.1
  refine rN <| tr_reg <| rM rfl rfl <| rC rfl rfl <| rF zfs rfl rfl <| rs_w0 (w_put zch rfl rfl rfl rfl Bc rfl) ?_
  rintro _ h5 ⟨B5, K5⟩
  have Bc := B5; have K := K.new1 K5 (by first | (right; omega) | (left; simp; done)); have Z5 := K5.1
  refine rs_nil ?_
  refine q_end (zce rfl) ?_
  refine ⟨rfl, ?_, K⟩
  simp [putRow, Value.cells] at Bc
  exact Bc
theorem c_place_b (χ : Chi) (h : Heap) (c : Nat) (n x y : Int) (f b a i fwd : Bool) (T : TypeId) (Bc : Blk h c [.int .i64 n, .int .i64 y, .bool f, .bool b, .bool a, .bool i] T) (g0 : decide ((0 : Int) ≤ x) = true) (g1 : decide (x < n) = true) :
    Cl Tryz.prog χ 113 #[.pointer (some ⟨c, 0, none⟩), .int .i64 x, .bool fwd] h (fun r h' => r = .tuple #[] ∧ Blk h' c (curL n x true false false) T ∧ Keep [c] h h') := by
  have g2 : (!decide (x < n)) = false := by rw [g1]; rfl
  refine zah Tryz.func113 rfl rfl rfl ?_
  have K : Keep [c] h h := Keep.refl _ _
  refine rG <| rM rfl rfl <| rM rfl rfl <| rC rfl rfl <| rF zdg rfl rfl <| rs_w0 (w_put zer rfl rfl rfl rfl Bc rfl) ?_
  rintro _ h1 ⟨B1, K1⟩
  have Bc := B1; have K := K.new1 K1 (by first | (right; omega) | (left; simp; done)); have Z1 := K1.1
  refine rN <| rG <| rM rfl rfl <| rM rfl rfl <| rs_v (v_le rfl rfl) rfl ?_
  refine rM rfl rfl <| rs_gv rfl (lkb g0) (v_move rfl) rfl <| rs_gv rfl (lkb g0) (v_move rfl) rfl <| rs_gv rfl (lkb g0) (zad rfl) rfl ?_
  refine rs_gv rfl (lkb g0) (zac zgq rfl) rfl ?_
  refine rs_gv rfl (lkb g0) (v_load zbx rfl (by exact Bc.cell _ rfl)) rfl ?_
  refine rs_gv rfl (lkb g0) (v_lt rfl rfl) rfl ?_
  refine rs_v (zbd (lkb g0) rfl) rfl ?_
  refine rC rfl rfl <| rF zbg rfl rfl <| rs_w0 (w_put zch rfl rfl rfl rfl Bc rfl) ?_
  rintro _ h2 ⟨B2, K2⟩
  have Bc := B2; have K := K.new1 K2 (by first | (right; omega) | (left; simp; done)); have Z2 := K2.1
  refine rN <| rG <| rM rfl rfl <| rM rfl rfl <| rC rfl rfl <| rF zbg rfl rfl <| rs_v (v_load zav rfl (by exact Bc.cell _ rfl)) rfl ?_
  refine rs_v (v_not rfl) rfl <| rM rfl rfl <| rs_gs rfl (lkb g2) rfl rfl <| rs_v (zar (lkb g2) rfl) rfl ?_
  refine rC rfl rfl <| rF zes rfl rfl <| rs_w0 (w_put zch rfl rfl rfl rfl Bc rfl) ?_
  rintro _ h3 ⟨B3, K3⟩
  have Bc := B3; have K := K.new1 K3 (by first | (right; omega) | (left; simp; done)); have Z3 := K3.1
  refine rN <| rG <| rM rfl rfl <| rM rfl rfl <| rC rfl rfl <| rF zbg rfl rfl <| rs_v (v_load zav rfl (by exact Bc.cell _ rfl)) rfl ?_
  refine rs_v (v_not rfl) rfl <| rM rfl rfl <| rs_gs rfl (lkb g2) rfl rfl <| rs_gs rfl (lkb g2) rfl rfl <| rs_v (zar (lkb g2) rfl) rfl ?_
  refine rC rfl rfl <| rF zet rfl rfl <| rs_w0 (w_put zch rfl rfl rfl rfl Bc rfl) ?_
  rintro _ h4 ⟨B4, K4⟩
  have Bc := B4; have K := K.new1 K4 (by first | (right; omega) | (left; simp; done)); have Z4 := K4.1
  refine rN <| tr_reg <| rM rfl rfl <| rC rfl rfl <| rF zfs rfl rfl <| rs_w0 (w_put zch rfl rfl rfl rfl Bc rfl) ?_
  rintro _ h5 ⟨B5, K5⟩
  have Bc := B5; have K := K.new1 K5 (by first | (right; omega) | (left; simp; done)); have Z5 := K5.1
  refine rs_nil ?_
  refine q_end (zce rfl) ?_
  refine ⟨rfl, ?_, K⟩
  simp [putRow, Value.cells] at Bc
  rw [show decide (x < n) = true from g1] at Bc
  exact Bc
theorem c_place_c (χ : Chi) (h : Heap) (c : Nat) (n x y : Int) (f b a i fwd : Bool) (T : TypeId) (Bc : Blk h c [.int .i64 n, .int .i64 y, .bool f, .bool b, .bool a, .bool i] T) (g0 : decide ((0 : Int) ≤ x) = true) (g1 : decide (x < n) = false) :
    Cl Tryz.prog χ 113 #[.pointer (some ⟨c, 0, none⟩), .int .i64 x, .bool fwd] h (fun r h' => r = .tuple #[] ∧ Blk h' c (curL n x false fwd (!fwd)) T ∧ Keep [c] h h') := by
  have g2 : (!decide (x < n)) = true := by rw [g1]; rfl
  refine zah Tryz.func113 rfl rfl rfl ?_
  have K : Keep [c] h h := Keep.refl _ _
  refine rG <| rM rfl rfl <| rM rfl rfl <| rC rfl rfl <| rF zdg rfl rfl <| rs_w0 (w_put zer rfl rfl rfl rfl Bc rfl) ?_
  rintro _ h1 ⟨B1, K1⟩
  have Bc := B1; have K := K.new1 K1 (by first | (right; omega) | (left; simp; done)); have Z1 := K1.1
  refine rN <| rG <| rM rfl rfl <| rM rfl rfl <| rs_v (v_le rfl rfl) rfl ?_
  refine rM rfl rfl <| rs_gv rfl (lkb g0) (v_move rfl) rfl <| rs_gv rfl (lkb g0) (v_move rfl) rfl <| rs_gv rfl (lkb g0) (zad rfl) rfl ?_
  refine rs_gv rfl (lkb g0) (zac zgq rfl) rfl ?_
  refine rs_gv rfl (lkb g0) (v_load zbx rfl (by exact Bc.cell _ rfl)) rfl ?_
  refine rs_gv rfl (lkb g0) (v_lt rfl rfl) rfl ?_
  refine rs_v (zbd (lkb g0) rfl) rfl ?_
  refine rC rfl rfl <| rF zbg rfl rfl <| rs_w0 (w_put zch rfl rfl rfl rfl Bc rfl) ?_
  rintro _ h2 ⟨B2, K2⟩
  have Bc := B2; have K := K.new1 K2 (by first | (right; omega) | (left; simp; done)); have Z2 := K2.1
  refine rN <| rG <| rM rfl rfl <| rM rfl rfl <| rC rfl rfl <| rF zbg rfl rfl <| rs_v (v_load zav rfl (by exact Bc.cell _ rfl)) rfl ?_
  refine rs_v (v_not rfl) rfl <| rM rfl rfl <| rs_gv rfl (lkb g2) (v_move rfl) rfl <| rs_v (zbd (lkb g2) rfl) rfl ?_
  refine rC rfl rfl <| rF zes rfl rfl <| rs_w0 (w_put zch rfl rfl rfl rfl Bc rfl) ?_
  rintro _ h3 ⟨B3, K3⟩
  have Bc := B3; have K := K.new1 K3 (by first | (right; omega) | (left; simp; done)); have Z3 := K3.1
  refine rN <| rG <| rM rfl rfl <| rM rfl rfl <| rC rfl rfl <| rF zbg rfl rfl <| rs_v (v_load zav rfl (by exact Bc.cell _ rfl)) rfl ?_
  refine rs_v (v_not rfl) rfl <| rM rfl rfl <| rs_gv rfl (lkb g2) (v_move rfl) rfl <| rs_gv rfl (lkb g2) (v_not rfl) rfl ?_
  refine rs_v (zbd (lkb g2) rfl) rfl ?_
  refine rC rfl rfl <| rF zet rfl rfl <| rs_w0 (w_put zch rfl rfl rfl rfl Bc rfl) ?_
  rintro _ h4 ⟨B4, K4⟩
  have Bc := B4; have K := K.new1 K4 (by first | (right; omega) | (left; simp; done)); have Z4 := K4.1
  refine rN <| tr_reg <| rM rfl rfl <| rC rfl rfl <| rF zfs rfl rfl <| rs_w0 (w_put zch rfl rfl rfl rfl Bc rfl) ?_
  rintro _ h5 ⟨B5, K5⟩
  have Bc := B5; have K := K.new1 K5 (by first | (right; omega) | (left; simp; done)); have Z5 := K5.1
  refine rs_nil ?_
  refine q_end (zce rfl) ?_
  refine ⟨rfl, ?_, K⟩
  simp [putRow, Value.cells] at Bc
  rw [show decide (x < n) = false from g1] at Bc
  exact Bc
theorem zgt (χ : Chi) (h : Heap) (c : Nat) (n x y : Int) (f b a i fwd : Bool) (T : TypeId) (Bc : Blk h c [.int .i64 n, .int .i64 y, .bool f, .bool b, .bool a, .bool i] T) :
    Cl Tryz.prog χ 113 #[.pointer (some ⟨c, 0, none⟩), .int .i64 x, .bool fwd] h
      (fun r h' => r = .tuple #[] ∧ Blk h' c (curL n x (inR x n) (!inR x n && fwd) (!inR x n && !fwd)) T ∧ Keep [c] h h') := by
  rcases Bool.eq_false_or_eq_true (decide ((0 : Int) ≤ x)) with h0 | h0
  · rcases Bool.eq_false_or_eq_true (decide (x < n)) with h1 | h1
    · have e : inR x n = true := by simp only [inR, h0, h1]; rfl
      rw [e]; exact c_place_b χ h c n x y f b a i fwd T Bc h0 h1
    · have e : inR x n = false := by simp only [inR, h0, h1]; rfl
      rw [e]; exact c_place_c χ h c n x y f b a i fwd T Bc h0 h1
  · have e : inR x n = false := by simp only [inR, h0]; rfl
    rw [e]; exact c_place_a χ h c n x y f b a i fwd T Bc h0
theorem c_Step_0 (χ : Chi) (h : Heap) (c : Nat) (n x ge lt : Int) (f b a : Bool) (T : TypeId) (hn : 0 ≤ n) (hn2 : n ≤ 9223372036854775807) (Bc : Blk h c (curL n x f b a) T)  :
    Cl Tryz.prog χ 64 #[.pointer (some ⟨c, 0, none⟩), .int .u8 0, .int .i64 ge, .int .i64 lt] h
      (fun r h' => r = .tuple #[.bool true, .bool (inR 0 n)] ∧ Blk h' c (curL n 0 (inR 0 n) false false) T ∧ Keep [c] h h') := by
  refine zah Tryz.func64 rfl rfl rfl ?_
  have K : Keep [c] h h := Keep.refl _ _
  refine rG <| rA rfl rfl <| rA rfl rfl <| rN <| tr_seq <| rG <| rM rfl rfl <| rN <| zal <| tr_seq <| rG <| rs_v (v_eq rfl rfl) rfl <| rA rfl rfl <| rN <| zax rfl ?_
  refine zai <| q_thn <| zax rfl ?_
  refine rG <| rM rfl rfl <| rs_w (w_call (vs := [_, _, _]) zci rfl ⟨rfl, rfl, rfl, trivial⟩ (zgt χ _ c n 0 x f b a false true T Bc)) rfl ?_
  rintro _ h1 ⟨rfl, Bc, K1⟩
  have K := K.new1 K1 (by left; simp); have Z1 := K1.1
  refine rN <| tr_seq <| rG <| rM rfl rfl <| rs_v (v_eq rfl rfl) rfl <| rN <| zaf rfl ?_
  refine zai <| q_thn <| tr_reg <| rM rfl rfl <| rM rfl rfl <| rC rfl rfl <| rF zes rfl rfl <| rs_w0 (w_put zch rfl rfl rfl rfl Bc rfl) ?_
  rintro _ h2 ⟨B2, K2⟩
  have Bc := B2; have K := K.new1 K2 (by first | (right; omega) | (left; simp; done)); have Z2 := K2.1
  refine rC rfl rfl <| rF zet rfl rfl <| rs_w0 (w_put zch rfl rfl rfl rfl Bc rfl) ?_
  rintro _ h3 ⟨B3, K3⟩
  have Bc := B3; have K := K.new1 K3 (by first | (right; omega) | (left; simp; done)); have Z3 := K3.1
  refine rs_nil <| zbc <| q_thn <| tr_seq ?_
  refine zbb (by kernel_rfl) (by kernel_rfl) ?_
  refine rq_v (v_move rfl) <| rq_v (zad rfl) <| rq_v (zac zbg rfl) <| rq_v (v_load zav rfl (by exact Bc.cell _ rfl)) ?_
  refine rq_v (zcs rfl) <| rq_v (zcs rfl) ?_
  refine rm_end ?_; simp only [endM, hypF, ofE, argE]
  refine q_thn <| tr_ret <| q_ret (zfj rfl rfl rfl) ?_
  refine ⟨rfl, ?_, K⟩
  first | exact Bc | (simp [putRow, Value.cells, curL] at Bc ⊢; exact Bc)
theorem c_Step_1 (χ : Chi) (h : Heap) (c : Nat) (n x ge lt : Int) (f b a : Bool) (T : TypeId) (hn : 0 ≤ n) (hn2 : n ≤ 9223372036854775807) (Bc : Blk h c (curL n x f b a) T)  :
    Cl Tryz.prog χ 64 #[.pointer (some ⟨c, 0, none⟩), .int .u8 1, .int .i64 ge, .int .i64 lt] h
      (fun r h' => r = .tuple #[.bool true, .bool (inR (n - 1) n)] ∧ Blk h' c (curL n (n - 1) (inR (n - 1) n) false false) T ∧ Keep [c] h h') := by
  refine zah Tryz.func64 rfl rfl rfl ?_
  have K : Keep [c] h h := Keep.refl _ _
  refine rG <| rA rfl rfl <| rA rfl rfl <| rN <| tr_seq <| rG <| rM rfl rfl <| rN <| zal <| tr_seq <| rG <| rs_v (v_eq rfl rfl) rfl <| rA rfl rfl <| rN <| zaf rfl ?_
  refine tr_reg <| rs_v (v_eq rfl rfl) rfl <| rA rfl rfl <| rN <| zax rfl ?_
  refine rG <| rM rfl rfl <| rs_w (w_call (vs := [_, _, _]) zci rfl ⟨rfl, rfl, rfl, trivial⟩ (zgt χ _ c n 0 x f b a false true T Bc)) rfl ?_
  rintro _ h1 ⟨rfl, Bc, K1⟩
  have K := K.new1 K1 (by left; simp); have Z1 := K1.1
  refine rN <| tr_seq <| rG <| rM rfl rfl <| rs_v (v_eq rfl rfl) rfl <| rN <| zax rfl ?_
  refine tr_reg <| rM rfl rfl <| rM rfl rfl <| rC rfl rfl <| rF zgq rfl rfl <| rs_v (v_load zbx rfl (by exact Bc.cell _ rfl)) rfl ?_
  refine rs_v (v_sub rfl rfl (by omega) (by omega)) rfl ?_
  refine rs_w (w_call (vs := [_, _, _]) zci rfl ⟨rfl, rfl, rfl, trivial⟩ (zgt χ _ c n (n - 1) 0 _ _ _ false false T Bc)) rfl ?_
  rintro _ h2 ⟨rfl, Bc, K2⟩
  have K := K.new1 K2 (by left; simp); have Z2 := K2.1
  refine rN <| tr_reg <| rM rfl rfl <| rM rfl rfl <| rC rfl rfl <| rF zes rfl rfl <| rs_w0 (w_put zch rfl rfl rfl rfl Bc rfl) ?_
  rintro _ h3 ⟨B3, K3⟩
  have Bc := B3; have K := K.new1 K3 (by first | (right; omega) | (left; simp; done)); have Z3 := K3.1
  refine rC rfl rfl <| rF zet rfl rfl <| rs_w0 (w_put zch rfl rfl rfl rfl Bc rfl) ?_
  rintro _ h4 ⟨B4, K4⟩
  have Bc := B4; have K := K.new1 K4 (by first | (right; omega) | (left; simp; done)); have Z4 := K4.1
  refine rs_nil <| zbc <| q_thn <| tr_seq ?_
  refine zbb (by kernel_rfl) (by kernel_rfl) ?_
  refine rq_v (v_move rfl) <| rq_v (zad rfl) <| rq_v (zac zbg rfl) <| rq_v (v_load zav rfl (by exact Bc.cell _ rfl)) ?_
  refine rq_v (zcs rfl) <| rq_v (zcs rfl) ?_
  refine rm_end ?_; simp only [endM, hypF, ofE, argE]
  refine q_thn <| tr_ret <| q_ret (zfj rfl rfl rfl) ?_
  refine ⟨rfl, ?_, K⟩
  first | exact Bc | (simp [putRow, Value.cells, curL] at Bc ⊢; exact Bc)
theorem c_Step_4 (χ : Chi) (h : Heap) (c : Nat) (n x ge lt : Int) (f b a : Bool) (T : TypeId) (hn : 0 ≤ n) (hn2 : n ≤ 9223372036854775807) (Bc : Blk h c (curL n x f b a) T)  :
    Cl Tryz.prog χ 64 #[.pointer (some ⟨c, 0, none⟩), .int .u8 4, .int .i64 ge, .int .i64 lt] h
      (fun r h' => r = .tuple #[.bool true, .bool (inR ge n)] ∧ Blk h' c (curL n ge (inR ge n) (!inR ge n && true) (!inR ge n && !true)) T ∧ Keep [c] h h') := by
  refine zah Tryz.func64 rfl rfl rfl ?_
  have K : Keep [c] h h := Keep.refl _ _
  refine rG <| rA rfl rfl <| rA rfl rfl <| rN <| tr_seq <| rG <| rM rfl rfl <| rN <| zal <| tr_seq <| rG <| rs_v (v_eq rfl rfl) rfl <| rA rfl rfl <| rN <| zaf rfl ?_
  refine tr_reg <| rs_v (v_eq rfl rfl) rfl <| rA rfl rfl <| rN <| zaf rfl ?_
  refine rG <| rs_v (v_eq rfl rfl) rfl <| rA rfl rfl <| rN <| zax rfl ?_
  refine tr_reg <| rM rfl rfl <| rM rfl rfl <| rs_w (w_call (vs := [_, _, _]) zci rfl ⟨rfl, rfl, rfl, trivial⟩ (zgt χ _ c n ge x f b a false true T Bc)) rfl ?_
  rintro _ h1 ⟨rfl, Bc, K1⟩
  have K := K.new1 K1 (by left; simp); have Z1 := K1.1
  refine rs_nil <| zbc <| q_thn <| tr_seq ?_
  refine zbb (by kernel_rfl) (by kernel_rfl) ?_
  refine rq_v (v_move rfl) <| rq_v (zad rfl) <| rq_v (zac zbg rfl) <| rq_v (v_load zav rfl (by exact Bc.cell _ rfl)) ?_
  refine rq_v (zcs rfl) <| rq_v (zcs rfl) ?_
  refine rm_end ?_; simp only [endM, hypF, ofE, argE]
  refine q_thn <| tr_ret <| q_ret (zfj rfl rfl rfl) ?_
  refine ⟨rfl, ?_, K⟩
  first | exact Bc | (simp [putRow, Value.cells, curL] at Bc ⊢; exact Bc)
theorem c_Step_5 (χ : Chi) (h : Heap) (c : Nat) (n x ge lt : Int) (f b a : Bool) (T : TypeId) (hn : 0 ≤ n) (hn2 : n ≤ 9223372036854775807) (Bc : Blk h c (curL n x f b a) T)  :
    Cl Tryz.prog χ 64 #[.pointer (some ⟨c, 0, none⟩), .int .u8 5, .int .i64 ge, .int .i64 lt] h
      (fun r h' => r = .tuple #[.bool true, .bool (inR lt n)] ∧ Blk h' c (curL n lt (inR lt n) (!inR lt n && false) (!inR lt n && !false)) T ∧ Keep [c] h h') := by
  refine zah Tryz.func64 rfl rfl rfl ?_
  have K : Keep [c] h h := Keep.refl _ _
  refine rG <| rA rfl rfl <| rA rfl rfl <| rN <| tr_seq <| rG <| rM rfl rfl <| rN <| zal <| tr_seq <| rG <| rs_v (v_eq rfl rfl) rfl <| rA rfl rfl <| rN <| zaf rfl ?_
  refine tr_reg <| rs_v (v_eq rfl rfl) rfl <| rA rfl rfl <| rN <| zaf rfl ?_
  refine rG <| rs_v (v_eq rfl rfl) rfl <| rA rfl rfl <| rN <| zaf rfl ?_
  refine rG <| rs_v (v_eq rfl rfl) rfl <| rA rfl rfl <| rN <| zax rfl ?_
  refine tr_reg <| rM rfl rfl <| rM rfl rfl <| rs_w (w_call (vs := [_, _, _]) zci rfl ⟨rfl, rfl, rfl, trivial⟩ (zgt χ _ c n lt x f b a false false T Bc)) rfl ?_
  rintro _ h1 ⟨rfl, Bc, K1⟩
  have K := K.new1 K1 (by left; simp); have Z1 := K1.1
  refine rs_nil <| zbc <| q_thn <| tr_seq ?_
  refine zbb (by kernel_rfl) (by kernel_rfl) ?_
  refine rq_v (v_move rfl) <| rq_v (zad rfl) <| rq_v (zac zbg rfl) <| rq_v (v_load zav rfl (by exact Bc.cell _ rfl)) ?_
  refine rq_v (zcs rfl) <| rq_v (zcs rfl) ?_
  refine rm_end ?_; simp only [endM, hypF, ofE, argE]
  refine q_thn <| tr_ret <| q_ret (zfj rfl rfl rfl) ?_
  refine ⟨rfl, ?_, K⟩
  first | exact Bc | (simp [putRow, Value.cells, curL] at Bc ⊢; exact Bc)
theorem c_Step_2f (χ : Chi) (h : Heap) (c : Nat) (n x ge lt : Int) (b a : Bool) (T : TypeId) (hn : 0 ≤ n) (hn2 : n ≤ 9223372036854775807) (Bc : Blk h c (curL n x true b a) T) (hx : -1 ≤ x) (hx2 : x < n) :
    Cl Tryz.prog χ 64 #[.pointer (some ⟨c, 0, none⟩), .int .u8 2, .int .i64 ge, .int .i64 lt] h
      (fun r h' => r = .tuple #[.bool true, .bool (inR (x + 1) n)] ∧ Blk h' c (curL n (x + 1) (inR (x + 1) n) (!inR (x + 1) n && true) (!inR (x + 1) n && !true)) T ∧ Keep [c] h h') := by
  refine zah Tryz.func64 rfl rfl rfl ?_
  have K : Keep [c] h h := Keep.refl _ _
  refine rG <| rA rfl rfl <| rA rfl rfl <| rN <| tr_seq <| rG <| rM rfl rfl <| rN <| zal <| tr_seq <| rG <| rs_v (v_eq rfl rfl) rfl <| rA rfl rfl <| rN <| zaf rfl ?_
  refine tr_reg <| rs_v (v_eq rfl rfl) rfl <| rA rfl rfl <| rN <| zaf rfl ?_
  refine rG <| rs_v (v_eq rfl rfl) rfl <| rA rfl rfl <| rN <| zaf rfl ?_
  refine rG <| rs_v (v_eq rfl rfl) rfl <| rA rfl rfl <| rN <| zaf rfl ?_
  refine rG <| rs_v (v_eq rfl rfl) rfl <| rA rfl rfl <| rN <| zax rfl ?_
  refine tr_seq <| rG <| rM rfl rfl <| rC rfl rfl <| rF zbg rfl rfl <| rs_v (v_load zav rfl (by exact Bc.cell _ rfl)) rfl ?_
  refine rs_v (v_not rfl) rfl <| rM rfl rfl <| rs_gs rfl rfl rfl rfl <| rs_gs rfl rfl rfl rfl <| rs_gs rfl rfl rfl rfl <| rs_gs rfl rfl rfl rfl <| rs_gs rfl rfl rfl rfl <| rs_v (zar rfl rfl) rfl ?_
  refine rN <| zaf rfl ?_
  refine zai <| q_thn <| tr_seq <| rG <| rM rfl rfl <| rC rfl rfl <| rF zfs rfl rfl <| rs_v (v_load zav rfl (by exact Bc.cell _ rfl)) rfl ?_
  refine rs_v (v_not rfl) rfl <| rN <| zax rfl ?_
  refine tr_reg <| rM rfl rfl <| rC rfl rfl <| rF zdg rfl rfl <| rs_v (v_load zbx rfl (by exact Bc.cell _ rfl)) rfl ?_
  refine rs_v (v_add rfl rfl (by omega) (by omega)) rfl ?_
  refine rC rfl rfl <| rF zdg rfl rfl <| rs_w0 (w_put zer rfl rfl rfl rfl Bc rfl) ?_
  rintro _ h1 ⟨B1, K1⟩
  have Bc := B1; have K := K.new1 K1 (by first | (right; omega) | (left; simp; done)); have Z1 := K1.1
  refine rN <| tr_reg <| rM rfl rfl <| rM rfl rfl <| rC rfl rfl <| rF zdg rfl rfl <| rs_v (v_load zbx rfl (by exact Bc.cell _ rfl)) rfl ?_
  refine rs_w (w_call (vs := [_, _, _]) zci rfl ⟨rfl, rfl, rfl, trivial⟩ (zgt χ _ c n (x + 1) (x + 1) true b a false true T Bc)) rfl ?_
  rintro _ h2 ⟨rfl, Bc, K2⟩
  have K := K.new1 K2 (by left; simp); have Z2 := K2.1
  refine rs_nil <| zbc <| q_thn <| tr_seq ?_
  refine zbb (by kernel_rfl) (by kernel_rfl) ?_
  refine rq_v (v_move rfl) <| rq_v (zad rfl) <| rq_v (zac zbg rfl) <| rq_v (v_load zav rfl (by exact Bc.cell _ rfl)) ?_
  refine rq_v (zcs rfl) <| rq_v (zcs rfl) ?_
  refine rm_end ?_; simp only [endM, hypF, ofE, argE]
  refine q_thn <| tr_ret <| q_ret (zfj rfl rfl rfl) ?_
  refine ⟨rfl, ?_, K⟩
  first | exact Bc | (simp [putRow, Value.cells, curL] at Bc ⊢; exact Bc)
theorem c_Step_2a (χ : Chi) (h : Heap) (c : Nat) (n x ge lt : Int) (b : Bool) (T : TypeId) (hn : 0 ≤ n) (hn2 : n ≤ 9223372036854775807) (Bc : Blk h c (curL n x false b true) T) (hx : -1 ≤ x) (hx2 : x < n) :
    Cl Tryz.prog χ 64 #[.pointer (some ⟨c, 0, none⟩), .int .u8 2, .int .i64 ge, .int .i64 lt] h
      (fun r h' => r = .tuple #[.bool true, .bool (inR (x + 1) n)] ∧ Blk h' c (curL n (x + 1) (inR (x + 1) n) (!inR (x + 1) n && true) (!inR (x + 1) n && !true)) T ∧ Keep [c] h h') := by
  refine zah Tryz.func64 rfl rfl rfl ?_
  have K : Keep [c] h h := Keep.refl _ _
  refine rG <| rA rfl rfl <| rA rfl rfl <| rN <| tr_seq <| rG <| rM rfl rfl <| rN <| zal <| tr_seq <| rG <| rs_v (v_eq rfl rfl) rfl <| rA rfl rfl <| rN <| zaf rfl ?_
  refine tr_reg <| rs_v (v_eq rfl rfl) rfl <| rA rfl rfl <| rN <| zaf rfl ?_
  refine rG <| rs_v (v_eq rfl rfl) rfl <| rA rfl rfl <| rN <| zaf rfl ?_
  refine rG <| rs_v (v_eq rfl rfl) rfl <| rA rfl rfl <| rN <| zaf rfl ?_
  refine rG <| rs_v (v_eq rfl rfl) rfl <| rA rfl rfl <| rN <| zax rfl ?_
  refine tr_seq <| rG <| rM rfl rfl <| rC rfl rfl <| rF zbg rfl rfl <| rs_v (v_load zav rfl (by exact Bc.cell _ rfl)) rfl ?_
  refine rs_v (v_not rfl) rfl <| rM rfl rfl <| rs_gv rfl rfl (v_move rfl) rfl <| rs_gv rfl rfl (zad rfl) rfl ?_
  refine rs_gv rfl rfl (zac zet rfl) rfl ?_
  refine rs_gv rfl rfl (v_load zav rfl (by exact Bc.cell _ rfl)) rfl ?_
  refine rs_gv rfl rfl (v_not rfl) rfl ?_
  refine rs_v (zbd rfl rfl) rfl ?_
  refine rN <| zaf rfl ?_
  refine zai <| q_thn <| tr_seq <| rG <| rM rfl rfl <| rC rfl rfl <| rF zfs rfl rfl <| rs_v (v_load zav rfl (by exact Bc.cell _ rfl)) rfl ?_
  refine rs_v (v_not rfl) rfl <| rN <| zax rfl ?_
  refine tr_reg <| rM rfl rfl <| rC rfl rfl <| rF zdg rfl rfl <| rs_v (v_load zbx rfl (by exact Bc.cell _ rfl)) rfl ?_
  refine rs_v (v_add rfl rfl (by omega) (by omega)) rfl ?_
  refine rC rfl rfl <| rF zdg rfl rfl <| rs_w0 (w_put zer rfl rfl rfl rfl Bc rfl) ?_
  rintro _ h1 ⟨B1, K1⟩
  have Bc := B1; have K := K.new1 K1 (by first | (right; omega) | (left; simp; done)); have Z1 := K1.1
  refine rN <| tr_reg <| rM rfl rfl <| rM rfl rfl <| rC rfl rfl <| rF zdg rfl rfl <| rs_v (v_load zbx rfl (by exact Bc.cell _ rfl)) rfl ?_
  refine rs_w (w_call (vs := [_, _, _]) zci rfl ⟨rfl, rfl, rfl, trivial⟩ (zgt χ _ c n (x + 1) (x + 1) false b true false true T Bc)) rfl ?_
  rintro _ h2 ⟨rfl, Bc, K2⟩
  have K := K.new1 K2 (by left; simp); have Z2 := K2.1
  refine rs_nil <| zbc <| q_thn <| tr_seq ?_
  refine zbb (by kernel_rfl) (by kernel_rfl) ?_
  refine rq_v (v_move rfl) <| rq_v (zad rfl) <| rq_v (zac zbg rfl) <| rq_v (v_load zav rfl (by exact Bc.cell _ rfl)) ?_
  refine rq_v (zcs rfl) <| rq_v (zcs rfl) ?_
  refine rm_end ?_; simp only [endM, hypF, ofE, argE]
  refine q_thn <| tr_ret <| q_ret (zfj rfl rfl rfl) ?_
  refine ⟨rfl, ?_, K⟩
  first | exact Bc | (simp [putRow, Value.cells, curL] at Bc ⊢; exact Bc)
theorem c_Step_2n (χ : Chi) (h : Heap) (c : Nat) (n x ge lt : Int) (b : Bool) (T : TypeId) (hn : 0 ≤ n) (hn2 : n ≤ 9223372036854775807) (Bc : Blk h c (curL n x false b false) T)  :
    Cl Tryz.prog χ 64 #[.pointer (some ⟨c, 0, none⟩), .int .u8 2, .int .i64 ge, .int .i64 lt] h
      (fun r h' => r = .tuple #[.bool false, .bool (false)] ∧ Blk h' c (curL n x false b false) T ∧ Keep [c] h h') := by
  refine zah Tryz.func64 rfl rfl rfl ?_
  have K : Keep [c] h h := Keep.refl _ _
  refine rG <| rA rfl rfl <| rA rfl rfl <| rN <| tr_seq <| rG <| rM rfl rfl <| rN <| zal <| tr_seq <| rG <| rs_v (v_eq rfl rfl) rfl <| rA rfl rfl <| rN <| zaf rfl ?_
  refine tr_reg <| rs_v (v_eq rfl rfl) rfl <| rA rfl rfl <| rN <| zaf rfl ?_
  refine rG <| rs_v (v_eq rfl rfl) rfl <| rA rfl rfl <| rN <| zaf rfl ?_
  refine rG <| rs_v (v_eq rfl rfl) rfl <| rA rfl rfl <| rN <| zaf rfl ?_
  refine rG <| rs_v (v_eq rfl rfl) rfl <| rA rfl rfl <| rN <| zax rfl ?_
  refine tr_seq <| rG <| rM rfl rfl <| rC rfl rfl <| rF zbg rfl rfl <| rs_v (v_load zav rfl (by exact Bc.cell _ rfl)) rfl ?_
  refine rs_v (v_not rfl) rfl <| rM rfl rfl <| rs_gv rfl rfl (v_move rfl) rfl <| rs_gv rfl rfl (zad rfl) rfl ?_
  refine rs_gv rfl rfl (zac zet rfl) rfl ?_
  refine rs_gv rfl rfl (v_load zav rfl (by exact Bc.cell _ rfl)) rfl ?_
  refine rs_gv rfl rfl (v_not rfl) rfl ?_
  refine rs_v (zbd rfl rfl) rfl ?_
  refine rN <| zax rfl ?_
  refine rG <| rA rfl rfl <| rA rfl rfl <| rN <| tr_ret <| zaw <| zbs <| zaw <| q_ret (zfj rfl rfl rfl) ?_
  refine ⟨rfl, ?_, K⟩
  first | exact Bc | (simp [putRow, Value.cells, curL] at Bc ⊢; exact Bc)
theorem c_Step_3f (χ : Chi) (h : Heap) (c : Nat) (n x ge lt : Int) (b a : Bool) (T : TypeId) (hn : 0 ≤ n) (hn2 : n ≤ 9223372036854775807) (Bc : Blk h c (curL n x true b a) T) (hx : 0 ≤ x) (hx2 : x ≤ n) :
    Cl Tryz.prog χ 64 #[.pointer (some ⟨c, 0, none⟩), .int .u8 3, .int .i64 ge, .int .i64 lt] h
      (fun r h' => r = .tuple #[.bool true, .bool (inR (x - 1) n)] ∧ Blk h' c (curL n (x - 1) (inR (x - 1) n) (!inR (x - 1) n && false) (!inR (x - 1) n && !false)) T ∧ Keep [c] h h') := by
  refine zah Tryz.func64 rfl rfl rfl ?_
  have K : Keep [c] h h := Keep.refl _ _
  refine rG <| rA rfl rfl <| rA rfl rfl <| rN <| tr_seq <| rG <| rM rfl rfl <| rN <| zal <| tr_seq <| rG <| rs_v (v_eq rfl rfl) rfl <| rA rfl rfl <| rN <| zaf rfl ?_
  refine tr_reg <| rs_v (v_eq rfl rfl) rfl <| rA rfl rfl <| rN <| zaf rfl ?_
  refine rG <| rs_v (v_eq rfl rfl) rfl <| rA rfl rfl <| rN <| zaf rfl ?_
  refine rG <| rs_v (v_eq rfl rfl) rfl <| rA rfl rfl <| rN <| zaf rfl ?_
  refine rG <| rs_v (v_eq rfl rfl) rfl <| rA rfl rfl <| rN <| zaf rfl ?_
  refine rG <| rs_v (v_eq rfl rfl) rfl <| rA rfl rfl <| rN <| zax rfl ?_
  refine tr_seq <| rG <| rM rfl rfl <| rC rfl rfl <| rF zbg rfl rfl <| rs_v (v_load zav rfl (by exact Bc.cell _ rfl)) rfl ?_
  refine rs_v (v_not rfl) rfl <| rM rfl rfl <| rs_gs rfl rfl rfl rfl <| rs_gs rfl rfl rfl rfl <| rs_gs rfl rfl rfl rfl <| rs_gs rfl rfl rfl rfl <| rs_gs rfl rfl rfl rfl <| rs_v (zar rfl rfl) rfl ?_
  refine rN <| zaf rfl ?_
  refine zai <| q_thn <| tr_reg <| rM rfl rfl <| rM rfl rfl <| rC rfl rfl <| rF zdg rfl rfl <| rs_v (v_load zbx rfl (by exact Bc.cell _ rfl)) rfl ?_
  refine rs_v (v_sub rfl rfl (by omega) (by omega)) rfl ?_
  refine rs_w (w_call (vs := [_, _, _]) zci rfl ⟨rfl, rfl, rfl, trivial⟩ (zgt χ _ c n (x - 1) x true b a false false T Bc)) rfl ?_
  rintro _ h1 ⟨rfl, Bc, K1⟩
  have K := K.new1 K1 (by left; simp); have Z1 := K1.1
  refine rs_nil <| zbc <| q_thn <| tr_seq ?_
  refine zbb (by kernel_rfl) (by kernel_rfl) ?_
  refine rq_v (v_move rfl) <| rq_v (zad rfl) <| rq_v (zac zbg rfl) <| rq_v (v_load zav rfl (by exact Bc.cell _ rfl)) ?_
  refine rq_v (zcs rfl) <| rq_v (zcs rfl) ?_
  refine rm_end ?_; simp only [endM, hypF, ofE, argE]
  refine q_thn <| tr_ret <| q_ret (zfj rfl rfl rfl) ?_
  refine ⟨rfl, ?_, K⟩
  first | exact Bc | (simp [putRow, Value.cells, curL] at Bc ⊢; exact Bc)
theorem c_Step_3b (χ : Chi) (h : Heap) (c : Nat) (n x ge lt : Int) (a : Bool) (T : TypeId) (hn : 0 ≤ n) (hn2 : n ≤ 9223372036854775807) (Bc : Blk h c (curL n x false true a) T) (hx : 0 ≤ x) (hx2 : x ≤ n) :
    Cl Tryz.prog χ 64 #[.pointer (some ⟨c, 0, none⟩), .int .u8 3, .int .i64 ge, .int .i64 lt] h
      (fun r h' => r = .tuple #[.bool true, .bool (inR (x - 1) n)] ∧ Blk h' c (curL n (x - 1) (inR (x - 1) n) (!inR (x - 1) n && false) (!inR (x - 1) n && !false)) T ∧ Keep [c] h h') := by
  refine zah Tryz.func64 rfl rfl rfl ?_
  have K : Keep [c] h h := Keep.refl _ _
  refine rG <| rA rfl rfl <| rA rfl rfl <| rN <| tr_seq <| rG <| rM rfl rfl <| rN <| zal <| tr_seq <| rG <| rs_v (v_eq rfl rfl) rfl <| rA rfl rfl <| rN <| zaf rfl ?_
  refine tr_reg <| rs_v (v_eq rfl rfl) rfl <| rA rfl rfl <| rN <| zaf rfl ?_
  refine rG <| rs_v (v_eq rfl rfl) rfl <| rA rfl rfl <| rN <| zaf rfl ?_
  refine rG <| rs_v (v_eq rfl rfl) rfl <| rA rfl rfl <| rN <| zaf rfl ?_
  refine rG <| rs_v (v_eq rfl rfl) rfl <| rA rfl rfl <| rN <| zaf rfl ?_
  refine rG <| rs_v (v_eq rfl rfl) rfl <| rA rfl rfl <| rN <| zax rfl ?_
  refine tr_seq <| rG <| rM rfl rfl <| rC rfl rfl <| rF zbg rfl rfl <| rs_v (v_load zav rfl (by exact Bc.cell _ rfl)) rfl ?_
  refine rs_v (v_not rfl) rfl <| rM rfl rfl <| rs_gv rfl rfl (v_move rfl) rfl <| rs_gv rfl rfl (zad rfl) rfl ?_
  refine rs_gv rfl rfl (zac zes rfl) rfl ?_
  refine rs_gv rfl rfl (v_load zav rfl (by exact Bc.cell _ rfl)) rfl ?_
  refine rs_gv rfl rfl (v_not rfl) rfl ?_
  refine rs_v (zbd rfl rfl) rfl ?_
  refine rN <| zaf rfl ?_
  refine zai <| q_thn <| tr_reg <| rM rfl rfl <| rM rfl rfl <| rC rfl rfl <| rF zdg rfl rfl <| rs_v (v_load zbx rfl (by exact Bc.cell _ rfl)) rfl ?_
  refine rs_v (v_sub rfl rfl (by omega) (by omega)) rfl ?_
  refine rs_w (w_call (vs := [_, _, _]) zci rfl ⟨rfl, rfl, rfl, trivial⟩ (zgt χ _ c n (x - 1) x false true a false false T Bc)) rfl ?_
  rintro _ h1 ⟨rfl, Bc, K1⟩
  have K := K.new1 K1 (by left; simp); have Z1 := K1.1
  refine rs_nil <| zbc <| q_thn <| tr_seq ?_
  refine zbb (by kernel_rfl) (by kernel_rfl) ?_
  refine rq_v (v_move rfl) <| rq_v (zad rfl) <| rq_v (zac zbg rfl) <| rq_v (v_load zav rfl (by exact Bc.cell _ rfl)) ?_
  refine rq_v (zcs rfl) <| rq_v (zcs rfl) ?_
  refine rm_end ?_; simp only [endM, hypF, ofE, argE]
  refine q_thn <| tr_ret <| q_ret (zfj rfl rfl rfl) ?_
  refine ⟨rfl, ?_, K⟩
  first | exact Bc | (simp [putRow, Value.cells, curL] at Bc ⊢; exact Bc)
theorem c_Step_3n (χ : Chi) (h : Heap) (c : Nat) (n x ge lt : Int) (a : Bool) (T : TypeId) (hn : 0 ≤ n) (hn2 : n ≤ 9223372036854775807) (Bc : Blk h c (curL n x false false a) T)  :
    Cl Tryz.prog χ 64 #[.pointer (some ⟨c, 0, none⟩), .int .u8 3, .int .i64 ge, .int .i64 lt] h
      (fun r h' => r = .tuple #[.bool false, .bool (false)] ∧ Blk h' c (curL n x false false a) T ∧ Keep [c] h h') := by
  refine zah Tryz.func64 rfl rfl rfl ?_
  have K : Keep [c] h h := Keep.refl _ _
  refine rG <| rA rfl rfl <| rA rfl rfl <| rN <| tr_seq <| rG <| rM rfl rfl <| rN <| zal <| tr_seq <| rG <| rs_v (v_eq rfl rfl) rfl <| rA rfl rfl <| rN <| zaf rfl ?_
  refine tr_reg <| rs_v (v_eq rfl rfl) rfl <| rA rfl rfl <| rN <| zaf rfl ?_
  refine rG <| rs_v (v_eq rfl rfl) rfl <| rA rfl rfl <| rN <| zaf rfl ?_
  refine rG <| rs_v (v_eq rfl rfl) rfl <| rA rfl rfl <| rN <| zaf rfl ?_
  refine rG <| rs_v (v_eq rfl rfl) rfl <| rA rfl rfl <| rN <| zaf rfl ?_
  refine rG <| rs_v (v_eq rfl rfl) rfl <| rA rfl rfl <| rN <| zax rfl ?_
  refine tr_seq <| rG <| rM rfl rfl <| rC rfl rfl <| rF zbg rfl rfl <| rs_v (v_load zav rfl (by exact Bc.cell _ rfl)) rfl ?_
  refine rs_v (v_not rfl) rfl <| rM rfl rfl <| rs_gv rfl rfl (v_move rfl) rfl <| rs_gv rfl rfl (zad rfl) rfl ?_
  refine rs_gv rfl rfl (zac zes rfl) rfl ?_
  refine rs_gv rfl rfl (v_load zav rfl (by exact Bc.cell _ rfl)) rfl ?_
  refine rs_gv rfl rfl (v_not rfl) rfl ?_
  refine rs_v (zbd rfl rfl) rfl ?_
  refine rN <| zax rfl ?_
  refine rG <| rA rfl rfl <| rA rfl rfl <| rN <| tr_ret <| zaw <| zbs <| zaw <| q_ret (zfj rfl rfl rfl) ?_
  refine ⟨rfl, ?_, K⟩
  first | exact Bc | (simp [putRow, Value.cells, curL] at Bc ⊢; exact Bc)
theorem c_Step_x (χ : Chi) (h : Heap) (c : Nat) (n x ge lt : Int) (f b a : Bool) (T : TypeId) (hn : 0 ≤ n) (hn2 : n ≤ 9223372036854775807) (Bc : Blk h c (curL n x f b a) T) (op : Int) (o0 : decide (op = 0) = false) (o1 : decide (op = 1) = false) (o2 : decide (op = 2) = false) (o3 : decide (op = 3) = false) (o4 : decide (op = 4) = false) (o5 : decide (op = 5) = false) :
    Cl Tryz.prog χ 64 #[.pointer (some ⟨c, 0, none⟩), .int .u8 op, .int .i64 ge, .int .i64 lt] h
      (fun r h' => r = .tuple #[.bool false, .bool (false)] ∧ Blk h' c (curL n x f b a) T ∧ Keep [c] h h') := by
  refine zah Tryz.func64 rfl rfl rfl ?_
  have K : Keep [c] h h := Keep.refl _ _
  refine rG <| rA rfl rfl <| rA rfl rfl <| rN <| tr_seq <| rG <| rM rfl rfl <| rN <| zal <| tr_seq <| rG <| rs_v (v_eq rfl rfl) rfl <| rA rfl rfl <| rN <| zaf (lkb o0) ?_
  refine tr_reg <| rs_v (v_eq rfl rfl) rfl <| rA rfl rfl <| rN <| zaf (lkb o1) ?_
  refine rG <| rs_v (v_eq rfl rfl) rfl <| rA rfl rfl <| rN <| zaf (lkb o4) ?_
  refine rG <| rs_v (v_eq rfl rfl) rfl <| rA rfl rfl <| rN <| zaf (lkb o5) ?_
  refine rG <| rs_v (v_eq rfl rfl) rfl <| rA rfl rfl <| rN <| zaf (lkb o2) ?_
  refine rG <| rs_v (v_eq rfl rfl) rfl <| rA rfl rfl <| rN <| zaf (lkb o3) ?_
  refine rG <| rA rfl rfl <| rA rfl rfl <| rN <| tr_ret <| zbs <| zaw <| q_ret (zfj rfl rfl rfl) ?_
  refine ⟨rfl, ?_, K⟩
  first | exact Bc | (simp [putRow, Value.cells, curL] at Bc ⊢; exact Bc)
def posX (n : Int) : Pos → Int → Prop
  | .pt j, x => x = j ∧ x < n
  | .behind, x => x = n
  | .ahead, x => x = -1
  | .nowhere, _ => True
theorem zmu {x n : Int} (h : 0 ≤ x) (h2 : x < n) : inR x n = true := by simp only [inR, decide_eq_true h, decide_eq_true h2]; rfl
theorem inR_no {x n : Int} (h : ¬ (0 ≤ x ∧ x < n)) : inR x n = false := by
  simp only [inR]
  by_cases h1 : 0 ≤ x
  · have h2 : ¬ x < n := fun h3 => h ⟨h1, h3⟩
    simp only [decide_eq_true h1, decide_eq_false h2]; rfl
  · simp only [decide_eq_false h1]; rfl
theorem c_toKeys (χ : Chi) (h : Heap) (A : Nat → Prop) (hA : Low A h) (kv : Value) (ks : List KeyD) (hk : RKeys A h kv ks) (hn : ks.length ≤ 100000) :
    Cl Tryz.prog χ 112 #[kv] h (fun r h' => RKeys (Up A h h') h' r ks ∧ Keep [] h h') := by
  obtain ⟨hlen, a, c, rfl, hx⟩ := hk.form
  refine zah Tryz.func112 rfl rfl rfl ?_
  have K : Keep [] h h := Keep.refl _ _
  refine rG <| rA rfl rfl <| rN <| rG <| rA rfl rfl <| rN <| tr_seq <| rG <| rM rfl rfl <| rs_v (v_len zbq rfl) rfl ?_
  refine rM rfl rfl <| rN <| zal ?_
  refine zdd (fun m E h' => ∃ k v n, k ≤ ks.length ∧ m = ks.length - k ∧ E = [(3, v), (6, .slice a ks.length c), (7, .int .i64 (ks.length : Int)), (8, .int .i64 (k : Int))] ∧ Keep [] h h' ∧ n = (ks.take k).length ∧ OutR A h h' h.size 254 3 cKey v n (ks.take k)) ks.length [(3, _), (6, _), (7, _), (8, _)] ⟨rfl, rfl, rfl, rfl, trivial⟩ ⟨0, _, 0, Nat.zero_le _, rfl, rfl, K, rfl, OutR.nil _ _ _ _ _ _ _⟩ ?_
  rintro m E hL1 ⟨k, v, n, hk, rfl, rfl, K, hn, hout⟩
  have hout0 := hout
  obtain ⟨xs, F, O, hrow, hF⟩ := hout
  have hob := own_ne O; have KL := Keep.refl [] hL1
  refine rG <| rs_v (v_lt rfl rfl) rfl <| rN <| tr_seq ?_
  refine tr_ifn rfl (fun hif => ?_) (fun hif => ?_)
  · -- no
    simp only [dT, dF] at hif
    have hkk : k = ks.length := by omega
    subst hkk
    refine zda <| zcb <| zcq <| zcf <| q_thn <| rG <| rM rfl rfl <| rA rfl rfl <| rN <| tr_ret <| q_ret (zap rfl rfl) ?_
    rw [List.take_length] at hout0 hn
    exact ⟨hout0.fin zmk hn (Nat.le_refl _) cKey_r, K⟩
  -- yes
  simp only [dT, dF] at hif
  rcases hx with rfl | ⟨b, o, rfl, hAb, hR⟩
  · simp at hif; omega
  obtain ⟨x, hsk⟩ := ex_get (L := ks) (k := k) (by omega)
  have hkl : k < ks.length := (List.getElem?_eq_some_iff.1 hsk).1
  have KL0 := K.1
  have hcells := K.cells (by simp) (hR k x hsk)
  have hnk : n = k := by rw [hn, List.length_take]; omega
  refine zai <| q_thn <| tr_seq <| zal <| rG <| rs_v (zbv zbq zcp rfl rfl (by omega)) rfl ?_
  refine rs_v (zay (vs := [_, _, _]) zdv rfl (by exact hcells)) rfl ?_
  refine rs_w (w_new zfy) rfl ?_
  rintro _ h2 ⟨rfl, B2, K2, Z2⟩
  have O := O.keep2 K2 (fun x hm => by have := hob x hm; simp; try omega)
  have S2 := K.1; have K := K.new0 K2; have KL := KL.new0 K2
  refine rs_w0 (w_put zcp rfl rfl rfl rfl B2 rfl) ?_
  rintro _ h3 ⟨B3, K3⟩
  have O := O.keep2 K3 (fun x hm => by have := hob x hm; simp; try omega)
  have B2 := B3; have K := K.new1 K3 (by first | (right; omega) | (left; simp; done)); have Z3 := K3.1; have KL := KL.new1 K3 (.inr (by omega))
  refine rN <| tr_reg <| rM rfl rfl <| rs_v (zay (vs := [_, _, _]) zdv rfl (by exact B2.sub _ 3 rfl)) rfl ?_
  refine rs_w (w_new1 zey zgf zhn rfl rfl rfl rfl rfl) rfl ?_
  rintro _ h4 ⟨rfl, B4, K4, Z4⟩
  have B2 := K4.blk (by simp) B2
  have O := O.keep2 K4 (fun x hm => by have := hob x hm; simp; try omega)
  have S4 := K.1; have K := K.new0 K4; have KL := KL.new0 K4
  refine rs_w (w_app1 zey znx rfl rfl rfl O rfl rfl B4 rfl (by omega) (by omega) (by omega)) rfl ?_
  rintro v5 h5 ⟨O5, K5, N5, F5⟩
  have K := K.newX K5 (fun x hm => .inr (by have := hob x hm; omega)); have Z5 := K5.1
  have B2 := K5.blk (fun hm => by first | (have := hob _ hm; omega) | exact absurd rfl (hnb _ hm)) B2
  have B4 := K5.blk (fun hm => by first | (have := hob _ hm; omega) | exact absurd rfl (hnb _ hm)) B4
  refine rA rfl rfl <| rs_nil <| zbc <| q_thn <| tr_reg <| rs_v (v_add rfl rfl (by omega) (by omega)) rfl ?_
  refine rM rfl rfl <| rs_nil ?_
  refine q_lp (ks.length - (k + 1)) [(3, _), (6, _), (7, _), (8, _)] (by omega) ⟨rfl, rfl, rfl, rfl, trivial⟩ ⟨k + 1, v5, n + 1, by omega, rfl, rfl, K, ?_, ?_⟩
  · rw [zbu hsk]; rw [List.length_append, ← hn]; rfl
  · rw [zbu hsk]
    exact OutR.snoc zmk hA (by omega) hob hrow hF KL0 KL O5 K5 F5 rfl (show _ = _ from rfl)
theorem c_ofKeys (χ : Chi) (h : Heap) (A : Nat → Prop) (hA : Low A h) (kv : Value) (ks : List KeyD) (hk : RKeys A h kv ks) (hn : ks.length ≤ 100000) :
    Cl Tryz.prog χ 66 #[kv] h (fun r h' => RKeys (Up A h h') h' r ks ∧ Keep [] h h') := by
  obtain ⟨hlen, a, c, rfl, hx⟩ := hk.form
  refine zah Tryz.func66 rfl rfl rfl ?_
  have K : Keep [] h h := Keep.refl _ _
  refine rG <| rA rfl rfl <| rN <| rG <| rA rfl rfl <| rN <| tr_seq <| rG <| rM rfl rfl <| rs_v (v_len zey rfl) rfl ?_
  refine rM rfl rfl <| rN <| zal ?_
  refine zdd (fun m E h' => ∃ k v n, k ≤ ks.length ∧ m = ks.length - k ∧ E = [(3, v), (6, .slice a ks.length c), (7, .int .i64 (ks.length : Int)), (8, .int .i64 (k : Int))] ∧ Keep [] h h' ∧ n = (ks.take k).length ∧ OutR A h h' h.size 73 3 cKey v n (ks.take k)) ks.length [(3, _), (6, _), (7, _), (8, _)] ⟨rfl, rfl, rfl, rfl, trivial⟩ ⟨0, _, 0, Nat.zero_le _, rfl, rfl, K, rfl, OutR.nil _ _ _ _ _ _ _⟩ ?_
  rintro m E hL1 ⟨k, v, n, hk, rfl, rfl, K, hn, hout⟩
  have hout0 := hout
  obtain ⟨xs, F, O, hrow, hF⟩ := hout
  have hob := own_ne O; have KL := Keep.refl [] hL1
  refine rG <| rs_v (v_lt rfl rfl) rfl <| rN <| tr_seq ?_
  refine tr_ifn rfl (fun hif => ?_) (fun hif => ?_)
  · -- no
    simp only [dT, dF] at hif
    have hkk : k = ks.length := by omega
    subst hkk
    refine zda <| zcb <| zcq <| zcf <| q_thn <| rG <| rM rfl rfl <| rA rfl rfl <| rN <| tr_ret <| q_ret (zap rfl rfl) ?_
    rw [List.take_length] at hout0 hn
    exact ⟨hout0.fin zmk hn (Nat.le_refl _) cKey_r, K⟩
  -- yes
  simp only [dT, dF] at hif
  rcases hx with rfl | ⟨b, o, rfl, hAb, hR⟩
  · simp at hif; omega
  obtain ⟨x, hsk⟩ := ex_get (L := ks) (k := k) (by omega)
  have hkl : k < ks.length := (List.getElem?_eq_some_iff.1 hsk).1
  have KL0 := K.1
  have hcells := K.cells (by simp) (hR k x hsk)
  have hnk : n = k := by rw [hn, List.length_take]; omega
  refine zai <| q_thn <| tr_seq <| zal <| rG <| rs_v (zbv zey zgf rfl rfl (by omega)) rfl ?_
  refine rs_v (zay (vs := [_, _, _]) zkj rfl (by exact hcells)) rfl ?_
  refine rs_w (w_new zhn) rfl ?_
  rintro _ h2 ⟨rfl, B2, K2, Z2⟩
  have O := O.keep2 K2 (fun x hm => by have := hob x hm; simp; try omega)
  have S2 := K.1; have K := K.new0 K2; have KL := KL.new0 K2
  refine rs_w0 (w_put zgf rfl rfl rfl rfl B2 rfl) ?_
  rintro _ h3 ⟨B3, K3⟩
  have O := O.keep2 K3 (fun x hm => by have := hob x hm; simp; try omega)
  have B2 := B3; have K := K.new1 K3 (by first | (right; omega) | (left; simp; done)); have Z3 := K3.1; have KL := KL.new1 K3 (.inr (by omega))
  refine rN <| tr_reg <| rM rfl rfl <| rs_v (zay (vs := [_, _, _]) zkj rfl (by exact B2.sub _ 3 rfl)) rfl ?_
  refine rs_w (w_new1 zbq zcp zfy rfl rfl rfl rfl rfl) rfl ?_
  rintro _ h4 ⟨rfl, B4, K4, Z4⟩
  have B2 := K4.blk (by simp) B2
  have O := O.keep2 K4 (fun x hm => by have := hob x hm; simp; try omega)
  have S4 := K.1; have K := K.new0 K4; have KL := KL.new0 K4
  refine rs_w (w_app1 zbq zkl rfl rfl rfl O rfl rfl B4 rfl (by omega) (by omega) (by omega)) rfl ?_
  rintro v5 h5 ⟨O5, K5, N5, F5⟩
  have K := K.newX K5 (fun x hm => .inr (by have := hob x hm; omega)); have Z5 := K5.1
  have B2 := K5.blk (fun hm => by first | (have := hob _ hm; omega) | exact absurd rfl (hnb _ hm)) B2
  have B4 := K5.blk (fun hm => by first | (have := hob _ hm; omega) | exact absurd rfl (hnb _ hm)) B4
  refine rA rfl rfl <| rs_nil <| zbc <| q_thn <| tr_reg <| rs_v (v_add rfl rfl (by omega) (by omega)) rfl ?_
  refine rM rfl rfl <| rs_nil ?_
  refine q_lp (ks.length - (k + 1)) [(3, _), (6, _), (7, _), (8, _)] (by omega) ⟨rfl, rfl, rfl, rfl, trivial⟩ ⟨k + 1, v5, n + 1, by omega, rfl, rfl, K, ?_, ?_⟩
  · rw [zbu hsk]; rw [List.length_append, ← hn]; rfl
  · rw [zbu hsk]
    exact OutR.snoc zmk hA (by omega) hob hrow hF KL0 KL O5 K5 F5 rfl (show _ = _ from rfl)
theorem c_toSteps (χ : Chi) (h : Heap) (A : Nat → Prop) (hA : Low A h) (kv : Value) (ks : List StepD) (hk : RSteps A h kv ks) (hn : ks.length ≤ 100000) :
    Cl Tryz.prog χ 18 #[kv] h (fun r h' => RSteps (Up A h h') h' r ks ∧ Keep [] h h') := by
  obtain ⟨hlen, a, c, rfl, hx⟩ := hk.form
  refine zah Tryz.func18 rfl rfl rfl ?_
  have K : Keep [] h h := Keep.refl _ _
  refine rG <| rA rfl rfl <| rN <| rG <| rA rfl rfl <| rN <| tr_seq <| rG <| rM rfl rfl <| rs_v (v_len u_sl_spec_Step rfl) rfl ?_
  refine rM rfl rfl <| rN <| zal ?_
  refine zdd (fun m E h' => ∃ k v n, k ≤ ks.length ∧ m = ks.length - k ∧ E = [(3, v), (6, .slice a ks.length c), (7, .int .i64 (ks.length : Int)), (8, .int .i64 (k : Int))] ∧ Keep [] h h' ∧ n = (ks.take k).length ∧ OutR A h h' h.size 90 2 cStep v n (ks.take k)) ks.length [(3, _), (6, _), (7, _), (8, _)] ⟨rfl, rfl, rfl, rfl, trivial⟩ ⟨0, _, 0, Nat.zero_le _, rfl, rfl, K, rfl, OutR.nil _ _ _ _ _ _ _⟩ ?_
  rintro m E hL1 ⟨k, v, n, hk, rfl, rfl, K, hn, hout⟩
  have hout0 := hout
  obtain ⟨xs, F, O, hrow, hF⟩ := hout
  have hob := own_ne O; have KL := Keep.refl [] hL1
  refine rG <| rs_v (v_lt rfl rfl) rfl <| rN <| tr_seq ?_
  refine tr_ifn rfl (fun hif => ?_) (fun hif => ?_)
  · -- no
    simp only [dT, dF] at hif
    have hkk : k = ks.length := by omega
    subst hkk
    refine zda <| zcb <| zcq <| zcf <| q_thn <| rG <| rM rfl rfl <| rA rfl rfl <| rN <| tr_ret <| q_ret (zap rfl rfl) ?_
    rw [List.take_length] at hout0 hn
    exact ⟨hout0.fin cStep_st hn (Nat.le_refl _) cStep_r, K⟩
  -- yes
  simp only [dT, dF] at hif
  rcases hx with rfl | ⟨b, o, rfl, hAb, hR⟩
  · simp at hif; omega
  obtain ⟨x, hsk⟩ := ex_get (L := ks) (k := k) (by omega)
  have hkl : k < ks.length := (List.getElem?_eq_some_iff.1 hsk).1
  have KL0 := K.1
  have hcells := K.cells (by simp) (hR k x hsk)
  have hnk : n = k := by rw [hn, List.length_take]; omega
  refine zai <| q_thn <| tr_seq <| zal <| rG <| rs_v (zbv u_sl_spec_Step zid rfl rfl (by omega)) rfl ?_
  refine rs_v (zay (vs := [_, _]) ziv rfl (by exact hcells)) rfl ?_
  refine rs_w (w_new zmq) rfl ?_
  rintro _ h2 ⟨rfl, B2, K2, Z2⟩
  have O := O.keep2 K2 (fun x hm => by have := hob x hm; simp; try omega)
  have S2 := K.1; have K := K.new0 K2; have KL := KL.new0 K2
  refine rs_w0 (w_put zid rfl rfl rfl rfl B2 rfl) ?_
  rintro _ h3 ⟨B3, K3⟩
  have O := O.keep2 K3 (fun x hm => by have := hob x hm; simp; try omega)
  have B2 := B3; have K := K.new1 K3 (by first | (right; omega) | (left; simp; done)); have Z3 := K3.1; have KL := KL.new1 K3 (.inr (by omega))
  refine rN <| tr_reg <| rM rfl rfl <| rs_v (zay (vs := [_, _]) ziv rfl (by exact B2.sub _ 2 rfl)) rfl ?_
  refine rs_w (w_new1 zgx zje zke rfl rfl rfl rfl rfl) rfl ?_
  rintro _ h4 ⟨rfl, B4, K4, Z4⟩
  have B2 := K4.blk (by simp) B2
  have O := O.keep2 K4 (fun x hm => by have := hob x hm; simp; try omega)
  have S4 := K.1; have K := K.new0 K4; have KL := KL.new0 K4
  refine rs_w (w_app1 zgx zqa rfl rfl rfl O rfl rfl B4 rfl (by omega) (by omega) (by omega)) rfl ?_
  rintro v5 h5 ⟨O5, K5, N5, F5⟩
  have K := K.newX K5 (fun x hm => .inr (by have := hob x hm; omega)); have Z5 := K5.1
  have B2 := K5.blk (fun hm => by first | (have := hob _ hm; omega) | exact absurd rfl (hnb _ hm)) B2
  have B4 := K5.blk (fun hm => by first | (have := hob _ hm; omega) | exact absurd rfl (hnb _ hm)) B4
  refine rA rfl rfl <| rs_nil <| zbc <| q_thn <| tr_reg <| rs_v (v_add rfl rfl (by omega) (by omega)) rfl ?_
  refine rM rfl rfl <| rs_nil ?_
  refine q_lp (ks.length - (k + 1)) [(3, _), (6, _), (7, _), (8, _)] (by omega) ⟨rfl, rfl, rfl, rfl, trivial⟩ ⟨k + 1, v5, n + 1, by omega, rfl, rfl, K, ?_, ?_⟩
  · rw [zbu hsk]; rw [List.length_append, ← hn]; rfl
  · rw [zbu hsk]
    exact OutR.snoc cStep_st hA (by omega) hob hrow hF KL0 KL O5 K5 F5 rfl (show _ = _ from rfl)
theorem upk {A : Nat → Prop} {h h1 h2 : Heap} {v : Value} {ks : List KeyD} (hA : Low A h) (k0 : h.size ≤ h1.size) (hr : RKeys (Up A h h1) h1 v ks) (K : Keep [] h1 h2) : RKeys (Up A h h2) h2 v ks :=
  (hr.stab (K.st (hA.up k0))).mono (Up.grow K.1)
theorem c_toSpan (χ : Chi) (h : Heap) (A : Nat → Prop) (hA : Low A h) (s : SpanD) (kv : Value) (hks : RKeys A h kv s.ks) (hn : s.ks.length ≤ 100000) :
    Cl Tryz.prog χ 61 #[.agg #[.string s.s, .string s.e, kv]] h (fun r h' => (∃ kv', r = .agg #[.string s.s, .string s.e, kv'] ∧ RKeys (Up A h h') h' kv' s.ks) ∧ Keep [] h h') := by
  obtain ⟨ka, kc, rfl⟩ := hks.form2
  refine zah Tryz.func61 rfl rfl rfl ?_
  have K : Keep [] h h := Keep.refl _ _
  refine rG <| rs_w (zbw rfl) rfl ?_
  rintro _ h1 ⟨rfl, B1, K1, Z1⟩
  have S1 := K.1; have K := K.new0 K1
  refine rs_w (w_new zha) rfl ?_
  rintro _ h2 ⟨rfl, B2, K2, Z2⟩
  have B1 := K2.blk (by simp) B1
  have S2 := K.1; have K := K.new0 K2
  refine rN <| tr_seq ?_
  have S0 : h.size ≤ h2.size := K.1
  have hA2 := hA.mono S0
  refine zdi [(true, 8), (false, 1)] _ (by kernel_rfl) (by kernel_rfl) (by kernel_rfl) ?_
  refine rx_any (Keep []) (zae _) ?_
  refine rm_v (zae _) (fun h' hk => zac zeu rfl) ?_
  refine rm_v (zae _) (fun h' hk => v_load zbp rfl (Blk.cell (hk.blk (by simp) B1) _ rfl)) ?_
  refine rm_v (zae _) (fun h' hk => zac zfg rfl) ?_
  refine rm_v (zae _) (fun h' hk => v_load zbp rfl (Blk.cell (hk.blk (by simp) B1) _ rfl)) ?_
  refine rm_v (zae _) (fun h' hk => zac zew rfl) ?_
  refine rm_v (zae _) (fun h' hk => v_load zed rfl (Blk.cell (hk.blk (by simp) B1) _ rfl)) ?_
  refine rm_w (fun v h' => RKeys (Up A h2 h') h' v s.ks) (fun v _ _ k1 k2 hr => upk hA2 k1.1 hr k2) (fun h' hk => OpW.mono (w_call (vs := [_]) zuy rfl ⟨rfl, trivial⟩ (c_toKeys χ h' A (hA.mono (K.new0 hk).1) _ s.ks (hks.stab ((K.new0 hk).st hA)) hn)) (fun v h'' hv => ⟨hv.2, hv.1.mono (Up.trans2 hk.1 (Nat.le_refl _))⟩)) ?_
  refine rm_o 9 (fun v h' => ∃ kv', v = .agg #[.string s.s, .string s.e, kv'] ∧ RKeys (Up A h2 h') h' kv' s.ks) rfl (by kernel_rfl) (fun v _ _ k1 k2 hr => by obtain ⟨kv', e, hr⟩ := hr; exact ⟨kv', e, upk hA2 k1.1 hr k2⟩) (fun u h' hk hu => by
    obtain ⟨a, c, rfl⟩ := hu.form2
    exact (zjp rfl rfl rfl (zjj _ _ _ _ _)).w.mono (fun _ _ e => by obtain ⟨e1, e2⟩ := e; subst e1; subst e2; exact ⟨Keep.refl _ _, _, rfl, hu⟩)) ?_
  refine rm_end ?_; intro ha Ka; simp only [endM, hypF, ofE, argE, List.nil_append]
  intro v10 hv10 v9 hv9
  obtain ⟨kv', rfl, hkv⟩ := hv10
  obtain ⟨ka', kc', rfl⟩ := hkv.form2
  have B2 := Ka.blk (by simp) B2
  have K := K.new0 Ka; have Za := Ka.1
  refine rx_seq <| rs_w0 (w_put zfp rfl rfl rfl rfl B2 rfl) ?_
  rintro _ h3 ⟨B3, K3⟩
  have K := K.new1 K3 (.inr (by omega))
  refine rs_nil <| q_con ?_
  refine rx_nil ?_
  refine q_thn <| tr_ret <| q_ret (zjq (vs := [_, _, _]) rfl rfl zgz (by exact B3.sub 0 3 rfl)) ?_
  have hs : Stab (Up A h2 ha) ha h3 := K3.stab fun b hb => ⟨hA2.up Za b hb, by
    rcases hb with hb | hb
    · have := hA b hb; simp; omega
    · simp; omega⟩
  exact ⟨⟨_, rfl, (hkv.stab hs).mono (Up.trans2 S0 K3.1)⟩, K⟩
theorem c_ofSpan (χ : Chi) (h : Heap) (A : Nat → Prop) (hA : Low A h) (s : SpanD) (kv : Value) (hks : RKeys A h kv s.ks) (hn : s.ks.length ≤ 100000) :
    Cl Tryz.prog χ 24 #[.agg #[.string s.s, .string s.e, kv]] h (fun r h' => (∃ kv', r = .agg #[.string s.s, .string s.e, kv'] ∧ RKeys (Up A h h') h' kv' s.ks) ∧ Keep [] h h') := by
  obtain ⟨ka, kc, rfl⟩ := hks.form2
  refine zah Tryz.func24 rfl rfl rfl ?_
  have K : Keep [] h h := Keep.refl _ _
  refine rG <| rs_w (zbw rfl) rfl ?_
  rintro _ h1 ⟨rfl, B1, K1, Z1⟩
  have S1 := K.1; have K := K.new0 K1
  refine rs_w (w_new zeh) rfl ?_
  rintro _ h2 ⟨rfl, B2, K2, Z2⟩
  have B1 := K2.blk (by simp) B1
  have S2 := K.1; have K := K.new0 K2
  refine rN <| tr_seq ?_
  have S0 : h.size ≤ h2.size := K.1
  have hA2 := hA.mono S0
  refine zdi [(true, 8), (false, 1)] _ (by kernel_rfl) (by kernel_rfl) (by kernel_rfl) ?_
  refine rx_any (Keep []) (zae _) ?_
  refine rm_v (zae _) (fun h' hk => zac zps rfl) ?_
  refine rm_v (zae _) (fun h' hk => v_load zbp rfl (Blk.cell (hk.blk (by simp) B1) _ rfl)) ?_
  refine rm_v (zae _) (fun h' hk => zac zpt rfl) ?_
  refine rm_v (zae _) (fun h' hk => v_load zbp rfl (Blk.cell (hk.blk (by simp) B1) _ rfl)) ?_
  refine rm_v (zae _) (fun h' hk => zac zpu rfl) ?_
  refine rm_v (zae _) (fun h' hk => v_load zmf rfl (Blk.cell (hk.blk (by simp) B1) _ rfl)) ?_
  refine rm_w (fun v h' => RKeys (Up A h2 h') h' v s.ks) (fun v _ _ k1 k2 hr => upk hA2 k1.1 hr k2) (fun h' hk => OpW.mono (w_call (vs := [_]) zuw rfl ⟨rfl, trivial⟩ (c_ofKeys χ h' A (hA.mono (K.new0 hk).1) _ s.ks (hks.stab ((K.new0 hk).st hA)) hn)) (fun v h'' hv => ⟨hv.2, hv.1.mono (Up.trans2 hk.1 (Nat.le_refl _))⟩)) ?_
  refine rm_o 9 (fun v h' => ∃ kv', v = .agg #[.string s.s, .string s.e, kv'] ∧ RKeys (Up A h2 h') h' kv' s.ks) rfl (by kernel_rfl) (fun v _ _ k1 k2 hr => by obtain ⟨kv', e, hr⟩ := hr; exact ⟨kv', e, upk hA2 k1.1 hr k2⟩) (fun u h' hk hu => by
    obtain ⟨a, c, rfl⟩ := hu.form2
    exact (zjp rfl rfl rfl (zro _ _ _ _ _)).w.mono (fun _ _ e => by obtain ⟨e1, e2⟩ := e; subst e1; subst e2; exact ⟨Keep.refl _ _, _, rfl, hu⟩)) ?_
  refine rm_end ?_; intro ha Ka; simp only [endM, hypF, ofE, argE, List.nil_append]
  intro v10 hv10 v9 hv9
  obtain ⟨kv', rfl, hkv⟩ := hv10
  obtain ⟨ka', kc', rfl⟩ := hkv.form2
  have B2 := Ka.blk (by simp) B2
  have K := K.new0 Ka; have Za := Ka.1
  refine rx_seq <| rs_w0 (w_put zck rfl rfl rfl rfl B2 rfl) ?_
  rintro _ h3 ⟨B3, K3⟩
  have K := K.new1 K3 (.inr (by omega))
  refine rs_nil <| q_con ?_
  refine rx_nil ?_
  refine q_thn <| tr_ret <| q_ret (zjq (vs := [_, _, _]) rfl rfl zcy (by exact B3.sub 0 3 rfl)) ?_
  have hs : Stab (Up A h2 ha) ha h3 := K3.stab fun b hb => ⟨hA2.up Za b hb, by
    rcases hb with hb | hb
    · have := hA b hb; simp; omega
    · simp; omega⟩
  exact ⟨⟨_, rfl, (hkv.stab hs).mono (Up.trans2 S0 K3.1)⟩, K⟩
theorem upk3 {A : Nat → Prop} {hL h3 h4 h5 : Heap} {v : Value} {ks : List KeyD} (hA : Low A h3) (k0 : hL.size ≤ h3.size) (K4 : Keep [] h3 h4) (hr : RKeys (Up A h3 h4) h4 v ks) (K5 : Keep [] h4 h5) : RKeys (Up A hL h5) h5 v ks :=
  (hr.stab (K5.st (hA.up K4.1))).mono (Up.trans2 k0 K5.1)
theorem c_toSpans (χ : Chi) (h : Heap) (A : Nat → Prop) (hA : Low A h) (v : Value) (W : List SpanD) (hW : RSpans A h v W) (hn : W.length ≤ 100000) (hm : ∀ s, s ∈ W → s.ks.length ≤ 100000) :
    Cl Tryz.prog χ 17 #[v] h (fun r h' => RSpans (Up A h h') h' r W ∧ Keep [] h h') := by
  obtain ⟨hlen, a, c, rfl, hx⟩ := hW.form
  refine zah Tryz.func17 rfl rfl rfl ?_
  have K : Keep [] h h := Keep.refl _ _
  refine rG <| rA rfl rfl <| rN <| rG <| rA rfl rfl <| rN <| tr_seq <| rG <| rM rfl rfl <| rs_v (v_len u_sl_spec_Span rfl) rfl ?_
  refine rM rfl rfl <| rN <| zal ?_
  refine zdd (fun m E h' => ∃ k v n, k ≤ W.length ∧ m = W.length - k ∧ E = [(3, v), (6, .slice a W.length c), (7, .int .i64 (W.length : Int)), (8, .int .i64 (k : Int))] ∧ Keep [] h h' ∧ n = (W.take k).length ∧ OutR A h h' h.size 50 3 cSpan v n (W.take k)) W.length [(3, _), (6, _), (7, _), (8, _)] ⟨rfl, rfl, rfl, rfl, trivial⟩ ⟨0, _, 0, Nat.zero_le _, rfl, rfl, K, rfl, OutR.nil _ _ _ _ _ _ _⟩ ?_
  rintro m E hL1 ⟨k, v, n, hk, rfl, rfl, K, hn, hout⟩
  have hout0 := hout
  obtain ⟨xs, F, O, hrow, hF⟩ := hout
  have hob := own_ne O; have KL := Keep.refl [] hL1
  refine rG <| rs_v (v_lt rfl rfl) rfl <| rN <| tr_seq ?_
  refine tr_ifn rfl (fun hif => ?_) (fun hif => ?_)
  · -- no
    simp only [dT, dF] at hif
    have hkk : k = W.length := by omega
    subst hkk
    refine zda <| zcb <| zcq <| zcf <| q_thn <| rG <| rM rfl rfl <| rA rfl rfl <| rN <| tr_ret <| q_ret (zap rfl rfl) ?_
    rw [List.take_length] at hout0 hn
    exact ⟨hout0.fin zml hn (Nat.le_refl _) cSpan_r, K⟩
  -- yes
  simp only [dT, dF] at hif
  rcases hx with rfl | ⟨b, o, rfl, hAb, hR⟩
  · simp at hif; omega
  obtain ⟨x, hsk⟩ := ex_get (L := W) (k := k) (by omega)
  have hkl : k < W.length := (List.getElem?_eq_some_iff.1 hsk).1
  have KL0 := K.1
  obtain ⟨kv, hcc, hkx⟩ := hR k x hsk
  obtain ⟨ka, kc, rfl⟩ := hkx.form2
  have hcells := K.cells (by simp) hcc
  have hnk : n = k := by rw [hn, List.length_take]; omega
  refine zai <| q_thn <| tr_seq <| zal <| rG <| rs_v (zbv u_sl_spec_Span zck rfl rfl (by omega)) rfl ?_
  refine rs_v (zay (vs := [_, _, _]) zcy rfl (by exact hcells)) rfl ?_
  refine rs_w (w_new zeh) rfl ?_
  rintro _ h2 ⟨rfl, B2, K2, Z2⟩
  have O := O.keep2 K2 (fun x hm => by have := hob x hm; simp; try omega)
  have S2 := K.1; have K := K.new0 K2; have KL := KL.new0 K2
  refine rs_w0 (w_put zck rfl rfl rfl rfl B2 rfl) ?_
  rintro _ h3 ⟨B3, K3⟩
  have O := O.keep2 K3 (fun x hm => by have := hob x hm; simp; try omega)
  have B2 := B3; have K := K.new1 K3 (by first | (right; omega) | (left; simp; done)); have Z3 := K3.1; have KL := KL.new1 K3 (.inr (by omega))
  refine rN <| tr_reg <| rM rfl rfl <| rs_v (zay (vs := [_, _, _]) zcy rfl (by exact B2.sub _ 3 rfl)) rfl ?_
  refine rs_w (w_call (vs := [_]) zuv rfl ⟨rfl, trivial⟩ (c_toSpan χ _ A (hA.mono (by omega)) x _ (hkx.stab (K.st hA)) (hm x (List.mem_of_getElem? hsk)))) rfl ?_
  rintro _ h4 ⟨⟨kv4, rfl, hkv4⟩, K4⟩
  obtain ⟨a4, c4, rfl⟩ := hkv4.form2
  have B2 := K4.blk (by simp) B2
  have O := O.keep2 K4 (fun x hm => by have := hob x hm; simp; try omega)
  have K := K.new0 K4; have Z4 := K4.1; have KL := KL.new0 K4
  refine rs_w (w_new1 zgi zfp zha rfl rfl rfl rfl rfl) rfl ?_
  rintro _ h5 ⟨rfl, B5, K5, Z5⟩
  have B2 := K5.blk (by simp) B2
  have O := O.keep2 K5 (fun x hm => by have := hob x hm; simp; try omega)
  have S5 := K.1; have K := K.new0 K5; have KL := KL.new0 K5
  refine rs_w (w_app1 zgi zus rfl rfl rfl O rfl rfl B5 rfl (by omega) (by omega) (by omega)) rfl ?_
  rintro v6 h6 ⟨O6, K6, N6, F6⟩
  have K := K.newX K6 (fun x hm => .inr (by have := hob x hm; omega)); have Z6 := K6.1
  have B2 := K6.blk (fun hm => by first | (have := hob _ hm; omega) | exact absurd rfl (hnb _ hm)) B2
  have B5 := K6.blk (fun hm => by first | (have := hob _ hm; omega) | exact absurd rfl (hnb _ hm)) B5
  refine rA rfl rfl <| rs_nil <| zbc <| q_thn <| tr_reg <| rs_v (v_add rfl rfl (by omega) (by omega)) rfl ?_
  refine rM rfl rfl <| rs_nil ?_
  refine q_lp (W.length - (k + 1)) [(3, _), (6, _), (7, _), (8, _)] (by omega) ⟨rfl, rfl, rfl, rfl, trivial⟩ ⟨k + 1, v6, n + 1, by omega, rfl, rfl, K, ?_, ?_⟩
  · rw [zbu hsk]; rw [List.length_append, ← hn]; rfl
  · rw [zbu hsk]
    exact OutR.snoc zml hA (by omega) hob hrow hF KL0 KL O6 K6 F6 rfl (⟨_, rfl, upk3 (hA.mono (by omega)) (by omega) K4 hkv4 K5⟩)
theorem c_ofSpans (χ : Chi) (h : Heap) (A : Nat → Prop) (hA : Low A h) (v : Value) (W : List SpanD) (hW : RSpans A h v W) (hn : W.length ≤ 100000) (hm : ∀ s, s ∈ W → s.ks.length ≤ 100000) :
    Cl Tryz.prog χ 84 #[v] h (fun r h' => RSpans (Up A h h') h' r W ∧ Keep [] h h') := by
  obtain ⟨hlen, a, c, rfl, hx⟩ := hW.form
  refine zah Tryz.func84 rfl rfl rfl ?_
  have K : Keep [] h h := Keep.refl _ _
  refine rG <| rA rfl rfl <| rN <| rG <| rA rfl rfl <| rN <| tr_seq <| rG <| rM rfl rfl <| rs_v (v_len zgi rfl) rfl ?_
  refine rM rfl rfl <| rN <| zal ?_
  refine zdd (fun m E h' => ∃ k v n, k ≤ W.length ∧ m = W.length - k ∧ E = [(3, v), (6, .slice a W.length c), (7, .int .i64 (W.length : Int)), (8, .int .i64 (k : Int))] ∧ Keep [] h h' ∧ n = (W.take k).length ∧ OutR A h h' h.size 56 3 cSpan v n (W.take k)) W.length [(3, _), (6, _), (7, _), (8, _)] ⟨rfl, rfl, rfl, rfl, trivial⟩ ⟨0, _, 0, Nat.zero_le _, rfl, rfl, K, rfl, OutR.nil _ _ _ _ _ _ _⟩ ?_
  rintro m E hL1 ⟨k, v, n, hk, rfl, rfl, K, hn, hout⟩
  have hout0 := hout
  obtain ⟨xs, F, O, hrow, hF⟩ := hout
  have hob := own_ne O; have KL := Keep.refl [] hL1
  refine rG <| rs_v (v_lt rfl rfl) rfl <| rN <| tr_seq ?_
  refine tr_ifn rfl (fun hif => ?_) (fun hif => ?_)
  · -- no
    simp only [dT, dF] at hif
    have hkk : k = W.length := by omega
    subst hkk
    refine zda <| zcb <| zcq <| zcf <| q_thn <| rG <| rM rfl rfl <| rA rfl rfl <| rN <| tr_ret <| q_ret (zap rfl rfl) ?_
    rw [List.take_length] at hout0 hn
    exact ⟨hout0.fin zml hn (Nat.le_refl _) cSpan_r, K⟩
  -- yes
  simp only [dT, dF] at hif
  rcases hx with rfl | ⟨b, o, rfl, hAb, hR⟩
  · simp at hif; omega
  obtain ⟨x, hsk⟩ := ex_get (L := W) (k := k) (by omega)
  have hkl : k < W.length := (List.getElem?_eq_some_iff.1 hsk).1
  have KL0 := K.1
  obtain ⟨kv, hcc, hkx⟩ := hR k x hsk
  obtain ⟨ka, kc, rfl⟩ := hkx.form2
  have hcells := K.cells (by simp) hcc
  have hnk : n = k := by rw [hn, List.length_take]; omega
  refine zai <| q_thn <| tr_seq <| zal <| rG <| rs_v (zbv zgi zfp rfl rfl (by omega)) rfl ?_
  refine rs_v (zay (vs := [_, _, _]) zgz rfl (by exact hcells)) rfl ?_
  refine rs_w (w_new zha) rfl ?_
  rintro _ h2 ⟨rfl, B2, K2, Z2⟩
  have O := O.keep2 K2 (fun x hm => by have := hob x hm; simp; try omega)
  have S2 := K.1; have K := K.new0 K2; have KL := KL.new0 K2
  refine rs_w0 (w_put zfp rfl rfl rfl rfl B2 rfl) ?_
  rintro _ h3 ⟨B3, K3⟩
  have O := O.keep2 K3 (fun x hm => by have := hob x hm; simp; try omega)
  have B2 := B3; have K := K.new1 K3 (by first | (right; omega) | (left; simp; done)); have Z3 := K3.1; have KL := KL.new1 K3 (.inr (by omega))
  refine rN <| tr_reg <| rM rfl rfl <| rs_v (zay (vs := [_, _, _]) zgz rfl (by exact B2.sub _ 3 rfl)) rfl ?_
  refine rs_w (w_call (vs := [_]) zut rfl ⟨rfl, trivial⟩ (c_ofSpan χ _ A (hA.mono (by omega)) x _ (hkx.stab (K.st hA)) (hm x (List.mem_of_getElem? hsk)))) rfl ?_
  rintro _ h4 ⟨⟨kv4, rfl, hkv4⟩, K4⟩
  obtain ⟨a4, c4, rfl⟩ := hkv4.form2
  have B2 := K4.blk (by simp) B2
  have O := O.keep2 K4 (fun x hm => by have := hob x hm; simp; try omega)
  have K := K.new0 K4; have Z4 := K4.1; have KL := KL.new0 K4
  refine rs_w (w_new1 u_sl_spec_Span zck zeh rfl rfl rfl rfl rfl) rfl ?_
  rintro _ h5 ⟨rfl, B5, K5, Z5⟩
  have B2 := K5.blk (by simp) B2
  have O := O.keep2 K5 (fun x hm => by have := hob x hm; simp; try omega)
  have S5 := K.1; have K := K.new0 K5; have KL := KL.new0 K5
  refine rs_w (w_app1 u_sl_spec_Span zpz rfl rfl rfl O rfl rfl B5 rfl (by omega) (by omega) (by omega)) rfl ?_
  rintro v6 h6 ⟨O6, K6, N6, F6⟩
  have K := K.newX K6 (fun x hm => .inr (by have := hob x hm; omega)); have Z6 := K6.1
  have B2 := K6.blk (fun hm => by first | (have := hob _ hm; omega) | exact absurd rfl (hnb _ hm)) B2
  have B5 := K6.blk (fun hm => by first | (have := hob _ hm; omega) | exact absurd rfl (hnb _ hm)) B5
  refine rA rfl rfl <| rs_nil <| zbc <| q_thn <| tr_reg <| rs_v (v_add rfl rfl (by omega) (by omega)) rfl ?_
  refine rM rfl rfl <| rs_nil ?_
  refine q_lp (W.length - (k + 1)) [(3, _), (6, _), (7, _), (8, _)] (by omega) ⟨rfl, rfl, rfl, rfl, trivial⟩ ⟨k + 1, v6, n + 1, by omega, rfl, rfl, K, ?_, ?_⟩
  · rw [zbu hsk]; rw [List.length_append, ← hn]; rfl
  · rw [zbu hsk]
    exact OutR.snoc zml hA (by omega) hob hrow hF KL0 KL O6 K6 F6 rfl (⟨_, rfl, upk3 (hA.mono (by omega)) (by omega) K4 hkv4 K5⟩)
theorem c_spanSome (χ : Chi) (h : Heap) :
    Cl Tryz.prog χ 65 #[] h (fun r h' => RSpans (Up (fun _ => False) h h') h' r [⟨⟨#[97]⟩, ⟨#[98]⟩, [⟨256, ByteArray.empty, ByteArray.empty⟩]⟩] ∧ Keep [] h h') := by
  refine zah Tryz.func65 rfl rfl rfl ?_
  have K : Keep [] h h := Keep.refl _ _
  refine rG <| rA rfl rfl <| rN <| rG <| rs_v (zgn rfl (zrv _)) rfl ?_
  refine rs_w (w_new1 zey zgf zhn rfl rfl rfl rfl rfl) rfl ?_
  rintro _ h1 ⟨rfl, B1, K1, Z1⟩
  have S1 := K.1; have K := K.new0 K1
  refine rs_v (zjp rfl rfl rfl (zjj _ _ _ _ _)) rfl ?_
  refine rs_w (w_new1 zgi zfp zha rfl rfl rfl rfl rfl) rfl ?_
  rintro _ h2 ⟨rfl, B2, K2, Z2⟩
  have B1 := K2.blk (by simp) B1
  have S2 := K.1; have K := K.new0 K2
  refine rA rfl rfl <| rN <| tr_ret <| q_ret (zap rfl rfl) ?_
  refine ⟨⟨by simp, _, _, rfl, fun i x hi => ⟨h1.size, 0, rfl, .inr ⟨by omega, by omega⟩, ?_⟩⟩, K⟩
  cases i with
  | zero =>
    simp at hi; subst hi
    refine ⟨_, B2.cells, ⟨by simp, _, _, rfl, fun i x hi => ⟨h.size, 0, rfl, .inr ⟨by omega, by omega⟩, ?_⟩⟩⟩
    cases i with
    | zero => simp at hi; subst hi; exact B1.cells
    | succ i => simp at hi
  | succ i => simp at hi
def KeyD.small (k : KeyD) : Prop := k.suf.size ≤ 9223372036854775807 ∧ k.val.size ≤ 9223372036854775807
def SpanD.small (s : SpanD) : Prop := s.s.size ≤ 9223372036854775807 ∧ s.e.size ≤ 9223372036854775807 ∧ s.ks.length ≤ 100000 ∧ ∀ k, k ∈ s.ks → KeyD.small k
abbrev N0 : Nat → Prop := fun _ => False
theorem n0low (h : Heap) : Low N0 h := fun _ hb => hb.elim
theorem n0up {A : Nat → Prop} {h0 h1 h h' : Heap} (k0 : h0.size ≤ h.size) (k1 : h'.size ≤ h1.size) : ∀ b, Up N0 h h' b → Up A h0 h1 b := fun _ hb => by
  rcases hb with hb | hb
  · exact hb.elim
  · exact .inr ⟨Nat.le_trans k0 hb.1, Nat.lt_of_lt_of_le hb.2 k1⟩
theorem upb {A : Nat → Prop} {h h1 h2 : Heap} {v : Value} {s : ByteArray} (hA : Low A h) (k0 : h.size ≤ h1.size) (hr : RBytes (Up A h h1) h1 v s) (K : Keep [] h1 h2) : RBytes (Up A h h2) h2 v s :=
  (hr.stab (K.st (hA.up k0))).mono (Up.grow K.1)
theorem upp {A : Nat → Prop} {h h1 h2 : Heap} {v : Value} {s : List KeyD} (hA : Low A h) (k0 : h.size ≤ h1.size) (hr : PKeys (Up A h h1) h1 v s) (K : Keep [] h1 h2) : PKeys (Up A h h2) h2 v s :=
  (hr.stab (K.st (hA.up k0))).mono (Up.grow K.1)
theorem zmv {a b : ByteArray} : seq' a b = true ↔ a = b := by
  simp only [seq', Lib.toList_data, beq_iff_eq]
  constructor
  · intro e
    cases a; cases b
    rename_i x y
    congr 1
    exact Array.ext' e
  · rintro rfl; rfl
theorem RBytes.empty (A : Nat → Prop) (h : Heap) : RBytes A h (.slice none 0 0) ByteArray.empty := SlR.nil _ _ _ _
theorem c_maybe (χ : Chi) (h : Heap) (s : ByteArray) (hs : s.size ≤ 9223372036854775807) :
    Cl Tryz.prog χ 146 #[.string s] h (fun r h' => RBytes (Up N0 h h') h' r s ∧ Keep [] h h') := by
  refine zah Tryz.func146 rfl rfl rfl ?_
  have K : Keep [] h h := Keep.refl _ _
  refine rG <| rA rfl rfl <| rN <| tr_seq <| rG <| rM rfl rfl <| rs_v (v_seq rfl rfl) rfl ?_
  refine rN ?_
  refine tr_if rfl (fun hif => ?_) (fun hif => ?_)
  · -- yes
    skip
    refine rG <| rA rfl rfl <| rN <| tr_ret <| zaw <| q_ret (zap rfl rfl) ?_
    have e := zmv.1 hif
    subst e
    exact ⟨RBytes.empty _ _, K⟩
  -- no
  skip
  refine zai <| q_thn <| rG <| rM rfl rfl <| rs_w (zlj zdl zcx zgh rfl (by omega)) rfl ?_
  rintro _ h1 ⟨c1, rfl, K1, hb1⟩
  have K := K.new0 K1; have Z1 := K1.1
  refine rA rfl rfl <| rN <| tr_ret <| q_ret (zap rfl rfl) ?_
  exact ⟨hb1.mono (fun b hb => .inr hb), K⟩
theorem c_spanKeys (χ : Chi) (h : Heap) (A : Nat → Prop) (hA : Low A h) (kv : Value) (ks : List KeyD) (hk : RKeys A h kv ks) (hn : ks.length ≤ 100000) (hm : ∀ k, k ∈ ks → KeyD.small k) :
    Cl Tryz.prog χ 116 #[kv] h (fun r h' => PKeys (Up N0 h h') h' r ks ∧ Keep [] h h') := by
  obtain ⟨hlen, a, c, rfl, hx⟩ := hk.form
  refine zah Tryz.func116 rfl rfl rfl ?_
  have K : Keep [] h h := Keep.refl _ _
  refine rG <| rA rfl rfl <| rN <| rG <| rA rfl rfl <| rN <| tr_seq <| rG <| rM rfl rfl <| rs_v (v_len zey rfl) rfl ?_
  refine rM rfl rfl <| rN <| zal ?_
  refine zdd (fun m E h' => ∃ k v n, k ≤ ks.length ∧ m = ks.length - k ∧ E = [(3, v), (6, .slice a ks.length c), (7, .int .i64 (ks.length : Int)), (8, .int .i64 (k : Int))] ∧ Keep [] h h' ∧ n = (ks.take k).length ∧ OutR N0 h h' h.size 261 3 cPKey v n (ks.take k)) ks.length [(3, _), (6, _), (7, _), (8, _)] ⟨rfl, rfl, rfl, rfl, trivial⟩ ⟨0, _, 0, Nat.zero_le _, rfl, rfl, K, rfl, OutR.nil _ _ _ _ _ _ _⟩ ?_
  rintro m E hL1 ⟨k, v, n, hk, rfl, rfl, K, hn, hout⟩
  have hout0 := hout
  obtain ⟨xs, F, O, hrow, hF⟩ := hout
  have hob := own_ne O; have KL := Keep.refl [] hL1
  refine rG <| rs_v (v_lt rfl rfl) rfl <| rN <| tr_seq ?_
  refine tr_ifn rfl (fun hif => ?_) (fun hif => ?_)
  · -- no
    simp only [dT, dF] at hif
    have hkk : k = ks.length := by omega
    subst hkk
    refine zda <| zcb <| zcq <| zcf <| q_thn <| rG <| rM rfl rfl <| rA rfl rfl <| rN <| tr_ret <| q_ret (zap rfl rfl) ?_
    rw [List.take_length] at hout0 hn
    exact ⟨hout0.fin cPKey_st hn (Nat.le_refl _) cPKey_r, K⟩
  -- yes
  simp only [dT, dF] at hif
  rcases hx with rfl | ⟨b, o, rfl, hAb, hR⟩
  · simp at hif; omega
  obtain ⟨x, hsk⟩ := ex_get (L := ks) (k := k) (by omega)
  have hkl : k < ks.length := (List.getElem?_eq_some_iff.1 hsk).1
  have KL0 := K.1
  have hnk : n = k := by rw [hn, List.length_take]; omega
  have hcells := K.cells (by simp) (hR k x hsk)
  refine zai <| q_thn <| tr_seq <| zal <| rG <| rs_v (zbv zey zgf rfl rfl (by omega)) rfl ?_
  refine rs_v (zay (vs := [_, _, _]) zkj rfl (by exact hcells)) rfl ?_
  refine rs_w (w_new zhn) rfl ?_
  rintro _ h2 ⟨rfl, B2, K2, Z2⟩
  have O := O.keep2 K2 (fun x hm => by have := hob x hm; simp; try omega)
  have S2 := K.1; have K := K.new0 K2; have KL := KL.new0 K2
  refine rs_w0 (w_put zgf rfl rfl rfl rfl B2 rfl) ?_
  rintro _ h3 ⟨B3, K3⟩
  have O := O.keep2 K3 (fun x hm => by have := hob x hm; simp; try omega)
  have B2 := B3; have K := K.new1 K3 (by first | (right; omega) | (left; simp; done)); have Z3 := K3.1; have KL := KL.new1 K3 (.inr (by omega))
  refine rN ?_
  have S0 : hL1.size ≤ h3.size := KL.1
  obtain ⟨hz1, hz2⟩ := hm x (List.mem_of_getElem? hsk)
  refine zdi [(true, 11), (false, 2)] _ (by kernel_rfl) (by kernel_rfl) (by kernel_rfl) ?_
  refine rx_any (Keep []) (zae _) ?_
  refine rm_v (zae _) (fun h' hk => v_move rfl) ?_
  refine rm_v (zae _) (fun h' hk => zac zsj rfl) ?_
  refine rm_v (zae _) (fun h' hk => v_load zen rfl (Blk.cell (hk.blk (by simp) B2) _ rfl)) ?_
  refine rm_v (zae _) (fun h' hk => zac zsk rfl) ?_
  refine rm_v (zae _) (fun h' hk => v_load zbp rfl (Blk.cell (hk.blk (by simp) B2) _ rfl)) ?_
  refine rm_w (fun v h' => RBytes (Up N0 h3 h') h' v x.suf) (fun v _ _ k1 k2 hr => upb (n0low _) k1.1 hr k2) (fun h' hk => OpW.mono (w_call (vs := [_]) zrg rfl ⟨rfl, trivial⟩ (c_maybe χ h' x.suf hz1)) (fun v h'' hv => ⟨hv.2, hv.1.mono (n0up hk.1 (Nat.le_refl _))⟩)) ?_
  refine rm_v (zae _) (fun h' hk => zac zsl rfl) ?_
  refine rm_v (zae _) (fun h' hk => v_load zbp rfl (Blk.cell (hk.blk (by simp) B2) _ rfl)) ?_
  refine rm_w (fun v h' => RBytes (Up N0 h3 h') h' v x.val) (fun v _ _ k1 k2 hr => upb (n0low _) k1.1 hr k2) (fun h' hk => OpW.mono (w_call (vs := [_]) zrg rfl ⟨rfl, trivial⟩ (c_maybe χ h' x.val hz2)) (fun v h'' hv => ⟨hv.2, hv.1.mono (n0up hk.1 (Nat.le_refl _))⟩)) ?_
  refine rm_o2 17 20 (fun v h' => ∃ sv vv, v = .agg #[.int .u64 x.tr, sv, vv] ∧ RBytes (Up N0 h3 h') h' sv x.suf ∧ RBytes (Up N0 h3 h') h' vv x.val) rfl rfl rfl (by kernel_rfl) (by kernel_rfl)
    (fun v _ _ k1 k2 hr => by obtain ⟨sv, vv, e, r1, r2⟩ := hr; exact ⟨sv, vv, e, upb (n0low _) k1.1 r1 k2, upb (n0low _) k1.1 r2 k2⟩)
    (fun u u2 h' hk hu hu2 => by
      obtain ⟨a1, n1, c1, rfl⟩ := hu.form2
      obtain ⟨a2, n2, c2, rfl⟩ := hu2.form2
      exact (zjp rfl rfl rfl (zpy _ _ _ _ _ _ _)).w.mono (fun _ _ e => by obtain ⟨e1, e2⟩ := e; subst e1; subst e2; exact ⟨Keep.refl _ _, _, _, rfl, hu, hu2⟩)) ?_
  refine rm_o 21 (fun v h' => ∃ g sv vv, v = .slice (some ⟨g, 0, none⟩) 1 1 ∧ Blk h' g [.int .u64 x.tr, sv, vv] 261 ∧ RBytes (Up N0 h3 h') h' sv x.suf ∧ RBytes (Up N0 h3 h') h' vv x.val) rfl (by kernel_rfl)
    (fun v _ _ k1 k2 hr => by obtain ⟨g, sv, vv, e, B, r1, r2⟩ := hr; exact ⟨g, sv, vv, e, k2.blk (by simp) B, upb (n0low _) k1.1 r1 k2, upb (n0low _) k1.1 r2 k2⟩)
    (fun u h' hk hu => by
      obtain ⟨sv, vv, rfl, r1, r2⟩ := hu
      exact OpW.mono (w_new1 zeo zfz zky rfl rfl rfl rfl rfl) (fun v h'' hv => by
        obtain ⟨e, B, K', _⟩ := hv
        exact ⟨K', _, _, _, e, B, upb (n0low _) hk.1 r1 K', upb (n0low _) hk.1 r2 K'⟩)) ?_
  refine rm_end ?_; intro ha Ka; simp only [endM, hypF, ofE, argE, List.nil_append]
  intro v22 hv22 v21 _ v20 _ v17 _
  obtain ⟨g, sv, vv, rfl, Bg, r1, r2⟩ := hv22
  obtain ⟨a1, n1, c1, rfl⟩ := r1.form2
  obtain ⟨a2, n2, c2, rfl⟩ := r2.form2
  have O := O.keep2 Ka (by simp)
  have K := K.new0 Ka; have Za := Ka.1
  have KL := KL.new0 Ka
  refine rx_seq <| rs_w (w_app1 zeo ztk rfl rfl rfl O rfl rfl Bg rfl (by omega) (by omega) (by omega)) rfl ?_
  rintro v4 h4 ⟨O4, K4, N4, F4⟩
  have K := K.newX K4 (fun x hm => .inr (by have := hob x hm; omega)); have Z4 := K4.1
  refine rA rfl rfl <| rs_nil <| q_con ?_
  refine rx_nil ?_
  refine zbc <| q_thn <| tr_reg <| rs_v (v_add rfl rfl (by omega) (by omega)) rfl ?_
  refine rM rfl rfl <| rs_nil ?_
  refine q_lp (ks.length - (k + 1)) [(3, _), (6, _), (7, _), (8, _)] (by omega) ⟨rfl, rfl, rfl, rfl, trivial⟩ ⟨k + 1, v4, n + 1, by omega, rfl, rfl, K, ?_, ?_⟩
  · rw [zbu hsk]; rw [List.length_append, ← hn]; rfl
  · rw [zbu hsk]
    exact OutR.snoc cPKey_st (n0low h) (by omega) hob hrow hF KL0 KL O4 K4 F4 rfl (⟨_, _, rfl, r1.mono (n0up S0 (Nat.le_refl _)), r2.mono (n0up S0 (Nat.le_refl _))⟩)
theorem c_plainKeys (χ : Chi) (h : Heap) (A : Nat → Prop) (hA : Low A h) (kv : Value) (ks : List KeyD) (hk : PKeys A h kv ks) (hn : ks.length ≤ 100000) :
    Cl Tryz.prog χ 145 #[kv] h (fun r h' => RKeys (Up N0 h h') h' r ks ∧ Keep [] h h') := by
  obtain ⟨hlen, a, c, rfl, hx⟩ := hk.form
  refine zah Tryz.func145 rfl rfl rfl ?_
  have K : Keep [] h h := Keep.refl _ _
  refine rG <| rA rfl rfl <| rN <| rG <| rA rfl rfl <| rN <| tr_seq <| rG <| rM rfl rfl <| rs_v (v_len zeo rfl) rfl ?_
  refine rM rfl rfl <| rN <| zal ?_
  refine zdd (fun m E h' => ∃ k v n, k ≤ ks.length ∧ m = ks.length - k ∧ E = [(3, v), (6, .slice a ks.length c), (7, .int .i64 (ks.length : Int)), (8, .int .i64 (k : Int))] ∧ Keep [] h h' ∧ n = (ks.take k).length ∧ OutR N0 h h' h.size 254 3 cKey v n (ks.take k)) ks.length [(3, _), (6, _), (7, _), (8, _)] ⟨rfl, rfl, rfl, rfl, trivial⟩ ⟨0, _, 0, Nat.zero_le _, rfl, rfl, K, rfl, OutR.nil _ _ _ _ _ _ _⟩ ?_
  rintro m E hL1 ⟨k, v, n, hk, rfl, rfl, K, hn, hout⟩
  have hout0 := hout
  obtain ⟨xs, F, O, hrow, hF⟩ := hout
  have hob := own_ne O; have KL := Keep.refl [] hL1
  refine rG <| rs_v (v_lt rfl rfl) rfl <| rN <| tr_seq ?_
  refine tr_ifn rfl (fun hif => ?_) (fun hif => ?_)
  · -- no
    simp only [dT, dF] at hif
    have hkk : k = ks.length := by omega
    subst hkk
    refine zda <| zcb <| zcq <| zcf <| q_thn <| rG <| rM rfl rfl <| rA rfl rfl <| rN <| tr_ret <| q_ret (zap rfl rfl) ?_
    rw [List.take_length] at hout0 hn
    exact ⟨hout0.fin zmk hn (Nat.le_refl _) cKey_r, K⟩
  -- yes
  simp only [dT, dF] at hif
  rcases hx with rfl | ⟨b, o, rfl, hAb, hR⟩
  · simp at hif; omega
  obtain ⟨x, hsk⟩ := ex_get (L := ks) (k := k) (by omega)
  have hkl : k < ks.length := (List.getElem?_eq_some_iff.1 hsk).1
  have KL0 := K.1
  have hnk : n = k := by rw [hn, List.length_take]; omega
  obtain ⟨sv, vv, hcc, r1, r2⟩ := hR k x hsk
  obtain ⟨a1, n1, c1, rfl⟩ := r1.form2
  obtain ⟨a2, n2, c2, rfl⟩ := r2.form2
  have hcells := K.cells (by simp) hcc
  refine zai <| q_thn <| tr_seq <| zal <| rG <| rs_v (zbv zeo zfz rfl rfl (by omega)) rfl ?_
  refine rs_v (zay (vs := [_, _, _]) zhw rfl (by exact hcells)) rfl ?_
  refine rs_w (w_new zky) rfl ?_
  rintro _ h2 ⟨rfl, B2, K2, Z2⟩
  have O := O.keep2 K2 (fun x hm => by have := hob x hm; simp; try omega)
  have S2 := K.1; have K := K.new0 K2; have KL := KL.new0 K2
  refine rs_w0 (w_put zfz rfl rfl rfl rfl B2 rfl) ?_
  rintro _ h3 ⟨B3, K3⟩
  have O := O.keep2 K3 (fun x hm => by have := hob x hm; simp; try omega)
  have B2 := B3; have K := K.new1 K3 (by first | (right; omega) | (left; simp; done)); have Z3 := K3.1; have KL := KL.new1 K3 (.inr (by omega))
  refine rN <| tr_reg <| rM rfl rfl <| rF zkx rfl rfl <| rs_v (v_load zen rfl (by exact B2.cell _ rfl)) rfl ?_
  refine rF zth rfl rfl <| rs_v (v_load zau rfl (by exact B2.cell _ rfl)) rfl ?_
  refine rs_v (zli zcx zgh zdl rfl (RBytes.by (r1.stab (K.st hA)))) rfl ?_
  refine rF zti rfl rfl <| rs_v (v_load zau rfl (by exact B2.cell _ rfl)) rfl ?_
  refine rs_v (zli zcx zgh zdl rfl (RBytes.by (r2.stab (K.st hA)))) rfl ?_
  refine rs_v (zjp rfl rfl rfl (zpl _ _ _)) rfl ?_
  refine rs_w (w_new1 zey zgf zhn rfl rfl rfl rfl rfl) rfl ?_
  rintro _ h4 ⟨rfl, B4, K4, Z4⟩
  have B2 := K4.blk (by simp) B2
  have O := O.keep2 K4 (fun x hm => by have := hob x hm; simp; try omega)
  have S4 := K.1; have K := K.new0 K4; have KL := KL.new0 K4
  refine rs_w (w_app1 zey znx rfl rfl rfl O rfl rfl B4 rfl (by omega) (by omega) (by omega)) rfl ?_
  rintro v5 h5 ⟨O5, K5, N5, F5⟩
  have K := K.newX K5 (fun x hm => .inr (by have := hob x hm; omega)); have Z5 := K5.1
  have B2 := K5.blk (fun hm => by first | (have := hob _ hm; omega) | exact absurd rfl (hnb _ hm)) B2
  have B4 := K5.blk (fun hm => by first | (have := hob _ hm; omega) | exact absurd rfl (hnb _ hm)) B4
  refine rA rfl rfl <| rs_nil <| zbc <| q_thn <| tr_reg <| rs_v (v_add rfl rfl (by omega) (by omega)) rfl ?_
  refine rM rfl rfl <| rs_nil ?_
  refine q_lp (ks.length - (k + 1)) [(3, _), (6, _), (7, _), (8, _)] (by omega) ⟨rfl, rfl, rfl, rfl, trivial⟩ ⟨k + 1, v5, n + 1, by omega, rfl, rfl, K, ?_, ?_⟩
  · rw [zbu hsk]; rw [List.length_append, ← hn]; rfl
  · rw [zbu hsk]
    exact OutR.snoc zmk (n0low h) (by omega) hob hrow hF KL0 KL O5 K5 F5 rfl (show _ = _ from rfl)
theorem stab_skip {A : Nat → Prop} {h h2 ha h3 : Heap} {b0 : Nat} (hA : Low A h) (S0 : h.size ≤ h2.size) (Za : h2.size ≤ ha.size) (K3 : Keep [b0] ha h3) (h1 : h.size ≤ b0) (h2' : b0 < h2.size) : Stab (Up A h2 ha) ha h3 :=
  K3.stab fun b hb => ⟨(hA.mono S0).up Za b hb, by
    rcases hb with hb | hb
    · have := hA b hb; simp; omega
    · simp; omega⟩
theorem c_plainSpan (χ : Chi) (h : Heap) (A : Nat → Prop) (hA : Low A h) (s : SpanD) (sv ev kv : Value) (kk : Int) (r1 : RBytes A h sv s.s) (r2 : RBytes A h ev s.e) (r3 : PKeys A h kv s.ks) (hn : s.ks.length ≤ 100000) :
    Cl Tryz.prog χ 111 #[.agg #[sv, ev, kv, .int .i8 0]] h (fun r h' => (∃ kv', r = .agg #[.string s.s, .string s.e, kv'] ∧ RKeys (Up N0 h h') h' kv' s.ks) ∧ Keep [] h h') := by
  obtain ⟨a1, n1, c1, rfl⟩ := r1.form2
  obtain ⟨a2, n2, c2, rfl⟩ := r2.form2
  obtain ⟨a3, n3, c3, rfl⟩ := r3.form2
  refine zah Tryz.func111 rfl rfl rfl ?_
  have K : Keep [] h h := Keep.refl _ _
  refine rG <| rs_w (zbw rfl) rfl ?_
  rintro _ h1 ⟨rfl, B1, K1, Z1⟩
  have S1 := K.1; have K := K.new0 K1
  refine rs_w (w_new zha) rfl ?_
  rintro _ h2 ⟨rfl, B2, K2, Z2⟩
  have B1 := K2.blk (by simp) B1
  have S2 := K.1; have K := K.new0 K2
  refine rN <| tr_seq ?_
  have S0 : h.size ≤ h2.size := K.1
  have hA2 := hA.mono S0
  refine zdi [(true, 10), (false, 1)] _ (by kernel_rfl) (by kernel_rfl) (by kernel_rfl) ?_
  refine rx_any (Keep []) (zae _) ?_
  refine rm_v (zae _) (fun h' hk => zac zea rfl) ?_
  refine rm_v (zae _) (fun h' hk => v_load zau rfl (Blk.cell (hk.blk (by simp) B1) _ rfl)) ?_
  refine rm_v (zae _) (fun h' hk => zli zcx zgh zdl rfl (RBytes.by (r1.stab ((K.new0 hk).st hA)))) ?_
  refine rm_v (zae _) (fun h' hk => zac zep rfl) ?_
  refine rm_v (zae _) (fun h' hk => v_load zau rfl (Blk.cell (hk.blk (by simp) B1) _ rfl)) ?_
  refine rm_v (zae _) (fun h' hk => zli zcx zgh zdl rfl (RBytes.by (r2.stab ((K.new0 hk).st hA)))) ?_
  refine rm_v (zae _) (fun h' hk => zac zfh rfl) ?_
  refine rm_v (zae _) (fun h' hk => v_load zfc rfl (Blk.cell (hk.blk (by simp) B1) _ rfl)) ?_
  refine rm_w (fun v h' => RKeys (Up N0 h2 h') h' v s.ks) (fun v _ _ k1 k2 hr => upk (n0low _) k1.1 hr k2) (fun h' hk => OpW.mono (w_call (vs := [_]) zsx rfl ⟨rfl, trivial⟩ (c_plainKeys χ h' A (hA.mono (K.new0 hk).1) _ s.ks (r3.stab ((K.new0 hk).st hA)) hn)) (fun v h'' hv => ⟨hv.2, hv.1.mono (Up.trans2 hk.1 (Nat.le_refl _))⟩)) ?_
  refine rm_o 11 (fun v h' => ∃ kv', v = .agg #[.string s.s, .string s.e, kv'] ∧ RKeys (Up N0 h2 h') h' kv' s.ks) rfl (by kernel_rfl) (fun v _ _ k1 k2 hr => by obtain ⟨kv', e, hr⟩ := hr; exact ⟨kv', e, upk (n0low _) k1.1 hr k2⟩) (fun u h' hk hu => by
    obtain ⟨a, c, rfl⟩ := hu.form2
    exact (zjp rfl rfl rfl (zjj _ _ _ _ _)).w.mono (fun _ _ e => by obtain ⟨e1, e2⟩ := e; subst e1; subst e2; exact ⟨Keep.refl _ _, _, rfl, hu⟩)) ?_
  refine rm_end ?_; intro ha Ka; simp only [endM, hypF, ofE, argE, List.nil_append]
  intro v12 hv12 v11 _
  obtain ⟨kv', rfl, hkv⟩ := hv12
  obtain ⟨ka', kc', rfl⟩ := hkv.form2
  have B2 := Ka.blk (by simp) B2
  have K := K.new0 Ka; have Za := Ka.1
  refine rx_seq <| rs_w0 (w_put zfp rfl rfl rfl rfl B2 rfl) ?_
  rintro _ h3 ⟨B3, K3⟩
  have K := K.new1 K3 (.inr (by omega))
  refine rs_nil <| q_con ?_
  refine rx_nil ?_
  refine q_thn <| tr_ret <| q_ret (zjq (vs := [_, _, _]) rfl rfl zgz (by exact B3.sub 0 3 rfl)) ?_
  have hs := stab_skip (n0low h) S0 Za K3 (by omega) (by omega)
  exact ⟨⟨_, rfl, (hkv.stab hs).mono (Up.trans2 S0 K3.1)⟩, K⟩
def cmpF : Value := .func (.func 90) #[] #[]
def itL (sv : Value) (x : Int) : List Value := [cmpF, sv, .int .i64 x]
theorem zdx (χ : Chi) (h : Heap) (a b : Value) (s u : ByteArray) (ha : RBy h a s) (hb : RBy h b u) :
    Cl Tryz.prog χ 90 #[a, b] h (fun r h' => r = .int .i64 (cmpB s u) ∧ h' = h) := by
  refine zah Tryz.func90 rfl rfl rfl ?_
  have K : Keep [] h h := Keep.refl _ _
  refine rG <| rA rfl rfl <| rN <| rG <| rM rfl rfl <| rM rfl rfl <| rs_v (v_cmp (s := s) (u := u) Tryz.func129 (by kernel_rfl) (by kernel_rfl) (by kernel_rfl) (by kernel_rfl) rfl rfl rfl ha hb) rfl ?_
  refine rA rfl rfl <| rN <| tr_ret <| q_ret (zap rfl rfl) ?_
  exact ⟨rfl, rfl⟩
theorem c_Init (χ : Chi) (h : Heap) (c : Nat) (a : Option Addr) (n cc : Nat) (f : Value) (T : TypeId) (s2 : Value) (x : Int) (Bc : Blk h c [f, s2, .int .i64 x] T) :
    Cl Tryz.prog χ 99 #[.pointer (some ⟨c, 0, none⟩), cmpF, .slice a n cc] h (fun r h' => r = .tuple #[] ∧ Blk h' c (itL (.slice a n cc) (-1)) T ∧ Keep [c] h h') := by
  unfold cmpF
  refine zah Tryz.func99 rfl rfl rfl ?_
  have K : Keep [c] h h := Keep.refl _ _
  refine tr_reg <| rM rfl rfl <| rM rfl rfl <| rM rfl rfl <| rs_v (zjp rfl rfl rfl (zpk _ _ _ _ _ _ _)) rfl ?_
  refine rC rfl rfl <| rs_w0 (w_put ztj rfl rfl rfl rfl Bc rfl) ?_
  rintro _ h1 ⟨B1, K1⟩
  have Bc := B1; have K := K.new1 K1 (by first | (right; omega) | (left; simp; done)); have Z1 := K1.1
  refine rs_nil ?_
  refine q_end (zce rfl) ?_
  exact ⟨rfl, Bc, K⟩
theorem c_NewIter (χ : Chi) (h : Heap) (a : Option Addr) (n cc : Nat) :
    Cl Tryz.prog χ 58 #[cmpF, .slice a n cc] h (fun r h' => r = .pointer (some ⟨h.size, 0, none⟩) ∧ Blk h' h.size (itL (.slice a n cc) (-1)) 239 ∧ Keep [] h h') := by
  refine zah Tryz.func58 rfl rfl rfl ?_
  have K : Keep [] h h := Keep.refl _ _
  refine rG <| rA rfl rfl <| rN <| rG <| rs_v (zge (zsm)) rfl ?_
  refine rs_w (zbw rfl) rfl ?_
  rintro _ h1 ⟨rfl, B1, K1, Z1⟩
  have S1 := K.1; have K := K.new0 K1
  refine rA rfl rfl <| rN <| rG <| rM rfl rfl <| rM rfl rfl <| rM rfl rfl <| rs_w (w_call (vs := [_, _, _]) zqr rfl ⟨rfl, rfl, rfl, trivial⟩ (c_Init χ _ _ a n cc _ _ _ _ B1)) rfl ?_
  rintro _ h2 ⟨rfl, Bc, K2⟩
  have K := K.new1 K2 (.inr (Nat.le_refl _)); have Z2 := K2.1
  refine rN <| rG <| rM rfl rfl <| rA rfl rfl <| rN <| tr_ret <| q_ret (zap rfl rfl) ?_
  exact ⟨rfl, Bc, K⟩
def RetI (a : Option Addr) (p : Pos) (r : Value) : Prop := match p with
  | .pt j => ∃ b o, a = some ⟨b, o, none⟩ ∧ r = .pointer (some ⟨b, o + j * 4, none⟩)
  | _ => r = .pointer none
theorem RBytes.lowen {A : Nat → Prop} {h : Heap} {v : Value} {s : ByteArray} (hr : RBytes A h v s) : RBytes (fun b => A b ∧ b < h.size) h v s := by
  obtain ⟨hl, a, c, e, hx⟩ := hr
  exact ⟨hl, a, c, e, fun i x hi => by obtain ⟨b, o, e1, e2, e3⟩ := hx i x hi; exact ⟨b, o, e1, ⟨⟨e2.1, cellH_lt e3⟩, e2.2⟩, e3⟩⟩
theorem c_ItFirst (χ : Chi) (h : Heap) (c : Nat) (a : Option Addr) (cc : Nat) (W : List SpanD) (T : TypeId) (hn : W.length ≤ 100000) (x : Int) (ha : W = [] ∨ ∃ b o, a = some ⟨b, o, none⟩) (Bc : Blk h c (itL (.slice a W.length cc) x) T) :
    Cl Tryz.prog χ 243 #[.pointer (some ⟨c, 0, none⟩)] h (fun r h' => ∃ x', Blk h' c (itL (.slice a W.length cc) x') T ∧ posX W.length (pFirst W) x' ∧ Keep [c] h h' ∧ RetI a (pFirst W) r) := by
  refine zah Tryz.func243 rfl rfl rfl ?_
  have K : Keep [c] h h := Keep.refl _ _
  refine rG <| rA rfl rfl <| rN <| tr_seq <| rG <| rM rfl rfl <| rC rfl rfl <| rF zcw rfl rfl <| rs_v (v_load zcm rfl (by exact Bc.cell _ rfl)) rfl ?_
  refine rs_v (v_len zco rfl) rfl ?_
  refine rs_v (v_eq rfl rfl) rfl <| rN ?_
  refine tr_if rfl (fun hif => ?_) (fun hif => ?_)
  · -- yes
    simp only [dT, dF] at hif
    refine rG <| rA rfl rfl <| rN <| tr_ret <| zaw <| q_ret (zap rfl rfl) ?_
    have hl : W.length = 0 := by omega
    refine ⟨x, Bc, ?_, K, ?_⟩ <;> simp [pFirst, hl, posX, RetI]
  -- no
  simp only [dT, dF] at hif
  have hlen : W.length ≠ 0 := by omega
  rcases ha with rfl | ⟨b, o, rfl⟩
  · simp at hlen
  refine zai <| q_thn <| rG <| rM rfl rfl <| rC rfl rfl <| rF zbh rfl rfl <| rs_w0 (w_put zer rfl rfl rfl rfl Bc rfl) ?_
  rintro _ h1 ⟨B1, K1⟩
  have Bc := B1; have K := K.new1 K1 (by first | (right; omega) | (left; simp; done)); have Z1 := K1.1
  refine rN <| tr_seq ?_
  refine zbb (by kernel_rfl) (by kernel_rfl) ?_
  refine rq_v (v_move rfl) <| rq_v (zad rfl) <| rq_v (zac zcw rfl) <| rq_v (v_load zcm rfl (by exact Bc.cell _ rfl)) ?_
  refine rq_v (v_move rfl) <| rq_v (zad rfl) <| rq_v (zac zbh rfl) <| rq_v (v_load zbx rfl (by exact Bc.cell _ rfl)) ?_
  refine rq_v (zcn zco zdz rfl rfl (i := 0) (by omega) (by omega)) ?_
  refine rq_v (zcs rfl) ?_
  refine rm_end ?_; simp only [endM, hypF, ofE, argE]
  refine q_thn <| tr_ret <| q_ret (zap rfl rfl) ?_
  refine ⟨0, Bc, ?_, K, ?_⟩
  · simp [pFirst, hlen, posX]; omega
  · simp only [pFirst, if_neg hlen, RetI]; exact ⟨b, o, rfl, rfl⟩
theorem c_ItLast (χ : Chi) (h : Heap) (c : Nat) (a : Option Addr) (cc : Nat) (W : List SpanD) (T : TypeId) (hn : W.length ≤ 100000) (x : Int) (ha : W = [] ∨ ∃ b o, a = some ⟨b, o, none⟩) (Bc : Blk h c (itL (.slice a W.length cc) x) T) :
    Cl Tryz.prog χ 244 #[.pointer (some ⟨c, 0, none⟩)] h (fun r h' => ∃ x', Blk h' c (itL (.slice a W.length cc) x') T ∧ posX W.length (pLast W) x' ∧ Keep [c] h h' ∧ RetI a (pLast W) r) := by
  refine zah Tryz.func244 rfl rfl rfl ?_
  have K : Keep [c] h h := Keep.refl _ _
  refine rG <| rA rfl rfl <| rN <| tr_seq <| rG <| rM rfl rfl <| rC rfl rfl <| rF zcw rfl rfl <| rs_v (v_load zcm rfl (by exact Bc.cell _ rfl)) rfl ?_
  refine rs_v (v_len zco rfl) rfl ?_
  refine rs_v (v_eq rfl rfl) rfl <| rN ?_
  refine tr_if rfl (fun hif => ?_) (fun hif => ?_)
  · -- yes
    simp only [dT, dF] at hif
    refine rG <| rA rfl rfl <| rN <| tr_ret <| zaw <| q_ret (zap rfl rfl) ?_
    have hl : W.length = 0 := by omega
    refine ⟨x, Bc, ?_, K, ?_⟩ <;> simp [pLast, hl, posX, RetI]
  -- no
  simp only [dT, dF] at hif
  have hlen : W.length ≠ 0 := by omega
  rcases ha with rfl | ⟨b, o, rfl⟩
  · simp at hlen
  refine zai <| q_thn <| rG <| rM rfl rfl <| rM rfl rfl <| rC rfl rfl <| rF zcw rfl rfl <| rs_v (v_load zcm rfl (by exact Bc.cell _ rfl)) rfl ?_
  refine rs_v (v_len zco rfl) rfl ?_
  refine rs_v (v_sub rfl rfl (by omega) (by omega)) rfl ?_
  refine rC rfl rfl <| rF zbh rfl rfl <| rs_w0 (w_put zer rfl rfl rfl rfl Bc rfl) ?_
  rintro _ h1 ⟨B1, K1⟩
  have Bc := B1; have K := K.new1 K1 (by first | (right; omega) | (left; simp; done)); have Z1 := K1.1
  refine rN <| tr_seq ?_
  refine zbb (by kernel_rfl) (by kernel_rfl) ?_
  refine rq_v (v_move rfl) <| rq_v (zad rfl) <| rq_v (zac zcw rfl) <| rq_v (v_load zcm rfl (by exact Bc.cell _ rfl)) ?_
  refine rq_v (v_move rfl) <| rq_v (zad rfl) <| rq_v (zac zbh rfl) <| rq_v (v_load zbx rfl (by exact Bc.cell _ rfl)) ?_
  refine rq_v (zcn zco zdz rfl rfl (i := W.length - 1) (by omega) (by omega)) ?_
  refine rq_v (zcs rfl) ?_
  refine rm_end ?_; simp only [endM, hypF, ofE, argE]
  refine q_thn <| tr_ret <| q_ret (zap rfl rfl) ?_
  refine ⟨_, Bc, ?_, K, ?_⟩
  · simp [pLast, hlen, posX]; omega
  · simp only [pLast, if_neg hlen, RetI]; exact ⟨b, o, rfl, rfl⟩
theorem c_ItNext (χ : Chi) (h : Heap) (c : Nat) (a : Option Addr) (cc : Nat) (W : List SpanD) (T : TypeId) (hn : W.length ≤ 100000) (x : Int) (i : Nat) (hi : x + 1 = i) (hin : i ≤ W.length) (ha : W = [] ∨ ∃ b o, a = some ⟨b, o, none⟩) (Bc : Blk h c (itL (.slice a W.length cc) x) T) :
    Cl Tryz.prog χ 245 #[.pointer (some ⟨c, 0, none⟩)] h (fun r h' => ∃ x', Blk h' c (itL (.slice a W.length cc) x') T ∧ posX W.length (if i < W.length then Pos.pt i else .behind) x' ∧ Keep [c] h h' ∧ RetI a (if i < W.length then Pos.pt i else .behind) r) := by
  refine zah Tryz.func245 rfl rfl rfl ?_
  have K : Keep [c] h h := Keep.refl _ _
  refine rG <| rA rfl rfl <| rN <| tr_seq <| tr_seq ?_
  refine zbb (by kernel_rfl) (by kernel_rfl) ?_
  refine rq_v (v_move rfl) <| rq_v (zad rfl) <| rq_v (zac zbh rfl) <| rq_v (v_load zbx rfl (by exact Bc.cell _ rfl)) ?_
  refine rq_v (v_move rfl) <| rq_v (zad rfl) <| rq_v (zac zcw rfl) <| rq_v (v_load zcm rfl (by exact Bc.cell _ rfl)) ?_
  refine rq_v (v_len zco rfl) ?_
  refine rq_v (v_ge rfl rfl) ?_
  refine rm_end ?_; simp only [endM, hypF, ofE, argE]
  refine q_thn <| zaf (lkb (decide_eq_false (by omega))) ?_
  refine zai <| q_thn <| rG <| rM rfl rfl <| rC rfl rfl <| rF zbh rfl rfl <| rs_v (v_load zbx rfl (by exact Bc.cell _ rfl)) rfl ?_
  refine rs_v (v_add rfl rfl (by omega) (by omega)) rfl ?_
  refine rC rfl rfl <| rF zbh rfl rfl <| rs_w0 (w_put zer rfl rfl rfl rfl Bc rfl) ?_
  rintro _ h1 ⟨B1, K1⟩
  have Bc := B1; have K := K.new1 K1 (by first | (right; omega) | (left; simp; done)); have Z1 := K1.1
  refine rN <| tr_seq <| tr_seq ?_
  refine zbb (by kernel_rfl) (by kernel_rfl) ?_
  refine rq_v (v_move rfl) <| rq_v (zad rfl) <| rq_v (zac zbh rfl) <| rq_v (v_load zbx rfl (by exact Bc.cell _ rfl)) ?_
  refine rq_v (v_move rfl) <| rq_v (zad rfl) <| rq_v (zac zcw rfl) <| rq_v (v_load zcm rfl (by exact Bc.cell _ rfl)) ?_
  refine rq_v (v_len zco rfl) ?_
  refine rq_v (v_ge rfl rfl) ?_
  refine rm_end ?_; simp only [endM, hypF, ofE, argE]
  refine q_thn ?_
  refine tr_if rfl (fun hif => ?_) (fun hif => ?_)
  · -- yes
    simp only [dT, dF] at hif
    refine rG <| rA rfl rfl <| rN <| tr_ret <| zaw <| q_ret (zap rfl rfl) ?_
    have hl : ¬ i < W.length := by omega
    refine ⟨_, Bc, ?_, K, ?_⟩
    · rw [if_neg hl]; show x + 1 = _; omega
    · rw [if_neg hl]; rfl
  -- no
  simp only [dT, dF] at hif
  have hlen : W.length ≠ 0 := by omega
  rcases ha with rfl | ⟨b, o, rfl⟩
  · simp at hlen
  refine zai <| q_thn <| tr_seq ?_
  refine zbb (by kernel_rfl) (by kernel_rfl) ?_
  refine rq_v (v_move rfl) <| rq_v (zad rfl) <| rq_v (zac zcw rfl) <| rq_v (v_load zcm rfl (by exact Bc.cell _ rfl)) ?_
  refine rq_v (v_move rfl) <| rq_v (zad rfl) <| rq_v (zac zbh rfl) <| rq_v (v_load zbx rfl (by exact Bc.cell _ rfl)) ?_
  refine rq_v (zcn zco zdz rfl rfl (i := i) (by omega) (by omega)) ?_
  refine rq_v (zcs rfl) ?_
  refine rm_end ?_; simp only [endM, hypF, ofE, argE]
  refine q_thn <| tr_ret <| q_ret (zap rfl rfl) ?_
  have hl : i < W.length := by omega
  refine ⟨_, Bc, ?_, K, ?_⟩
  · rw [if_pos hl]; exact ⟨hi, by omega⟩
  · rw [if_pos hl]; exact ⟨b, o, rfl, rfl⟩
theorem c_ItPrev (χ : Chi) (h : Heap) (c : Nat) (a : Option Addr) (cc : Nat) (W : List SpanD) (T : TypeId) (hn : W.length ≤ 100000) (i : Nat) (hin : i ≤ W.length) (ha : W = [] ∨ ∃ b o, a = some ⟨b, o, none⟩) (Bc : Blk h c (itL (.slice a W.length cc) (i : Int)) T) :
    Cl Tryz.prog χ 246 #[.pointer (some ⟨c, 0, none⟩)] h (fun r h' => ∃ x', Blk h' c (itL (.slice a W.length cc) x') T ∧ posX W.length (if i = 0 then Pos.ahead else .pt (i - 1)) x' ∧ Keep [c] h h' ∧ RetI a (if i = 0 then Pos.ahead else .pt (i - 1)) r) := by
  refine zah Tryz.func246 rfl rfl rfl ?_
  have K : Keep [c] h h := Keep.refl _ _
  refine rG <| rA rfl rfl <| rN <| tr_seq <| rG <| rM rfl rfl <| rC rfl rfl <| rF zbh rfl rfl <| rs_v (v_load zbx rfl (by exact Bc.cell _ rfl)) rfl ?_
  refine rs_v (v_lt rfl rfl) rfl <| rN <| zaf (lkb (decide_eq_false (by omega))) ?_
  refine zai <| q_thn <| rG <| rM rfl rfl <| rC rfl rfl <| rF zbh rfl rfl <| rs_v (v_load zbx rfl (by exact Bc.cell _ rfl)) rfl ?_
  refine rs_v (v_sub rfl rfl (by omega) (by omega)) rfl ?_
  refine rC rfl rfl <| rF zbh rfl rfl <| rs_w0 (w_put zer rfl rfl rfl rfl Bc rfl) ?_
  rintro _ h1 ⟨B1, K1⟩
  have Bc := B1; have K := K.new1 K1 (by first | (right; omega) | (left; simp; done)); have Z1 := K1.1
  refine rN <| tr_seq <| rG <| rM rfl rfl <| rC rfl rfl <| rF zbh rfl rfl <| rs_v (v_load zbx rfl (by exact Bc.cell _ rfl)) rfl ?_
  refine rs_v (v_lt rfl rfl) rfl <| rN ?_
  refine tr_if rfl (fun hif => ?_) (fun hif => ?_)
  · -- yes
    simp only [dT, dF] at hif
    refine rG <| rA rfl rfl <| rN <| tr_ret <| zaw <| q_ret (zap rfl rfl) ?_
    have hl : i = 0 := by omega
    refine ⟨_, Bc, ?_, K, ?_⟩
    · rw [if_pos hl]; show (i : Int) - 1 = _; omega
    · rw [if_pos hl]; rfl
  -- no
  simp only [dT, dF] at hif
  have hlen : W.length ≠ 0 := by omega
  rcases ha with rfl | ⟨b, o, rfl⟩
  · simp at hlen
  refine zai <| q_thn <| tr_seq ?_
  refine zbb (by kernel_rfl) (by kernel_rfl) ?_
  refine rq_v (v_move rfl) <| rq_v (zad rfl) <| rq_v (zac zcw rfl) <| rq_v (v_load zcm rfl (by exact Bc.cell _ rfl)) ?_
  refine rq_v (v_move rfl) <| rq_v (zad rfl) <| rq_v (zac zbh rfl) <| rq_v (v_load zbx rfl (by exact Bc.cell _ rfl)) ?_
  refine rq_v (zcn zco zdz rfl rfl (i := i - 1) (by omega) (by omega)) ?_
  refine rq_v (zcs rfl) ?_
  refine rm_end ?_; simp only [endM, hypF, ofE, argE]
  refine q_thn <| tr_ret <| q_ret (zap rfl rfl) ?_
  have hl : ¬ i = 0 := by omega
  refine ⟨_, Bc, ?_, K, ?_⟩
  · rw [if_neg hl]; exact ⟨by omega, by omega⟩
  · rw [if_neg hl]; exact ⟨b, o, rfl, rfl⟩
theorem c_ItSeekGE (χ : Chi) (h : Heap) (c : Nat) (a : Option Addr) (cc : Nat) (W : List SpanD) (T : TypeId) (hn : W.length ≤ 100000) (x : Int) (Bc : Blk h c (itL (.slice a W.length cc) x) T) (G : Nat → Prop) (hW : PSpans G h (.slice a W.length cc) W) (hG : ∀ b, G b → b < h.size ∧ b ≠ c) (hO : Ord W) (kv : Value) (key : ByteArray) (hkey : RBytes (fun b => b ≠ c) h kv key) :
    Cl Tryz.prog χ 247 #[.pointer (some ⟨c, 0, none⟩), kv] h (fun r h' => ∃ x', Blk h' c (itL (.slice a W.length cc) x') T ∧ posX W.length (pGE W key) x' ∧ Keep [c] h h' ∧ RetI a (pGE W key) r) := by
  obtain ⟨_, a', c', e', hxW⟩ := hW.form
  cases e'
  refine zah Tryz.func247 rfl rfl rfl ?_
  have K : Keep [c] h h := Keep.refl _ _
  refine rG <| rA rfl rfl <| rN <| rG <| rM rfl rfl <| rC rfl rfl <| rF zbh rfl rfl <| rs_w0 (w_put zer rfl rfl rfl rfl Bc rfl) ?_
  rintro _ h1 ⟨B1, K1⟩
  have Bc := B1; have K := K.new1 K1 (by first | (right; omega) | (left; simp; done)); have Z1 := K1.1
  refine rN <| rG <| rM rfl rfl <| rC rfl rfl <| rF zcw rfl rfl <| rs_v (v_load zcm rfl (by exact Bc.cell _ rfl)) rfl ?_
  refine rs_v (v_len zco rfl) rfl ?_
  refine rA rfl rfl <| rN <| tr_seq <| zal ?_
  refine zdd (fun m E h' => ∃ lo hi hiI, hiI = ((hi : Nat) : Int) ∧ lo ≤ hi ∧ hi ≤ W.length ∧ m = hi - lo ∧ E = [(0, .pointer (some ⟨c, 0, none⟩)), (1, kv), (5, .int .i64 hiI)] ∧ Keep [c] h h' ∧ Blk h' c (itL (.slice a W.length cc) (lo : Int)) T ∧ (∀ (j : Nat) s, j < lo → W[j]? = some s → sle s.e key = true) ∧ (hi = W.length ∨ ∃ s, W[hi]? = some s ∧ sle s.e key = false)) W.length [(0, _), (1, _), (5, _)] ⟨rfl, rfl, rfl, trivial⟩ ⟨0, W.length, _, rfl, Nat.zero_le _, Nat.le_refl _, by omega, rfl, K, Bc, fun j s hj => by omega, .inl rfl⟩ ?_
  rintro m E hL2 ⟨lo, hi, hiI, hiE, hlh, hhi, rfl, rfl, K, Bc, hbe0, hab⟩
  subst hiE
  refine tr_seq <| rG <| rM rfl rfl <| rC rfl rfl <| rF zbh rfl rfl <| rs_v (v_load zbx rfl (by exact Bc.cell _ rfl)) rfl ?_
  refine rM rfl rfl <| rs_v (v_lt rfl rfl) rfl <| rN ?_
  refine tr_ifn rfl (fun hif => ?_) (fun hif => ?_)
  · -- no
    simp only [dT, dF] at hif
    have hll : lo = hi := by omega
    subst hll
    have hg := zqj W key lo hbe0 hab
    refine zda <| zcb <| zcq <| zcf <| q_thn <| tr_seq <| tr_seq ?_
    refine zbb (by kernel_rfl) (by kernel_rfl) ?_
    refine rq_v (v_move rfl) <| rq_v (zad rfl) <| rq_v (zac zbh rfl) <| rq_v (v_load zbx rfl (by exact Bc.cell _ rfl)) ?_
    refine rq_v (v_move rfl) <| rq_v (zad rfl) <| rq_v (zac zcw rfl) <| rq_v (v_load zcm rfl (by exact Bc.cell _ rfl)) ?_
    refine rq_v (v_len zco rfl) ?_
    refine rq_v (v_ge rfl rfl) ?_
    refine rm_end ?_; simp only [endM, hypF, ofE, argE]
    refine q_thn ?_
    refine tr_if rfl (fun hif => ?_) (fun hif => ?_)
    · -- yes
      simp only [dT, dF] at hif
      refine rG <| rA rfl rfl <| rN <| tr_ret <| zaw <| q_ret (zap rfl rfl) ?_
      have e : lo = W.length := by omega
      subst e
      rw [show pGE W key = .behind from by simp [pGE, hg]]
      exact ⟨_, Bc, rfl, K, rfl⟩
    -- no
    simp only [dT, dF] at hif
    rcases hxW with rfl | ⟨b, o, rfl, hGb, hR⟩
    · exfalso; simp only [List.length_nil] at *; omega
    refine zai <| q_thn <| tr_seq ?_
    refine zbb (by kernel_rfl) (by kernel_rfl) ?_
    refine rq_v (v_move rfl) <| rq_v (zad rfl) <| rq_v (zac zcw rfl) <| rq_v (v_load zcm rfl (by exact Bc.cell _ rfl)) ?_
    refine rq_v (v_move rfl) <| rq_v (zad rfl) <| rq_v (zac zbh rfl) <| rq_v (v_load zbx rfl (by exact Bc.cell _ rfl)) ?_
    refine rq_v (zcn zco zdz rfl rfl (i := lo) rfl (by omega)) ?_
    refine rq_v (zcs rfl) ?_
    refine rm_end ?_; simp only [endM, hypF, ofE, argE]
    refine q_thn <| tr_ret <| q_ret (zap rfl rfl) ?_
    have hl : lo < W.length := by omega
    rw [show pGE W key = .pt lo from by simp [pGE, hg, hl]]
    exact ⟨_, Bc, ⟨rfl, by omega⟩, K, ⟨b, o, rfl, rfl⟩⟩
  -- yes
  simp only [dT, dF] at hif
  obtain ⟨y, hy⟩ := ex_get (L := W) (k := (lo + hi) / 2) (by omega)
  have hml : (lo + hi) / 2 < W.length := (List.getElem?_eq_some_iff.1 hy).1
  rcases hxW with rfl | ⟨b, o, rfl, hGb, hR⟩
  · simp at hml
  obtain ⟨sv, ev, kv2, kk, hcell, r1, r2, r3⟩ := hR _ y hy
  have hSt : Stab G h hL2 := K.stab fun b hb => ⟨(hG b hb).1, by simpa using (hG b hb).2⟩
  have hend := hSt.cells hGb hcell
  have hbe := RBytes.by (r2.stab hSt)
  have hke : RBy hL2 kv key := RBytes.by ((RBytes.lowen hkey).stab (K.stab fun b hb => ⟨hb.2, by simpa using hb.1⟩))
  refine zai <| q_thn <| zal <| rG <| rM rfl rfl <| rC rfl rfl <| rF zbh rfl rfl <| rs_v (v_load zbx rfl (by exact Bc.cell _ rfl)) rfl ?_
  refine rM rfl rfl <| rs_v (v_add rfl rfl (by omega) (by omega)) rfl ?_
  refine rs_v (zql u_int u_uint rfl (by omega) (by omega)) rfl ?_
  refine rs_v (v_shr1 (k := .u64) rfl rfl) rfl ?_
  refine rs_v (v_conv_i64 u_uint u_int rfl (by omega) (by omega)) rfl ?_
  refine rA rfl rfl <| rN <| tr_seq ?_
  refine zbb (by kernel_rfl) (by kernel_rfl) ?_
  refine rq_v (v_move rfl) <| rq_v (zad rfl) <| rq_v (zac znt rfl) <| rq_v (v_load zbz rfl (by exact Bc.cell _ rfl)) ?_
  refine rq_v (v_move rfl) <| rq_v (v_move rfl) <| rq_v (zad rfl) <| rq_v (zac zcw rfl) <| rq_v (v_load zcm rfl (by exact Bc.cell _ rfl)) ?_
  refine rq_v (v_move rfl) <| rq_v (zcn zco zdz rfl rfl (i := (lo + hi) / 2) (by omega) (by omega)) ?_
  refine rq_v (zac zep rfl) <| rq_v (v_load zau rfl (by exact hend.at 1 rfl)) ?_
  refine rq_w (zeq (first := []) (cap := []) (vs := [_, _]) zcd rfl ⟨rfl, rfl, trivial⟩ (zdx χ _ _ _ key y.e hke hbe)) ?_
  refine rq_v (v_ge rfl rfl) ?_
  refine rm_end ?_; simp only [endM, hypF, ofE, argE]
  refine q_thn ?_
  refine tr_if rfl (fun hif => ?_) (fun hif => ?_)
  · -- yes
    simp only [dT, dF] at hif
    refine tr_reg <| rM rfl rfl <| rM rfl rfl <| rs_v (v_add rfl rfl (by omega) (by omega)) rfl ?_
    refine rC rfl rfl <| rF zbh rfl rfl <| rs_w0 (w_put zer rfl rfl rfl rfl Bc rfl) ?_
    rintro _ h3 ⟨B3, K3⟩
    have Bc := B3; have K := K.new1 K3 (by first | (right; omega) | (left; simp; done)); have Z3 := K3.1
    refine rs_nil <| zbc ?_
    refine q_lp (hi - ((lo + hi) / 2 + 1)) [(0, _), (1, _), (5, _)] (by omega) ⟨rfl, rfl, rfl, trivial⟩ ⟨(lo + hi) / 2 + 1, hi, _, rfl, by omega, hhi, rfl, rfl, K, ?_, ?_, hab⟩
    · have e : ((lo : Int) + hi) / 2 + 1 = (((lo + hi) / 2 + 1 : Nat) : Int) := by omega
      rw [← e]; exact Bc
    · intro j s hj hs
      have h1 : sle y.e key = true := by rw [zfq, zfb key y.e]; omega
      exact zee (hO.ends (by omega) hs hy) h1
  -- no
  simp only [dT, dF] at hif
  refine tr_reg <| rM rfl rfl <| rA rfl rfl <| rs_nil <| zbc ?_
  refine q_lp ((lo + hi) / 2 - lo) [(0, _), (1, _), (5, _)] (by omega) ⟨rfl, rfl, rfl, trivial⟩ ⟨lo, (lo + hi) / 2, _, by omega, by omega, by omega, rfl, rfl, K, Bc, hbe0, .inr ⟨y, hy, ?_⟩⟩
  rw [sle_no, zfb key y.e]; omega
theorem c_ItSeekLT (χ : Chi) (h : Heap) (c : Nat) (a : Option Addr) (cc : Nat) (W : List SpanD) (T : TypeId) (hn : W.length ≤ 100000) (x : Int) (Bc : Blk h c (itL (.slice a W.length cc) x) T) (G : Nat → Prop) (hW : PSpans G h (.slice a W.length cc) W) (hG : ∀ b, G b → b < h.size ∧ b ≠ c) (hO : Ord W) (kv : Value) (key : ByteArray) (hkey : RBytes (fun b => b ≠ c) h kv key) :
    Cl Tryz.prog χ 248 #[.pointer (some ⟨c, 0, none⟩), kv] h (fun r h' => ∃ x', Blk h' c (itL (.slice a W.length cc) x') T ∧ posX W.length (pLT W key) x' ∧ Keep [c] h h' ∧ RetI a (pLT W key) r) := by
  obtain ⟨_, a', c', e', hxW⟩ := hW.form
  cases e'
  refine zah Tryz.func248 rfl rfl rfl ?_
  have K : Keep [c] h h := Keep.refl _ _
  refine rG <| rA rfl rfl <| rN <| rG <| rM rfl rfl <| rC rfl rfl <| rF zbh rfl rfl <| rs_w0 (w_put zer rfl rfl rfl rfl Bc rfl) ?_
  rintro _ h1 ⟨B1, K1⟩
  have Bc := B1; have K := K.new1 K1 (by first | (right; omega) | (left; simp; done)); have Z1 := K1.1
  refine rN <| rG <| rM rfl rfl <| rC rfl rfl <| rF zcw rfl rfl <| rs_v (v_load zcm rfl (by exact Bc.cell _ rfl)) rfl ?_
  refine rs_v (v_len zco rfl) rfl ?_
  refine rA rfl rfl <| rN <| tr_seq <| zal ?_
  refine zdd (fun m E h' => ∃ lo hi hiI, hiI = ((hi : Nat) : Int) ∧ lo ≤ hi ∧ hi ≤ W.length ∧ m = hi - lo ∧ E = [(0, .pointer (some ⟨c, 0, none⟩)), (1, kv), (5, .int .i64 hiI)] ∧ Keep [c] h h' ∧ Blk h' c (itL (.slice a W.length cc) (lo : Int)) T ∧ (∀ (j : Nat) s, j < lo → W[j]? = some s → slt s.s key = true) ∧ (hi = W.length ∨ ∃ s, W[hi]? = some s ∧ slt s.s key = false)) W.length [(0, _), (1, _), (5, _)] ⟨rfl, rfl, rfl, trivial⟩ ⟨0, W.length, _, rfl, Nat.zero_le _, Nat.le_refl _, by omega, rfl, K, Bc, fun j s hj => by omega, .inl rfl⟩ ?_
  rintro m E hL2 ⟨lo, hi, hiI, hiE, hlh, hhi, rfl, rfl, K, Bc, hbe0, hab⟩
  subst hiE
  refine tr_seq <| rG <| rM rfl rfl <| rC rfl rfl <| rF zbh rfl rfl <| rs_v (v_load zbx rfl (by exact Bc.cell _ rfl)) rfl ?_
  refine rM rfl rfl <| rs_v (v_lt rfl rfl) rfl <| rN ?_
  refine tr_ifn rfl (fun hif => ?_) (fun hif => ?_)
  · -- no
    simp only [dT, dF] at hif
    have hll : lo = hi := by omega
    subst hll
    have hg : ltI W key = lo := by
      refine zqk W key lo (fun j s hj hs => ?_) ?_
      · rcases hab with he | ⟨t, ht, hts⟩
        · have := (List.getElem?_eq_some_iff.1 hs).1; omega
        · rw [zgb] at hts ⊢
          exact zee hts (hO.starts hj ht hs)
      · by_cases e : lo = 0
        · exact .inl e
        · obtain ⟨s, hs⟩ := ex_get (L := W) (k := lo - 1) (by omega)
          exact .inr ⟨s, hs, hbe0 _ s (by omega) hs⟩
    refine zda <| zcb <| zcq <| zcf <| q_thn <| rG <| rM rfl rfl <| rC rfl rfl <| rF zbh rfl rfl <| rs_v (v_load zbx rfl (by exact Bc.cell _ rfl)) rfl ?_
    refine rs_v (v_sub rfl rfl (by omega) (by omega)) rfl ?_
    refine rC rfl rfl <| rF zbh rfl rfl <| rs_w0 (w_put zer rfl rfl rfl rfl Bc rfl) ?_
    rintro _ h3 ⟨B3, K3⟩
    have Bc := B3; have K := K.new1 K3 (by first | (right; omega) | (left; simp; done)); have Z3 := K3.1
    refine rN <| tr_seq <| rG <| rM rfl rfl <| rC rfl rfl <| rF zbh rfl rfl <| rs_v (v_load zbx rfl (by exact Bc.cell _ rfl)) rfl ?_
    refine rs_v (v_lt rfl rfl) rfl <| rN ?_
    refine tr_if rfl (fun hif => ?_) (fun hif => ?_)
    · -- yes
      simp only [dT, dF] at hif
      refine rG <| rA rfl rfl <| rN <| tr_ret <| zaw <| q_ret (zap rfl rfl) ?_
      have e : lo = 0 := by omega
      subst e
      rw [show pLT W key = .ahead from by simp [pLT, hg]]
      exact ⟨_, Bc, rfl, K, rfl⟩
    -- no
    simp only [dT, dF] at hif
    rcases hxW with rfl | ⟨b, o, rfl, hGb, hR⟩
    · exfalso; simp only [List.length_nil] at *; omega
    refine zai <| q_thn <| tr_seq ?_
    refine zbb (by kernel_rfl) (by kernel_rfl) ?_
    refine rq_v (v_move rfl) <| rq_v (zad rfl) <| rq_v (zac zcw rfl) <| rq_v (v_load zcm rfl (by exact Bc.cell _ rfl)) ?_
    refine rq_v (v_move rfl) <| rq_v (zad rfl) <| rq_v (zac zbh rfl) <| rq_v (v_load zbx rfl (by exact Bc.cell _ rfl)) ?_
    refine rq_v (zcn zco zdz rfl rfl (i := lo - 1) (by omega) (by omega)) ?_
    refine rq_v (zcs rfl) ?_
    refine rm_end ?_; simp only [endM, hypF, ofE, argE]
    refine q_thn <| tr_ret <| q_ret (zap rfl rfl) ?_
    have hl : ¬ lo = 0 := by omega
    rw [show pLT W key = .pt (lo - 1) from by simp [pLT, hg, hl]]
    exact ⟨_, Bc, ⟨by omega, by omega⟩, K, ⟨b, o, rfl, rfl⟩⟩
  -- yes
  simp only [dT, dF] at hif
  obtain ⟨y, hy⟩ := ex_get (L := W) (k := (lo + hi) / 2) (by omega)
  have hml : (lo + hi) / 2 < W.length := (List.getElem?_eq_some_iff.1 hy).1
  rcases hxW with rfl | ⟨b, o, rfl, hGb, hR⟩
  · simp at hml
  obtain ⟨sv, ev, kv2, kk, hcell, r1, r2, r3⟩ := hR _ y hy
  have hSt : Stab G h hL2 := K.stab fun b hb => ⟨(hG b hb).1, by simpa using (hG b hb).2⟩
  have hend := hSt.cells hGb hcell
  have hbe := RBytes.by (r1.stab hSt)
  have hke : RBy hL2 kv key := RBytes.by ((RBytes.lowen hkey).stab (K.stab fun b hb => ⟨hb.2, by simpa using hb.1⟩))
  refine zai <| q_thn <| zal <| rG <| rM rfl rfl <| rC rfl rfl <| rF zbh rfl rfl <| rs_v (v_load zbx rfl (by exact Bc.cell _ rfl)) rfl ?_
  refine rM rfl rfl <| rs_v (v_add rfl rfl (by omega) (by omega)) rfl ?_
  refine rs_v (zql u_int u_uint rfl (by omega) (by omega)) rfl ?_
  refine rs_v (v_shr1 (k := .u64) rfl rfl) rfl ?_
  refine rs_v (v_conv_i64 u_uint u_int rfl (by omega) (by omega)) rfl ?_
  refine rA rfl rfl <| rN <| tr_seq ?_
  refine zbb (by kernel_rfl) (by kernel_rfl) ?_
  refine rq_v (v_move rfl) <| rq_v (zad rfl) <| rq_v (zac znt rfl) <| rq_v (v_load zbz rfl (by exact Bc.cell _ rfl)) ?_
  refine rq_v (v_move rfl) <| rq_v (v_move rfl) <| rq_v (zad rfl) <| rq_v (zac zcw rfl) <| rq_v (v_load zcm rfl (by exact Bc.cell _ rfl)) ?_
  refine rq_v (v_move rfl) <| rq_v (zcn zco zdz rfl rfl (i := (lo + hi) / 2) (by omega) (by omega)) ?_
  refine rq_v (zac zea rfl) <| rq_v (v_load zau rfl (by exact hend.at 0 rfl)) ?_
  refine rq_w (zeq (first := []) (cap := []) (vs := [_, _]) zcd rfl ⟨rfl, rfl, trivial⟩ (zdx χ _ _ _ key y.s hke hbe)) ?_
  refine rq_v (v_gt rfl rfl) ?_
  refine rm_end ?_; simp only [endM, hypF, ofE, argE]
  refine q_thn ?_
  refine tr_if rfl (fun hif => ?_) (fun hif => ?_)
  · -- yes
    simp only [dT, dF] at hif
    refine tr_reg <| rM rfl rfl <| rM rfl rfl <| rs_v (v_add rfl rfl (by omega) (by omega)) rfl ?_
    refine rC rfl rfl <| rF zbh rfl rfl <| rs_w0 (w_put zer rfl rfl rfl rfl Bc rfl) ?_
    rintro _ h4 ⟨B4, K4⟩
    have Bc := B4; have K := K.new1 K4 (by first | (right; omega) | (left; simp; done)); have Z4 := K4.1
    refine rs_nil <| zbc ?_
    refine q_lp (hi - ((lo + hi) / 2 + 1)) [(0, _), (1, _), (5, _)] (by omega) ⟨rfl, rfl, rfl, trivial⟩ ⟨(lo + hi) / 2 + 1, hi, _, rfl, by omega, hhi, rfl, rfl, K, ?_, ?_, hab⟩
    · have e : ((lo : Int) + hi) / 2 + 1 = (((lo + hi) / 2 + 1 : Nat) : Int) := by omega
      rw [← e]; exact Bc
    · intro j s hj hs
      have h1 : slt y.s key = true := by rw [zgs, zfb key y.s]; omega
      exact zjz (hO.starts (by omega) hs hy) h1
  -- no
  simp only [dT, dF] at hif
  refine tr_reg <| rM rfl rfl <| rA rfl rfl <| rs_nil <| zbc ?_
  refine q_lp ((lo + hi) / 2 - lo) [(0, _), (1, _), (5, _)] (by omega) ⟨rfl, rfl, rfl, trivial⟩ ⟨lo, (lo + hi) / 2, _, by omega, by omega, by omega, rfl, rfl, K, Bc, hbe0, .inr ⟨y, hy, ?_⟩⟩
  rw [slt_no, zfb key y.s]; omega
theorem m_ItFirst (v : Value) : Meth Tryz.prog 131 v "First" 243 v := fun _ => by kernel_rfl
theorem m_ItLast (v : Value) : Meth Tryz.prog 131 v "Last" 244 v := fun _ => by kernel_rfl
theorem m_ItNext (v : Value) : Meth Tryz.prog 131 v "Next" 245 v := fun _ => by kernel_rfl
theorem m_ItPrev (v : Value) : Meth Tryz.prog 131 v "Prev" 246 v := fun _ => by kernel_rfl
theorem m_ItSeekGE (v : Value) : Meth Tryz.prog 131 v "SeekGE" 247 v := fun _ => by kernel_rfl
theorem m_ItSeekLT (v : Value) : Meth Tryz.prog 131 v "SeekLT" 248 v := fun _ => by kernel_rfl
theorem m_ItError (v : Value) : Meth Tryz.prog 131 v "Error" 242 v := fun _ => by kernel_rfl
theorem c_ItError (χ : Chi) (h : Heap) (v : Value) : Cl Tryz.prog χ 242 #[v] h (fun r h' => r = .nilIface ∧ h' = h) := by
  refine zah Tryz.func242 rfl rfl rfl ?_
  have K : Keep [] h h := Keep.refl _ _
  refine rG <| rA rfl rfl <| rN <| rG <| rA rfl rfl <| rN <| tr_ret <| q_ret (zap rfl rfl) ?_
  exact ⟨rfl, rfl⟩

theorem c_taken_0 (χ : Chi) (h : Heap) (ok : Bool) (last : Int)  :
    Cl Tryz.prog χ 100 #[.int .u8 0, .bool ok, .int .u8 last] h (fun r h' => r = .bool true ∧ h' = h) := by
  refine zah Tryz.func100 rfl rfl rfl ?_
  have K : Keep [] h h := Keep.refl _ _
  refine rG <| rA rfl rfl <| rN <| tr_seq <| rG <| rM rfl rfl <| rN <| zal <| tr_seq <| rG <| rs_v (v_eq rfl rfl) rfl <| rA rfl rfl <| rN <| zax rfl ?_
  refine zai <| q_thn <| zax rfl ?_
  refine rG <| rA rfl rfl <| rN <| tr_ret <| zbs <| zaw <| q_ret (zap rfl rfl) ?_
  exact ⟨rfl, rfl⟩
theorem c_taken_1 (χ : Chi) (h : Heap) (ok : Bool) (last : Int)  :
    Cl Tryz.prog χ 100 #[.int .u8 1, .bool ok, .int .u8 last] h (fun r h' => r = .bool true ∧ h' = h) := by
  refine zah Tryz.func100 rfl rfl rfl ?_
  have K : Keep [] h h := Keep.refl _ _
  refine rG <| rA rfl rfl <| rN <| tr_seq <| rG <| rM rfl rfl <| rN <| zal <| tr_seq <| rG <| rs_v (v_eq rfl rfl) rfl <| rA rfl rfl <| rN <| zaf rfl ?_
  refine rG <| rs_v (v_eq rfl rfl) rfl <| rA rfl rfl <| rN <| zax rfl ?_
  refine zai <| q_thn <| zax rfl ?_
  refine rG <| rA rfl rfl <| rN <| tr_ret <| zbs <| zaw <| q_ret (zap rfl rfl) ?_
  exact ⟨rfl, rfl⟩
theorem c_taken_4 (χ : Chi) (h : Heap) (ok : Bool) (last : Int)  :
    Cl Tryz.prog χ 100 #[.int .u8 4, .bool ok, .int .u8 last] h (fun r h' => r = .bool true ∧ h' = h) := by
  refine zah Tryz.func100 rfl rfl rfl ?_
  have K : Keep [] h h := Keep.refl _ _
  refine rG <| rA rfl rfl <| rN <| tr_seq <| rG <| rM rfl rfl <| rN <| zal <| tr_seq <| rG <| rs_v (v_eq rfl rfl) rfl <| rA rfl rfl <| rN <| zaf rfl ?_
  refine rG <| rs_v (v_eq rfl rfl) rfl <| rA rfl rfl <| rN <| zaf rfl ?_
  refine rG <| rs_v (v_eq rfl rfl) rfl <| rA rfl rfl <| rN <| zax rfl ?_
  refine zai <| q_thn <| zax rfl ?_
  refine rG <| rA rfl rfl <| rN <| tr_ret <| zbs <| zaw <| q_ret (zap rfl rfl) ?_
  exact ⟨rfl, rfl⟩
theorem c_taken_5 (χ : Chi) (h : Heap) (ok : Bool) (last : Int)  :
    Cl Tryz.prog χ 100 #[.int .u8 5, .bool ok, .int .u8 last] h (fun r h' => r = .bool true ∧ h' = h) := by
  refine zah Tryz.func100 rfl rfl rfl ?_
  have K : Keep [] h h := Keep.refl _ _
  refine rG <| rA rfl rfl <| rN <| tr_seq <| rG <| rM rfl rfl <| rN <| zal <| tr_seq <| rG <| rs_v (v_eq rfl rfl) rfl <| rA rfl rfl <| rN <| zaf rfl ?_
  refine rG <| rs_v (v_eq rfl rfl) rfl <| rA rfl rfl <| rN <| zaf rfl ?_
  refine rG <| rs_v (v_eq rfl rfl) rfl <| rA rfl rfl <| rN <| zaf rfl ?_
  refine tr_reg <| rs_v (v_eq rfl rfl) rfl <| rA rfl rfl <| rN <| zax rfl ?_
  refine rG <| rA rfl rfl <| rN <| tr_ret <| zbs <| zaw <| q_ret (zap rfl rfl) ?_
  exact ⟨rfl, rfl⟩
theorem c_taken_2t (χ : Chi) (h : Heap) (last : Int)  :
    Cl Tryz.prog χ 100 #[.int .u8 2, .bool true, .int .u8 last] h (fun r h' => r = .bool true ∧ h' = h) := by
  refine zah Tryz.func100 rfl rfl rfl ?_
  have K : Keep [] h h := Keep.refl _ _
  refine rG <| rA rfl rfl <| rN <| tr_seq <| rG <| rM rfl rfl <| rN <| zal <| tr_seq <| rG <| rs_v (v_eq rfl rfl) rfl <| rA rfl rfl <| rN <| zaf rfl ?_
  refine rG <| rs_v (v_eq rfl rfl) rfl <| rA rfl rfl <| rN <| zaf rfl ?_
  refine rG <| rs_v (v_eq rfl rfl) rfl <| rA rfl rfl <| rN <| zaf rfl ?_
  refine tr_reg <| rs_v (v_eq rfl rfl) rfl <| rA rfl rfl <| rN <| zaf rfl ?_
  refine rG <| rs_v (v_eq rfl rfl) rfl <| rA rfl rfl <| rN <| zax rfl ?_
  refine rG <| rM rfl rfl <| rM rfl rfl <| rs_gs rfl rfl rfl rfl <| rs_gs rfl rfl rfl rfl <| rs_v (zbd rfl rfl) rfl ?_
  refine rM rfl rfl <| rs_gs rfl rfl rfl rfl <| rs_gs rfl rfl rfl rfl <| rs_v (zbd rfl rfl) rfl ?_
  refine rA rfl rfl <| rN <| tr_ret <| zbs <| zaw <| q_ret (zap rfl rfl) ?_
  exact ⟨rfl, rfl⟩
theorem c_taken_2f0 (χ : Chi) (h : Heap)  :
    Cl Tryz.prog χ 100 #[.int .u8 2, .bool false, .int .u8 0] h (fun r h' => r = .bool false ∧ h' = h) := by
  refine zah Tryz.func100 rfl rfl rfl ?_
  have K : Keep [] h h := Keep.refl _ _
  refine rG <| rA rfl rfl <| rN <| tr_seq <| rG <| rM rfl rfl <| rN <| zal <| tr_seq <| rG <| rs_v (v_eq rfl rfl) rfl <| rA rfl rfl <| rN <| zaf rfl ?_
  refine rG <| rs_v (v_eq rfl rfl) rfl <| rA rfl rfl <| rN <| zaf rfl ?_
  refine rG <| rs_v (v_eq rfl rfl) rfl <| rA rfl rfl <| rN <| zaf rfl ?_
  refine tr_reg <| rs_v (v_eq rfl rfl) rfl <| rA rfl rfl <| rN <| zaf rfl ?_
  refine rG <| rs_v (v_eq rfl rfl) rfl <| rA rfl rfl <| rN <| zax rfl ?_
  refine rG <| rM rfl rfl <| rM rfl rfl <| rs_gv rfl rfl (v_move rfl) rfl <| rs_gv rfl rfl (v_eq rfl rfl) rfl ?_
  refine rs_v (zar rfl rfl) rfl ?_
  refine rM rfl rfl <| rs_gv rfl rfl (v_move rfl) rfl <| rs_gv rfl rfl (v_eq rfl rfl) rfl ?_
  refine rs_v (zar rfl rfl) rfl ?_
  refine rA rfl rfl <| rN <| tr_ret <| zbs <| zaw <| q_ret (zap rfl rfl) ?_
  exact ⟨rfl, rfl⟩
theorem c_taken_2f1 (χ : Chi) (h : Heap)  :
    Cl Tryz.prog χ 100 #[.int .u8 2, .bool false, .int .u8 1] h (fun r h' => r = .bool false ∧ h' = h) := by
  refine zah Tryz.func100 rfl rfl rfl ?_
  have K : Keep [] h h := Keep.refl _ _
  refine rG <| rA rfl rfl <| rN <| tr_seq <| rG <| rM rfl rfl <| rN <| zal <| tr_seq <| rG <| rs_v (v_eq rfl rfl) rfl <| rA rfl rfl <| rN <| zaf rfl ?_
  refine rG <| rs_v (v_eq rfl rfl) rfl <| rA rfl rfl <| rN <| zaf rfl ?_
  refine rG <| rs_v (v_eq rfl rfl) rfl <| rA rfl rfl <| rN <| zaf rfl ?_
  refine tr_reg <| rs_v (v_eq rfl rfl) rfl <| rA rfl rfl <| rN <| zaf rfl ?_
  refine rG <| rs_v (v_eq rfl rfl) rfl <| rA rfl rfl <| rN <| zax rfl ?_
  refine rG <| rM rfl rfl <| rM rfl rfl <| rs_gv rfl rfl (v_move rfl) rfl <| rs_gv rfl rfl (v_eq rfl rfl) rfl ?_
  refine rs_v (zar rfl rfl) rfl ?_
  refine rM rfl rfl <| rs_gv rfl rfl (v_move rfl) rfl <| rs_gv rfl rfl (v_eq rfl rfl) rfl ?_
  refine rs_v (zar rfl rfl) rfl ?_
  refine rA rfl rfl <| rN <| tr_ret <| zbs <| zaw <| q_ret (zap rfl rfl) ?_
  exact ⟨rfl, rfl⟩
theorem c_taken_2f2 (χ : Chi) (h : Heap)  :
    Cl Tryz.prog χ 100 #[.int .u8 2, .bool false, .int .u8 2] h (fun r h' => r = .bool false ∧ h' = h) := by
  refine zah Tryz.func100 rfl rfl rfl ?_
  have K : Keep [] h h := Keep.refl _ _
  refine rG <| rA rfl rfl <| rN <| tr_seq <| rG <| rM rfl rfl <| rN <| zal <| tr_seq <| rG <| rs_v (v_eq rfl rfl) rfl <| rA rfl rfl <| rN <| zaf rfl ?_
  refine rG <| rs_v (v_eq rfl rfl) rfl <| rA rfl rfl <| rN <| zaf rfl ?_
  refine rG <| rs_v (v_eq rfl rfl) rfl <| rA rfl rfl <| rN <| zaf rfl ?_
  refine tr_reg <| rs_v (v_eq rfl rfl) rfl <| rA rfl rfl <| rN <| zaf rfl ?_
  refine rG <| rs_v (v_eq rfl rfl) rfl <| rA rfl rfl <| rN <| zax rfl ?_
  refine rG <| rM rfl rfl <| rM rfl rfl <| rs_gv rfl rfl (v_move rfl) rfl <| rs_gv rfl rfl (v_eq rfl rfl) rfl ?_
  refine rs_v (zar rfl rfl) rfl ?_
  refine rM rfl rfl <| rs_gv rfl rfl (v_move rfl) rfl <| rs_gv rfl rfl (v_eq rfl rfl) rfl ?_
  refine rs_v (zar rfl rfl) rfl ?_
  refine rA rfl rfl <| rN <| tr_ret <| zbs <| zaw <| q_ret (zap rfl rfl) ?_
  exact ⟨rfl, rfl⟩
theorem c_taken_2f3 (χ : Chi) (h : Heap)  :
    Cl Tryz.prog χ 100 #[.int .u8 2, .bool false, .int .u8 3] h (fun r h' => r = .bool true ∧ h' = h) := by
  refine zah Tryz.func100 rfl rfl rfl ?_
  have K : Keep [] h h := Keep.refl _ _
  refine rG <| rA rfl rfl <| rN <| tr_seq <| rG <| rM rfl rfl <| rN <| zal <| tr_seq <| rG <| rs_v (v_eq rfl rfl) rfl <| rA rfl rfl <| rN <| zaf rfl ?_
  refine rG <| rs_v (v_eq rfl rfl) rfl <| rA rfl rfl <| rN <| zaf rfl ?_
  refine rG <| rs_v (v_eq rfl rfl) rfl <| rA rfl rfl <| rN <| zaf rfl ?_
  refine tr_reg <| rs_v (v_eq rfl rfl) rfl <| rA rfl rfl <| rN <| zaf rfl ?_
  refine rG <| rs_v (v_eq rfl rfl) rfl <| rA rfl rfl <| rN <| zax rfl ?_
  refine rG <| rM rfl rfl <| rM rfl rfl <| rs_gv rfl rfl (v_move rfl) rfl <| rs_gv rfl rfl (v_eq rfl rfl) rfl ?_
  refine rs_v (zar rfl rfl) rfl ?_
  refine rM rfl rfl <| rs_gv rfl rfl (v_move rfl) rfl <| rs_gv rfl rfl (v_eq rfl rfl) rfl ?_
  refine rs_v (zar rfl rfl) rfl ?_
  refine rA rfl rfl <| rN <| tr_ret <| zbs <| zaw <| q_ret (zap rfl rfl) ?_
  exact ⟨rfl, rfl⟩
theorem c_taken_2f4 (χ : Chi) (h : Heap)  :
    Cl Tryz.prog χ 100 #[.int .u8 2, .bool false, .int .u8 4] h (fun r h' => r = .bool false ∧ h' = h) := by
  refine zah Tryz.func100 rfl rfl rfl ?_
  have K : Keep [] h h := Keep.refl _ _
  refine rG <| rA rfl rfl <| rN <| tr_seq <| rG <| rM rfl rfl <| rN <| zal <| tr_seq <| rG <| rs_v (v_eq rfl rfl) rfl <| rA rfl rfl <| rN <| zaf rfl ?_
  refine rG <| rs_v (v_eq rfl rfl) rfl <| rA rfl rfl <| rN <| zaf rfl ?_
  refine rG <| rs_v (v_eq rfl rfl) rfl <| rA rfl rfl <| rN <| zaf rfl ?_
  refine tr_reg <| rs_v (v_eq rfl rfl) rfl <| rA rfl rfl <| rN <| zaf rfl ?_
  refine rG <| rs_v (v_eq rfl rfl) rfl <| rA rfl rfl <| rN <| zax rfl ?_
  refine rG <| rM rfl rfl <| rM rfl rfl <| rs_gv rfl rfl (v_move rfl) rfl <| rs_gv rfl rfl (v_eq rfl rfl) rfl ?_
  refine rs_v (zar rfl rfl) rfl ?_
  refine rM rfl rfl <| rs_gv rfl rfl (v_move rfl) rfl <| rs_gv rfl rfl (v_eq rfl rfl) rfl ?_
  refine rs_v (zar rfl rfl) rfl ?_
  refine rA rfl rfl <| rN <| tr_ret <| zbs <| zaw <| q_ret (zap rfl rfl) ?_
  exact ⟨rfl, rfl⟩
theorem c_taken_2f5 (χ : Chi) (h : Heap)  :
    Cl Tryz.prog χ 100 #[.int .u8 2, .bool false, .int .u8 5] h (fun r h' => r = .bool true ∧ h' = h) := by
  refine zah Tryz.func100 rfl rfl rfl ?_
  have K : Keep [] h h := Keep.refl _ _
  refine rG <| rA rfl rfl <| rN <| tr_seq <| rG <| rM rfl rfl <| rN <| zal <| tr_seq <| rG <| rs_v (v_eq rfl rfl) rfl <| rA rfl rfl <| rN <| zaf rfl ?_
  refine rG <| rs_v (v_eq rfl rfl) rfl <| rA rfl rfl <| rN <| zaf rfl ?_
  refine rG <| rs_v (v_eq rfl rfl) rfl <| rA rfl rfl <| rN <| zaf rfl ?_
  refine tr_reg <| rs_v (v_eq rfl rfl) rfl <| rA rfl rfl <| rN <| zaf rfl ?_
  refine rG <| rs_v (v_eq rfl rfl) rfl <| rA rfl rfl <| rN <| zax rfl ?_
  refine rG <| rM rfl rfl <| rM rfl rfl <| rs_gv rfl rfl (v_move rfl) rfl <| rs_gv rfl rfl (v_eq rfl rfl) rfl ?_
  refine rs_v (zar rfl rfl) rfl ?_
  refine rM rfl rfl <| rs_gs rfl rfl rfl rfl <| rs_gs rfl rfl rfl rfl <| rs_v (zbd rfl rfl) rfl ?_
  refine rA rfl rfl <| rN <| tr_ret <| zbs <| zaw <| q_ret (zap rfl rfl) ?_
  exact ⟨rfl, rfl⟩
theorem c_taken_3t (χ : Chi) (h : Heap) (last : Int)  :
    Cl Tryz.prog χ 100 #[.int .u8 3, .bool true, .int .u8 last] h (fun r h' => r = .bool true ∧ h' = h) := by
  refine zah Tryz.func100 rfl rfl rfl ?_
  have K : Keep [] h h := Keep.refl _ _
  refine rG <| rA rfl rfl <| rN <| tr_seq <| rG <| rM rfl rfl <| rN <| zal <| tr_seq <| rG <| rs_v (v_eq rfl rfl) rfl <| rA rfl rfl <| rN <| zaf rfl ?_
  refine rG <| rs_v (v_eq rfl rfl) rfl <| rA rfl rfl <| rN <| zaf rfl ?_
  refine rG <| rs_v (v_eq rfl rfl) rfl <| rA rfl rfl <| rN <| zaf rfl ?_
  refine tr_reg <| rs_v (v_eq rfl rfl) rfl <| rA rfl rfl <| rN <| zaf rfl ?_
  refine rG <| rs_v (v_eq rfl rfl) rfl <| rA rfl rfl <| rN <| zaf rfl ?_
  refine rG <| rs_v (v_eq rfl rfl) rfl <| rA rfl rfl <| rN <| zax rfl ?_
  refine rG <| rM rfl rfl <| rM rfl rfl <| rs_gs rfl rfl rfl rfl <| rs_gs rfl rfl rfl rfl <| rs_v (zbd rfl rfl) rfl ?_
  refine rM rfl rfl <| rs_gs rfl rfl rfl rfl <| rs_gs rfl rfl rfl rfl <| rs_v (zbd rfl rfl) rfl ?_
  refine rA rfl rfl <| rN <| tr_ret <| zbs <| zaw <| q_ret (zap rfl rfl) ?_
  exact ⟨rfl, rfl⟩
theorem c_taken_3f0 (χ : Chi) (h : Heap)  :
    Cl Tryz.prog χ 100 #[.int .u8 3, .bool false, .int .u8 0] h (fun r h' => r = .bool false ∧ h' = h) := by
  refine zah Tryz.func100 rfl rfl rfl ?_
  have K : Keep [] h h := Keep.refl _ _
  refine rG <| rA rfl rfl <| rN <| tr_seq <| rG <| rM rfl rfl <| rN <| zal <| tr_seq <| rG <| rs_v (v_eq rfl rfl) rfl <| rA rfl rfl <| rN <| zaf rfl ?_
  refine rG <| rs_v (v_eq rfl rfl) rfl <| rA rfl rfl <| rN <| zaf rfl ?_
  refine rG <| rs_v (v_eq rfl rfl) rfl <| rA rfl rfl <| rN <| zaf rfl ?_
  refine tr_reg <| rs_v (v_eq rfl rfl) rfl <| rA rfl rfl <| rN <| zaf rfl ?_
  refine rG <| rs_v (v_eq rfl rfl) rfl <| rA rfl rfl <| rN <| zaf rfl ?_
  refine rG <| rs_v (v_eq rfl rfl) rfl <| rA rfl rfl <| rN <| zax rfl ?_
  refine rG <| rM rfl rfl <| rM rfl rfl <| rs_gv rfl rfl (v_move rfl) rfl <| rs_gv rfl rfl (v_eq rfl rfl) rfl ?_
  refine rs_v (zar rfl rfl) rfl ?_
  refine rM rfl rfl <| rs_gv rfl rfl (v_move rfl) rfl <| rs_gv rfl rfl (v_eq rfl rfl) rfl ?_
  refine rs_v (zar rfl rfl) rfl ?_
  refine rA rfl rfl <| rN <| tr_ret <| zbs <| zaw <| q_ret (zap rfl rfl) ?_
  exact ⟨rfl, rfl⟩
theorem c_taken_3f1 (χ : Chi) (h : Heap)  :
    Cl Tryz.prog χ 100 #[.int .u8 3, .bool false, .int .u8 1] h (fun r h' => r = .bool false ∧ h' = h) := by
  refine zah Tryz.func100 rfl rfl rfl ?_
  have K : Keep [] h h := Keep.refl _ _
  refine rG <| rA rfl rfl <| rN <| tr_seq <| rG <| rM rfl rfl <| rN <| zal <| tr_seq <| rG <| rs_v (v_eq rfl rfl) rfl <| rA rfl rfl <| rN <| zaf rfl ?_
  refine rG <| rs_v (v_eq rfl rfl) rfl <| rA rfl rfl <| rN <| zaf rfl ?_
  refine rG <| rs_v (v_eq rfl rfl) rfl <| rA rfl rfl <| rN <| zaf rfl ?_
  refine tr_reg <| rs_v (v_eq rfl rfl) rfl <| rA rfl rfl <| rN <| zaf rfl ?_
  refine rG <| rs_v (v_eq rfl rfl) rfl <| rA rfl rfl <| rN <| zaf rfl ?_
  refine rG <| rs_v (v_eq rfl rfl) rfl <| rA rfl rfl <| rN <| zax rfl ?_
  refine rG <| rM rfl rfl <| rM rfl rfl <| rs_gv rfl rfl (v_move rfl) rfl <| rs_gv rfl rfl (v_eq rfl rfl) rfl ?_
  refine rs_v (zar rfl rfl) rfl ?_
  refine rM rfl rfl <| rs_gv rfl rfl (v_move rfl) rfl <| rs_gv rfl rfl (v_eq rfl rfl) rfl ?_
  refine rs_v (zar rfl rfl) rfl ?_
  refine rA rfl rfl <| rN <| tr_ret <| zbs <| zaw <| q_ret (zap rfl rfl) ?_
  exact ⟨rfl, rfl⟩
theorem c_taken_3f2 (χ : Chi) (h : Heap)  :
    Cl Tryz.prog χ 100 #[.int .u8 3, .bool false, .int .u8 2] h (fun r h' => r = .bool true ∧ h' = h) := by
  refine zah Tryz.func100 rfl rfl rfl ?_
  have K : Keep [] h h := Keep.refl _ _
  refine rG <| rA rfl rfl <| rN <| tr_seq <| rG <| rM rfl rfl <| rN <| zal <| tr_seq <| rG <| rs_v (v_eq rfl rfl) rfl <| rA rfl rfl <| rN <| zaf rfl ?_
  refine rG <| rs_v (v_eq rfl rfl) rfl <| rA rfl rfl <| rN <| zaf rfl ?_
  refine rG <| rs_v (v_eq rfl rfl) rfl <| rA rfl rfl <| rN <| zaf rfl ?_
  refine tr_reg <| rs_v (v_eq rfl rfl) rfl <| rA rfl rfl <| rN <| zaf rfl ?_
  refine rG <| rs_v (v_eq rfl rfl) rfl <| rA rfl rfl <| rN <| zaf rfl ?_
  refine rG <| rs_v (v_eq rfl rfl) rfl <| rA rfl rfl <| rN <| zax rfl ?_
  refine rG <| rM rfl rfl <| rM rfl rfl <| rs_gv rfl rfl (v_move rfl) rfl <| rs_gv rfl rfl (v_eq rfl rfl) rfl ?_
  refine rs_v (zar rfl rfl) rfl ?_
  refine rM rfl rfl <| rs_gv rfl rfl (v_move rfl) rfl <| rs_gv rfl rfl (v_eq rfl rfl) rfl ?_
  refine rs_v (zar rfl rfl) rfl ?_
  refine rA rfl rfl <| rN <| tr_ret <| zbs <| zaw <| q_ret (zap rfl rfl) ?_
  exact ⟨rfl, rfl⟩
theorem c_taken_3f3 (χ : Chi) (h : Heap)  :
    Cl Tryz.prog χ 100 #[.int .u8 3, .bool false, .int .u8 3] h (fun r h' => r = .bool false ∧ h' = h) := by
  refine zah Tryz.func100 rfl rfl rfl ?_
  have K : Keep [] h h := Keep.refl _ _
  refine rG <| rA rfl rfl <| rN <| tr_seq <| rG <| rM rfl rfl <| rN <| zal <| tr_seq <| rG <| rs_v (v_eq rfl rfl) rfl <| rA rfl rfl <| rN <| zaf rfl ?_
  refine rG <| rs_v (v_eq rfl rfl) rfl <| rA rfl rfl <| rN <| zaf rfl ?_
  refine rG <| rs_v (v_eq rfl rfl) rfl <| rA rfl rfl <| rN <| zaf rfl ?_
  refine tr_reg <| rs_v (v_eq rfl rfl) rfl <| rA rfl rfl <| rN <| zaf rfl ?_
  refine rG <| rs_v (v_eq rfl rfl) rfl <| rA rfl rfl <| rN <| zaf rfl ?_
  refine rG <| rs_v (v_eq rfl rfl) rfl <| rA rfl rfl <| rN <| zax rfl ?_
  refine rG <| rM rfl rfl <| rM rfl rfl <| rs_gv rfl rfl (v_move rfl) rfl <| rs_gv rfl rfl (v_eq rfl rfl) rfl ?_
  refine rs_v (zar rfl rfl) rfl ?_
  refine rM rfl rfl <| rs_gv rfl rfl (v_move rfl) rfl <| rs_gv rfl rfl (v_eq rfl rfl) rfl ?_
  refine rs_v (zar rfl rfl) rfl ?_
  refine rA rfl rfl <| rN <| tr_ret <| zbs <| zaw <| q_ret (zap rfl rfl) ?_
  exact ⟨rfl, rfl⟩
theorem c_taken_3f4 (χ : Chi) (h : Heap)  :
    Cl Tryz.prog χ 100 #[.int .u8 3, .bool false, .int .u8 4] h (fun r h' => r = .bool true ∧ h' = h) := by
  refine zah Tryz.func100 rfl rfl rfl ?_
  have K : Keep [] h h := Keep.refl _ _
  refine rG <| rA rfl rfl <| rN <| tr_seq <| rG <| rM rfl rfl <| rN <| zal <| tr_seq <| rG <| rs_v (v_eq rfl rfl) rfl <| rA rfl rfl <| rN <| zaf rfl ?_
  refine rG <| rs_v (v_eq rfl rfl) rfl <| rA rfl rfl <| rN <| zaf rfl ?_
  refine rG <| rs_v (v_eq rfl rfl) rfl <| rA rfl rfl <| rN <| zaf rfl ?_
  refine tr_reg <| rs_v (v_eq rfl rfl) rfl <| rA rfl rfl <| rN <| zaf rfl ?_
  refine rG <| rs_v (v_eq rfl rfl) rfl <| rA rfl rfl <| rN <| zaf rfl ?_
  refine rG <| rs_v (v_eq rfl rfl) rfl <| rA rfl rfl <| rN <| zax rfl ?_
  refine rG <| rM rfl rfl <| rM rfl rfl <| rs_gv rfl rfl (v_move rfl) rfl <| rs_gv rfl rfl (v_eq rfl rfl) rfl ?_
  refine rs_v (zar rfl rfl) rfl ?_
  refine rM rfl rfl <| rs_gs rfl rfl rfl rfl <| rs_gs rfl rfl rfl rfl <| rs_v (zbd rfl rfl) rfl ?_
  refine rA rfl rfl <| rN <| tr_ret <| zbs <| zaw <| q_ret (zap rfl rfl) ?_
  exact ⟨rfl, rfl⟩
theorem c_taken_3f5 (χ : Chi) (h : Heap)  :
    Cl Tryz.prog χ 100 #[.int .u8 3, .bool false, .int .u8 5] h (fun r h' => r = .bool false ∧ h' = h) := by
  refine zah Tryz.func100 rfl rfl rfl ?_
  have K : Keep [] h h := Keep.refl _ _
  refine rG <| rA rfl rfl <| rN <| tr_seq <| rG <| rM rfl rfl <| rN <| zal <| tr_seq <| rG <| rs_v (v_eq rfl rfl) rfl <| rA rfl rfl <| rN <| zaf rfl ?_
  refine rG <| rs_v (v_eq rfl rfl) rfl <| rA rfl rfl <| rN <| zaf rfl ?_
  refine rG <| rs_v (v_eq rfl rfl) rfl <| rA rfl rfl <| rN <| zaf rfl ?_
  refine tr_reg <| rs_v (v_eq rfl rfl) rfl <| rA rfl rfl <| rN <| zaf rfl ?_
  refine rG <| rs_v (v_eq rfl rfl) rfl <| rA rfl rfl <| rN <| zaf rfl ?_
  refine rG <| rs_v (v_eq rfl rfl) rfl <| rA rfl rfl <| rN <| zax rfl ?_
  refine rG <| rM rfl rfl <| rM rfl rfl <| rs_gv rfl rfl (v_move rfl) rfl <| rs_gv rfl rfl (v_eq rfl rfl) rfl ?_
  refine rs_v (zar rfl rfl) rfl ?_
  refine rM rfl rfl <| rs_gv rfl rfl (v_move rfl) rfl <| rs_gv rfl rfl (v_eq rfl rfl) rfl ?_
  refine rs_v (zar rfl rfl) rfl ?_
  refine rA rfl rfl <| rN <| tr_ret <| zbs <| zaw <| q_ret (zap rfl rfl) ?_
  exact ⟨rfl, rfl⟩
theorem c_taken_x (χ : Chi) (h : Heap) (op : Int) (ok : Bool) (last : Int) (o0 : decide (op = 0) = false) (o1 : decide (op = 1) = false) (o2 : decide (op = 2) = false) (o3 : decide (op = 3) = false) (o4 : decide (op = 4) = false) (o5 : decide (op = 5) = false) :
    Cl Tryz.prog χ 100 #[.int .u8 op, .bool ok, .int .u8 last] h (fun r h' => r = .bool false ∧ h' = h) := by
  refine zah Tryz.func100 rfl rfl rfl ?_
  have K : Keep [] h h := Keep.refl _ _
  refine rG <| rA rfl rfl <| rN <| tr_seq <| rG <| rM rfl rfl <| rN <| zal <| tr_seq <| rG <| rs_v (v_eq rfl rfl) rfl <| rA rfl rfl <| rN <| zaf (lkb o0) ?_
  refine rG <| rs_v (v_eq rfl rfl) rfl <| rA rfl rfl <| rN <| zaf (lkb o1) ?_
  refine rG <| rs_v (v_eq rfl rfl) rfl <| rA rfl rfl <| rN <| zaf (lkb o4) ?_
  refine tr_reg <| rs_v (v_eq rfl rfl) rfl <| rA rfl rfl <| rN <| zaf (lkb o5) ?_
  refine rG <| rs_v (v_eq rfl rfl) rfl <| rA rfl rfl <| rN <| zaf (lkb o2) ?_
  refine rG <| rs_v (v_eq rfl rfl) rfl <| rA rfl rfl <| rN <| zaf (lkb o3) ?_
  refine zai <| zbc <| q_thn <| rG <| rA rfl rfl <| rN <| tr_ret <| q_ret (zap rfl rfl) ?_
  exact ⟨rfl, rfl⟩
theorem c_taken (χ : Chi) (h : Heap) (W : List SpanD) (p : Pos) (s : StepD) (ok : Bool) (last : Int) (hk : okl W p ok last) :
    Cl Tryz.prog χ 100 #[.int .u8 s.op, .bool ok, .int .u8 last] h (fun r h' => r = .bool (stepP W p s).isSome ∧ h' = h) := by
  obtain ⟨op, key⟩ := s
  by_cases o0 : op = 0
  · subst o0; exact c_taken_0 χ h ok last
  by_cases o1 : op = 1
  · subst o1; exact c_taken_1 χ h ok last
  by_cases o4 : op = 4
  · subst o4; exact c_taken_4 χ h ok last
  by_cases o5 : op = 5
  · subst o5; exact c_taken_5 χ h ok last
  by_cases o2 : op = 2
  · subst o2
    rcases hk with ⟨rfl, j, rfl, _⟩ | ⟨rfl, ⟨rfl, rfl | rfl⟩ | ⟨rfl, rfl | rfl⟩ | ⟨rfl, rfl | rfl⟩⟩
    · exact c_taken_2t χ h last
    · exact c_taken_2f5 χ h
    · exact c_taken_2f3 χ h
    · exact c_taken_2f4 χ h
    · exact c_taken_2f2 χ h
    · exact c_taken_2f0 χ h
    · exact c_taken_2f1 χ h
  by_cases o3 : op = 3
  · subst o3
    rcases hk with ⟨rfl, j, rfl, _⟩ | ⟨rfl, ⟨rfl, rfl | rfl⟩ | ⟨rfl, rfl | rfl⟩ | ⟨rfl, rfl | rfl⟩⟩
    · exact c_taken_3t χ h last
    · exact c_taken_3f5 χ h
    · exact c_taken_3f3 χ h
    · exact c_taken_3f4 χ h
    · exact c_taken_3f2 χ h
    · exact c_taken_3f0 χ h
    · exact c_taken_3f1 χ h
  · have e : (stepP W p ⟨op, key⟩) = none := by simp [stepP, o0, o1, o2, o3, o4, o5]
    rw [e]
    exact c_taken_x χ h op ok last (decide_eq_false o0) (decide_eq_false o1) (decide_eq_false o2) (decide_eq_false o3) (decide_eq_false o4) (decide_eq_false o5)
set_option maxHeartbeats 1000000
theorem rk_skip {h1 h2 h3 : Heap} {v : Value} {ks : List KeyD} {c : Nat} (hr : RKeys (Up N0 h1 h2) h2 v ks) (k0 : h1.size ≤ h2.size) (K : Keep [c] h2 h3) (hc : c < h1.size) : RKeys (Up N0 h1 h3) h3 v ks :=
  (hr.stab (K.stab fun b hb => ⟨(n0low h1).up k0 b hb, by
    rcases hb with hb | hb
    · exact hb.elim
    · simp; omega⟩)).mono (Up.grow K.1)
set_option maxHeartbeats 1000000
theorem Own.cut0 {h : Heap} {base : Nat} {e : TypeId} {sz : Nat} {a : Option Addr} {m c n : Nat} {xs : List Value} (ho : Own h base e sz (.slice a m c) n xs) : Own h base e sz (.slice a 0 c) 0 [] := by
  refine ⟨by simp, ?_⟩
  rcases ho.2 with ⟨hv, hn⟩ | ⟨g, cap, cur, hv, hb, hg, hn, hc, hs, _⟩
  · cases hv; exact .inl ⟨rfl, rfl⟩
  · cases hv; exact .inr ⟨g, _, cur, rfl, hb, hg, by omega, hc, hs, by simp⟩
theorem Own.form3 {h : Heap} {base : Nat} {e : TypeId} {sz : Nat} {v : Value} {n : Nat} {xs : List Value} (ho : Own h base e sz v n xs) : ∃ a c, v = .slice a n c := by
  rcases ho.form with ⟨rfl, rfl, _⟩ | ⟨g, cap, rfl, _⟩
  · exact ⟨none, 0, rfl⟩
  · exact ⟨_, _, rfl⟩
theorem own_block0 {a : Option Addr} {m c m2 c2 : Nat} : (Value.slice a m c).ownBlock = (Value.slice a m2 c2).ownBlock := by cases a <;> rfl
set_option maxHeartbeats 1000000
section
variable {χ : Chi} {ff : SpanD → Option SpanD} {fv : Value} {G0 : Nat → Prop} {Env : Heap → Prop} {W : List SpanD} {t : TypeId} {v0 : Value} {I : ItI} {c : Nat} {q q' : Pos} {Fin F : Nat → Prop} {h h' : Heap} {sv ev kv : Value} {kk : Int} {n : Nat} {xs : List Value}
theorem SlR.of_rows2 {α : Type} {h : Heap} {base : Nat} {e : TypeId} {sz : Nat} {v : Value} {n : Nat} {cs : List Value} {A : Nat → Prop} {R0 : List Value → α → Prop} {R : Heap → Nat → Nat → α → Prop} {xs : List α}
    (ho : Own h base e sz v n cs) (hn : n = xs.length) (hrow : RowsR sz R0 cs xs) (hA : ∀ b, b ∈ v.ownBlock.toList → A b)
    (hR : ∀ b o c a, zbk h b o c → R0 c a → R h b o a) : SlR h A sz R v xs := by
  rcases ho.form with ⟨rfl, rfl, rfl⟩ | ⟨g, cap, rfl, h0, h1, h2, h3, h4, h5⟩
  · have : xs = [] := List.eq_nil_of_length_eq_zero hn.symm
    subst this
    exact SlR.nil h A sz R
  · subst hn
    refine ⟨by unfold maxLen at h4; omega, _, _, rfl, fun i x hi => ⟨g, 0, rfl, hA g (by rw [h0]; simp), ?_⟩⟩
    obtain ⟨c, _, h6, h7⟩ := hrow.at h5 hi
    exact hR _ _ _ _ h6 h7
end
set_option maxHeartbeats 1000000
theorem in_next {W : List SpanD} {i : Nat} : ∀ j, pNext W (.pt i) = .pt j → j < W.length := by
  intro j h
  simp only [pNext] at h
  by_cases e : i + 1 < W.length
  · rw [if_pos e] at h; cases h; exact e
  · rw [if_neg e] at h; cases h
set_option maxHeartbeats 1000000
theorem keep_of_p {F : Nat → Prop} {h h1 h' : Heap} (K : Keep [] h h1) (KP : KeepP F h1 h') (hF : ∀ b, F b → h.size ≤ b) : Keep [] h h' :=
  ⟨Nat.le_trans K.1 KP.1, fun b hb _ => (KP.2 b (Nat.lt_of_lt_of_le hb K.1) (fun hf => by have := hF b hf; omega)).trans (K.2 b hb (by simp))⟩
set_option maxHeartbeats 1000000
def zfd (a b : KeyD) : Bool := if a.tr = b.tr then (if seq' a.suf b.suf then slt a.val b.val else slt a.suf b.suf) else decide (b.tr < a.tr)
theorem c_spanKeyLess (χ : Chi) (h : Heap) (a b : KeyD) :
    Cl Tryz.prog χ 114 #[.agg #[.int .u64 a.tr, .string a.suf, .string a.val], .agg #[.int .u64 b.tr, .string b.suf, .string b.val]] h (fun r h' => r = .bool (zfd a b) ∧ Keep [] h h') := by
  refine zah Tryz.func114 rfl rfl rfl ?_
  have K : Keep [] h h := Keep.refl _ _
  refine rG <| rs_w (zbw rfl) rfl ?_
  rintro _ h1 ⟨rfl, B1, K1, Z1⟩
  have S1 := K.1; have K := K.new0 K1
  refine rs_w (zbw rfl) rfl ?_
  rintro _ h2 ⟨rfl, B2, K2, Z2⟩
  have B1 := K2.blk (by simp) B1
  have S2 := K.1; have K := K.new0 K2
  refine rA rfl rfl <| rN <| tr_seq <| rG <| rF zfx rfl rfl <| rs_v (v_load zen rfl (by exact B1.cell _ rfl)) rfl ?_
  refine rF zfx rfl rfl <| rs_v (v_load zen rfl (by exact B2.cell _ rfl)) rfl ?_
  refine rs_v (v_ne rfl rfl) rfl ?_
  refine rN ?_
  refine tr_if rfl (fun hif => ?_) (fun hif => ?_)
  · -- yes
    simp only [decide_eq_true_eq] at hif
    refine rG <| rF zfx rfl rfl <| rs_v (v_load zen rfl (by exact B1.cell _ rfl)) rfl ?_
    refine rF zfx rfl rfl <| rs_v (v_load zen rfl (by exact B2.cell _ rfl)) rfl ?_
    refine rs_v (v_gt rfl rfl) rfl ?_
    refine rA rfl rfl <| rN <| tr_ret <| zaw <| q_ret (zap rfl rfl) ?_
    exact ⟨by simp [zfd, hif], K⟩
  -- no
  simp only [decide_eq_false_iff_not, Decidable.not_not] at hif
  have hno := hif
  refine zai <| q_thn <| tr_seq <| rG <| rF zhm rfl rfl <| rs_v (v_load zbp rfl (by exact B1.cell _ rfl)) rfl ?_
  refine rF zhm rfl rfl <| rs_v (v_load zbp rfl (by exact B2.cell _ rfl)) rfl ?_
  refine rs_v (v_sne rfl rfl) rfl ?_
  refine rN ?_
  refine tr_if rfl (fun hif => ?_) (fun hif => ?_)
  · -- yes
    skip
    refine rG <| rF zhm rfl rfl <| rs_v (v_load zbp rfl (by exact B1.cell _ rfl)) rfl ?_
    refine rF zhm rfl rfl <| rs_v (v_load zbp rfl (by exact B2.cell _ rfl)) rfl ?_
    refine rs_v (v_slt rfl rfl) rfl ?_
    refine rA rfl rfl <| rN <| tr_ret <| zaw <| q_ret (zap rfl rfl) ?_
    have h9 : seq' a.suf b.suf = false := by simpa using hif
    exact ⟨by simp [zfd, hno, h9], K⟩
  -- no
  skip
  refine zai <| q_thn <| rG <| rF zki rfl rfl <| rs_v (v_load zbp rfl (by exact B1.cell _ rfl)) rfl ?_
  refine rF zki rfl rfl <| rs_v (v_load zbp rfl (by exact B2.cell _ rfl)) rfl ?_
  refine rs_v (v_slt rfl rfl) rfl ?_
  refine rA rfl rfl <| rN <| tr_ret <| q_ret (zap rfl rfl) ?_
  have h9 : seq' a.suf b.suf = true := by simpa using hif
  exact ⟨by simp [zfd, hno, h9], K⟩
theorem zrh {P : Program} (d : Nat) (w : World) (xs : Array Value) : ∀ (fs : List Field), (∀ f, f ∈ fs → ∃ a, (part f.type xs f.offset).run P w = .ok a w ∧ (Op.equalIn d f.type a a).run P w = .ok true w) → (Op.eqFields d xs xs fs).run P w = .ok true w
  | [], _ => by simp [Op.eqFields]
  | f :: fs, h => by
    obtain ⟨a, h1, h2⟩ := h f (by simp)
    have ih := zrh d w xs fs (fun g hg => h g (by simp [hg]))
    simp only [Op.eqFields]
    split
    · simp [Sem.run_bind, h1, h2, ih]
    · simp [Sem.run_bind, ih]
theorem eqKey (a : KeyD) (w : World) : (Op.equalIn 10000 73 (.agg #[.int .u64 a.tr, .string a.suf, .string a.val]) (.agg #[.int .u64 a.tr, .string a.suf, .string a.val])).run Tryz.prog w = .ok true w := by
  have hS : Tryz.prog.underlying 73 = some (.struct (Tryz.prog.fieldsOf 73)) := by kernel_rfl
  have hp : Tryz.prog.stoodInHeld 73 = false := by kernel_rfl
  rw [show (10000 : Nat) = 9999 + 1 from rfl, run_equalIn_struct w 9999 73 _ _ hS hp]
  have hf : (Tryz.prog.fieldsOf 73).toList = [(Tryz.prog.fieldsOf 73).toList.getD 0 default, (Tryz.prog.fieldsOf 73).toList.getD 1 default, (Tryz.prog.fieldsOf 73).toList.getD 2 default] := by kernel_rfl
  refine zrh _ _ _ _ fun f hm => ?_
  rw [hf] at hm
  simp only [List.mem_cons, List.not_mem_nil, or_false] at hm
  rcases hm with rfl | rfl | rfl
  · refine ⟨.int .u64 a.tr, by kernel_rfl, ?_⟩
    rw [show ((Tryz.prog.fieldsOf 73).toList.getD 0 default).type = 45 from by kernel_rfl, show (9999 : Nat) = 9998 + 1 from rfl, run_equalIn_int w _ _ _ _ _ _ u_uint64]; simp
  · refine ⟨.string a.suf, by kernel_rfl, ?_⟩
    rw [show ((Tryz.prog.fieldsOf 73).toList.getD 1 default).type = 9 from by kernel_rfl, show (9999 : Nat) = 9998 + 1 from rfl, run_equalIn_string w _ _ _ _ zdl]; simp
  · refine ⟨.string a.val, by kernel_rfl, ?_⟩
    rw [show ((Tryz.prog.fieldsOf 73).toList.getD 2 default).type = 9 from by kernel_rfl, show (9999 : Nat) = 9998 + 1 from rfl, run_equalIn_string w _ _ _ _ zdl]; simp
theorem zuz (χ : Chi) (h : Heap) (A A2 : Nat → Prop) (v u : Value) (ks : List KeyD) (hk : RKeys A h v ks) (hk2 : RKeys A2 h u ks) :
    Cl Tryz.prog χ 71 #[v, u] h (fun r h' => r = .bool true ∧ Keep [] h h') := by
  obtain ⟨hlen, a, c, rfl, hx⟩ := hk.form
  obtain ⟨_, a2, c2, rfl, hx2⟩ := hk2.form
  refine zah Tryz.func71 rfl rfl rfl ?_
  have K : Keep [] h h := Keep.refl _ _
  refine rG <| rA rfl rfl <| rN <| tr_seq <| rG <| rM rfl rfl <| rs_v (v_len zbq rfl) rfl ?_
  refine rM rfl rfl <| rs_v (v_len zbq rfl) rfl ?_
  refine rs_v (v_ne rfl rfl) rfl ?_
  refine rN <| zaf (lkb (decide_eq_false (by simp))) ?_
  refine zai <| q_thn <| tr_seq <| rG <| rM rfl rfl <| rs_v (v_len zbq rfl) rfl ?_
  refine rM rfl rfl <| rN <| zal ?_
  refine zdd (fun m E h' => ∃ k, k ≤ ks.length ∧ m = ks.length - k ∧ E = [(0, .slice a ks.length c), (1, .slice a2 ks.length c2), (12, .slice a ks.length c), (13, .int .i64 (ks.length : Int)), (14, .int .i64 (k : Int))] ∧ Keep [] h h') ks.length [(0, _), (1, _), (12, _), (13, _), (14, _)] ⟨rfl, rfl, rfl, rfl, rfl, trivial⟩ ⟨0, Nat.zero_le _, rfl, rfl, K⟩ ?_
  rintro m E hL1 ⟨k, hk, rfl, rfl, K⟩
  refine rG <| rs_v (v_lt rfl rfl) rfl <| rN <| tr_seq ?_
  refine tr_ifn rfl (fun hif => ?_) (fun hif => ?_)
  · -- no
    simp only [decide_eq_false_iff_not] at hif
    refine zda <| zcb <| zcq <| zcf <| q_thn <| rG <| rA rfl rfl <| rN <| tr_ret <| q_ret (zap rfl rfl) ?_
    exact ⟨rfl, K⟩
  -- yes
  simp only [dT, dF] at hif
  rcases hx with rfl | ⟨b, o, rfl, hAb, hR⟩
  · simp at hif; omega
  rcases hx2 with rfl | ⟨b2, o2, rfl, hAb2, hR2⟩
  · simp at hif; omega
  obtain ⟨y, hsk⟩ := ex_get (L := ks) (k := k) (by omega)
  have hc1 := K.cells (by simp) (hR k y hsk)
  have hc2 := K.cells (by simp) (hR2 k y hsk)
  refine zai <| q_thn <| tr_seq <| zal <| rG <| rM rfl rfl <| rs_v (zbv zbq zcp rfl rfl (by omega)) rfl ?_
  refine rs_v (zay (vs := [_, _, _]) zdv rfl (by exact hc1)) rfl ?_
  refine rs_w (w_new zfy) rfl ?_
  rintro _ h2 ⟨rfl, B2, K2, Z2⟩
  have S2 := K.1; have K := K.new0 K2
  refine rA rfl rfl <| rs_w0 (w_put zcp rfl rfl rfl rfl B2 rfl) ?_
  rintro _ h3 ⟨B3, K3⟩
  have B2 := B3; have K := K.new1 K3 (by first | (right; omega) | (left; simp; done)); have Z3 := K3.1
  refine rN <| tr_seq ?_
  refine zbb (by kernel_rfl) (by kernel_rfl) ?_
  refine rq_v (zay (vs := [_, _, _]) zdv rfl (by exact B2.sub _ 3 rfl)) ?_
  refine rq_v (v_move rfl) <| rq_v (v_move rfl) <| rq_v (zbv zbq zcp rfl rfl (by omega)) ?_
  refine rq_v (zay (vs := [_, _, _]) zdv rfl (by exact K.cells (by simp) (hR2 k y hsk))) ?_
  refine rq_v (v_aggne (by kernel_rfl) rfl rfl (eqKey y)) ?_
  refine rm_end ?_; simp only [endM, hypF, ofE, argE]
  refine q_thn <| zaf rfl ?_
  refine zai <| zbc <| q_thn <| tr_reg <| rs_v (v_add rfl rfl (by omega) (by omega)) rfl ?_
  refine rM rfl rfl <| rs_nil ?_
  refine q_lp (ks.length - (k + 1)) [(0, _), (1, _), (12, _), (13, _), (14, _)] (by omega) ⟨rfl, rfl, rfl, rfl, rfl, trivial⟩ ⟨k + 1, by omega, rfl, rfl, K⟩
theorem c_sameSpan (χ : Chi) (h : Heap) (A A2 : Nat → Prop) (hA : Low A h) (hA2 : Low A2 h) (s : SpanD) (v u : Value) (hk : RKeys A h v s.ks) (hk2 : RKeys A2 h u s.ks) :
    Cl Tryz.prog χ 34 #[.agg #[.string s.s, .string s.e, v], .agg #[.string s.s, .string s.e, u]] h (fun r h' => r = .bool true ∧ Keep [] h h') := by
  obtain ⟨ka, kc, rfl⟩ := hk.form2
  obtain ⟨ka2, kc2, rfl⟩ := hk2.form2
  have q1 : seq' s.s s.s = true := zmv.2 rfl
  have q2 : seq' s.e s.e = true := zmv.2 rfl
  refine zah Tryz.func34 rfl rfl rfl ?_
  have K : Keep [] h h := Keep.refl _ _
  refine rG <| rs_w (zbw rfl) rfl ?_
  rintro _ h1 ⟨rfl, B1, K1, Z1⟩
  have S1 := K.1; have K := K.new0 K1
  refine rs_w (zbw rfl) rfl ?_
  rintro _ h2 ⟨rfl, B2, K2, Z2⟩
  have B1 := K2.blk (by simp) B1
  have S2 := K.1; have K := K.new0 K2
  refine rA rfl rfl <| rN <| rG <| rF zeu rfl rfl <| rs_v (v_load zbp rfl (by exact B1.cell _ rfl)) rfl ?_
  refine rF zeu rfl rfl <| rs_v (v_load zbp rfl (by exact B2.cell _ rfl)) rfl ?_
  refine rs_v (v_seq rfl rfl) rfl ?_
  refine rM rfl rfl <| rs_gv rfl (lkb q1) (zac zfg rfl) rfl ?_
  refine rs_gv rfl (lkb q1) (v_load zbp rfl (by exact B1.cell _ rfl)) rfl ?_
  refine rs_gv rfl (lkb q1) (zac zfg rfl) rfl ?_
  refine rs_gv rfl (lkb q1) (v_load zbp rfl (by exact B2.cell _ rfl)) rfl ?_
  refine rs_gv rfl (lkb q1) (v_seq rfl rfl) rfl ?_
  refine rs_v (zbd (lkb q1) rfl) rfl ?_
  refine rM rfl rfl <| rs_gv rfl (lkb q2) (zac zew rfl) rfl ?_
  refine rs_gv rfl (lkb q2) (v_load zed rfl (by exact B1.cell _ rfl)) rfl ?_
  refine rs_gv rfl (lkb q2) (zac zew rfl) rfl ?_
  refine rs_gv rfl (lkb q2) (v_load zed rfl (by exact B2.cell _ rfl)) rfl ?_
  refine rs_gw rfl (lkb q2) (w_call (vs := [_, _]) zqq rfl ⟨rfl, rfl, trivial⟩ (zuz χ _ A A2 _ _ s.ks (hk.stab (K.st hA)) (hk2.stab (K.st hA2)))) rfl ?_
  rintro _ h3 ⟨rfl, K3⟩
  have B1 := K3.blk (by simp) B1
  have B2 := K3.blk (by simp) B2
  have K := K.new0 K3; have Z3 := K3.1
  refine rs_v (zbd (lkb q2) rfl) rfl ?_
  refine rA rfl rfl <| rN <| tr_ret <| q_ret (zap rfl rfl) ?_
  exact ⟨rfl, K⟩
theorem c_sameSpans (χ : Chi) (h : Heap) (A A2 : Nat → Prop) (hA : Low A h) (hA2 : Low A2 h) (v u : Value) (W : List SpanD) (hk : RSpans A h v W) (hk2 : RSpans A2 h u W) :
    Cl Tryz.prog χ 86 #[v, u] h (fun r h' => r = .bool true ∧ Keep [] h h') := by
  obtain ⟨hlen, a, c, rfl, hx⟩ := hk.form
  obtain ⟨_, a2, c2, rfl, hx2⟩ := hk2.form
  refine zah Tryz.func86 rfl rfl rfl ?_
  have K : Keep [] h h := Keep.refl _ _
  refine rG <| rA rfl rfl <| rN <| tr_seq <| rG <| rM rfl rfl <| rs_v (v_len u_sl_spec_Span rfl) rfl ?_
  refine rM rfl rfl <| rs_v (v_len u_sl_spec_Span rfl) rfl ?_
  refine rs_v (v_ne rfl rfl) rfl ?_
  refine rN <| zaf (lkb (decide_eq_false (by simp))) ?_
  refine zai <| q_thn <| tr_seq <| rG <| rM rfl rfl <| rs_v (v_len u_sl_spec_Span rfl) rfl ?_
  refine rM rfl rfl <| rN <| zal ?_
  refine zdd (fun m E h' => ∃ k, k ≤ W.length ∧ m = W.length - k ∧ E = [(0, .slice a W.length c), (1, .slice a2 W.length c2), (12, .slice a W.length c), (13, .int .i64 (W.length : Int)), (14, .int .i64 (k : Int))] ∧ Keep [] h h') W.length [(0, _), (1, _), (12, _), (13, _), (14, _)] ⟨rfl, rfl, rfl, rfl, rfl, trivial⟩ ⟨0, Nat.zero_le _, rfl, rfl, K⟩ ?_
  rintro m E hL1 ⟨k, hk, rfl, rfl, K⟩
  refine rG <| rs_v (v_lt rfl rfl) rfl <| rN <| tr_seq ?_
  refine tr_ifn rfl (fun hif => ?_) (fun hif => ?_)
  · -- no
    simp only [decide_eq_false_iff_not] at hif
    refine zda <| zcb <| zcq <| zcf <| q_thn <| rG <| rA rfl rfl <| rN <| tr_ret <| q_ret (zap rfl rfl) ?_
    exact ⟨rfl, K⟩
  -- yes
  simp only [dT, dF] at hif
  rcases hx with rfl | ⟨b, o, rfl, hAb, hR⟩
  · simp at hif; omega
  rcases hx2 with rfl | ⟨b2, o2, rfl, hAb2, hR2⟩
  · simp at hif; omega
  obtain ⟨y, hsk⟩ := ex_get (L := W) (k := k) (by omega)
  obtain ⟨kv, hc1, hk9⟩ := hR k y hsk
  obtain ⟨kv2, hc2, hk8⟩ := hR2 k y hsk
  obtain ⟨ka, kc, rfl⟩ := hk9.form2
  obtain ⟨ka2, kc2, rfl⟩ := hk8.form2
  have hc1 := K.cells (by simp) hc1
  refine zai <| q_thn <| tr_seq <| zal <| rG <| rM rfl rfl <| rs_v (zbv u_sl_spec_Span zck rfl rfl (by omega)) rfl ?_
  refine rs_v (zay (vs := [_, _, _]) zcy rfl (by exact hc1)) rfl ?_
  refine rs_w (w_new zeh) rfl ?_
  rintro _ h2 ⟨rfl, B2, K2, Z2⟩
  have S2 := K.1; have K := K.new0 K2
  refine rA rfl rfl <| rs_w0 (w_put zck rfl rfl rfl rfl B2 rfl) ?_
  rintro _ h3 ⟨B3, K3⟩
  have B2 := B3; have K := K.new1 K3 (by first | (right; omega) | (left; simp; done)); have Z3 := K3.1
  refine rN <| tr_seq ?_
  refine tr_any (Keep []) (zae _) (by kernel_rfl) (by kernel_rfl) ?_
  refine rm_v (zae _) (fun h' hk => zay (vs := [_, _, _]) zcy rfl (by exact (hk.blk (by simp) B2).sub _ 3 rfl)) ?_
  refine rm_v (zae _) (fun h' hk => v_move rfl) ?_
  refine rm_v (zae _) (fun h' hk => v_move rfl) ?_
  refine rm_v (zae _) (fun h' hk => zbv u_sl_spec_Span zck rfl rfl (by omega)) ?_
  refine rm_v (zae _) (fun h' hk => zay (vs := [_, _, _]) zcy rfl (by exact (K.new0 hk).cells (by simp) hc2)) ?_
  refine rm_c (fun h' hk => w_call (vs := [_, _]) ztl rfl ⟨rfl, rfl, trivial⟩ (c_sameSpan χ h' A A2 (hA.mono (K.new0 hk).1) (hA2.mono (K.new0 hk).1) y _ _ (hk9.stab ((K.new0 hk).st hA)) (hk8.stab ((K.new0 hk).st hA2)))) ?_
  refine rm_v (zae _) (fun h' hk => v_not rfl) ?_
  refine rm_end ?_; intro h4 K4; simp only [endM, hypF, ofE, argE, List.nil_append]
  have B2 := K4.blk (by simp) B2
  have K := K.new0 K4; have Z4 := K4.1
  refine q_thn <| zaf rfl ?_
  refine zai <| zbc <| q_thn <| tr_reg <| rs_v (v_add rfl rfl (by omega) (by omega)) rfl ?_
  refine rM rfl rfl <| rs_nil ?_
  refine q_lp (W.length - (k + 1)) [(0, _), (1, _), (12, _), (13, _), (14, _)] (by omega) ⟨rfl, rfl, rfl, rfl, rfl, trivial⟩ ⟨k + 1, by omega, rfl, rfl, K⟩
set_option maxHeartbeats 1000000
def lessAt (l : List KeyD) : Nat → Bool
  | 0 => false
  | j + 1 => match l[j + 1]?, l[j]? with
    | some a, some b => zfd a b
    | _, _ => false
def swapAt (l : List KeyD) (j : Nat) : List KeyD :=
  match l[j + 1]?, l[j]? with
    | some a, some b => (l.set (j + 1) b).set j a
    | _, _ => l
def insW (l : List KeyD) : Nat → List KeyD
  | 0 => l
  | j + 1 => if lessAt l (j + 1) then insW (swapAt l j) j else l
def canonF (ks : List KeyD) : List KeyD := ks.foldl (fun acc k => insW (acc ++ [k]) acc.length) []
theorem swapAt_len (l : List KeyD) (j : Nat) : (swapAt l j).length = l.length := by unfold swapAt; split <;> simp
theorem insW_len (l : List KeyD) (j : Nat) : (insW l j).length = l.length := by
  induction j generalizing l with
  | zero => rfl
  | succ j ih => simp only [insW]; split
                 · rw [ih, swapAt_len]
                 · rfl
theorem ztb (l : List KeyD) (x : KeyD) : canonF (l ++ [x]) = insW (canonF l ++ [x]) (canonF l).length := by simp only [canonF, List.foldl_append, List.foldl_cons, List.foldl_nil]
theorem canonF_len (l : List KeyD) : (canonF l).length = l.length := by
  have : ∀ (l acc : List KeyD), (l.foldl (fun acc k => insW (acc ++ [k]) acc.length) acc).length = acc.length + l.length := by
    intro l
    induction l with
    | nil => intro acc; simp
    | cons x l ih => intro acc; simp only [List.foldl_cons, ih, insW_len, List.length_append, List.length_cons, List.length_nil]; omega
  have := this l []
  simp only [List.length_nil, Nat.zero_add] at this
  exact this
theorem insW_stop {l : List KeyD} {j : Nat} (h : lessAt l j = false) : insW l j = l := by
  cases j with
  | zero => rfl
  | succ j => simp [insW, h]
theorem insW_go {l : List KeyD} {j : Nat} (h : lessAt l (j + 1) = true) : insW l (j + 1) = insW (swapAt l j) j := by simp [insW, h]
theorem ztc (χ : Chi) (h : Heap) (A : Nat → Prop) (hA : Low A h) (v : Value) (ks : List KeyD) (hks : RKeys A h v ks) (hl : ks.length ≤ 100000) :
    Cl Tryz.prog χ 68 #[v] h (fun r h' => RKeys (Up N0 h h') h' r (canonF ks) ∧ Keep [] h h') := by
  obtain ⟨hlen, a, c, rfl, hx⟩ := hks.form
  refine zah Tryz.func68 rfl rfl rfl ?_
  have K : Keep [] h h := Keep.refl _ _
  refine rG <| rA rfl rfl <| rN <| rG <| rA rfl rfl <| rN <| tr_seq <| rG <| rM rfl rfl <| rs_v (v_len zbq rfl) rfl ?_
  refine rM rfl rfl <| rN <| zal ?_
  refine zdd (fun m E h' => ∃ k v n, k ≤ ks.length ∧ m = ks.length - k ∧ E = [(3, v), (7, .slice a ks.length c), (8, .int .i64 (ks.length : Int)), (9, .int .i64 (k : Int))] ∧ Keep [] h h' ∧ n = (canonF (ks.take k)).length ∧ OutR N0 h h' h.size 73 3 cKey v n (canonF (ks.take k))) ks.length [(3, _), (7, _), (8, _), (9, _)] ⟨rfl, rfl, rfl, rfl, trivial⟩ ⟨0, _, 0, Nat.zero_le _, rfl, rfl, K, rfl, OutR.nil _ _ _ _ _ _ _⟩ ?_
  rintro m E hL1 ⟨k, v, n, hk, rfl, rfl, K, hn, hout⟩
  have hout0 := hout
  obtain ⟨xs, F, O, hrow, hF⟩ := hout
  have hob := own_ne O; have KL := Keep.refl [] hL1
  refine rG <| rs_v (v_lt rfl rfl) rfl <| rN <| tr_seq ?_
  refine tr_ifn rfl (fun hif => ?_) (fun hif => ?_)
  · -- no
    simp only [dT, dF] at hif
    have hkk : k = ks.length := by omega
    subst hkk
    refine zda <| zcb <| zcq <| zcf <| q_thn <| rG <| rM rfl rfl <| rA rfl rfl <| rN <| tr_ret <| q_ret (zap rfl rfl) ?_
    rw [List.take_length] at hout0 hn
    exact ⟨hout0.fin zmk hn (Nat.le_refl _) cKey_r, K⟩
  -- yes
  simp only [dT, dF] at hif
  rcases hx with rfl | ⟨b, o, rfl, hAb, hR⟩
  · simp at hif; omega
  obtain ⟨x, hsk⟩ := ex_get (L := ks) (k := k) (by omega)
  have hkl : k < ks.length := (List.getElem?_eq_some_iff.1 hsk).1
  have KL0 := K.1
  have hcells := K.cells (by simp) (hR k x hsk)
  have hnk : n = k := by rw [hn, canonF_len, List.length_take]; omega
  refine zai <| q_thn <| tr_seq <| zal <| rG <| rs_v (zbv zbq zcp rfl rfl (by omega)) rfl ?_
  refine rs_v (zay (vs := [_, _, _]) zdv rfl (by exact hcells)) rfl ?_
  refine rs_w (w_new zfy) rfl ?_
  rintro _ h2 ⟨rfl, B2, K2, Z2⟩
  have O := O.keep2 K2 (fun x hm => by have := hob x hm; simp; try omega)
  have S2 := K.1; have K := K.new0 K2; have KL := KL.new0 K2
  refine rs_w0 (w_put zcp rfl rfl rfl rfl B2 rfl) ?_
  rintro _ h3 ⟨B3, K3⟩
  have O := O.keep2 K3 (fun x hm => by have := hob x hm; simp; try omega)
  have B2 := B3; have K := K.new1 K3 (by first | (right; omega) | (left; simp; done)); have Z3 := K3.1; have KL := KL.new1 K3 (.inr (by omega))
  refine rN <| rG <| rM rfl rfl <| rs_v (zay (vs := [_, _, _]) zdv rfl (by exact B2.sub _ 3 rfl)) rfl ?_
  refine rs_w (w_new1 zbq zcp zfy rfl rfl rfl rfl rfl) rfl ?_
  rintro _ h4 ⟨rfl, B4, K4, Z4⟩
  have B2 := K4.blk (by simp) B2
  have O := O.keep2 K4 (fun x hm => by have := hob x hm; simp; try omega)
  have S4 := K.1; have K := K.new0 K4; have KL := KL.new0 K4
  refine rs_w (w_app1 zbq zkl rfl rfl rfl O rfl rfl B4 rfl (by omega) (by omega) (by omega)) rfl ?_
  rintro v5 h5 ⟨O5, K5, N5, F5⟩
  have K := K.newX K5 (fun x hm => .inr (by have := hob x hm; omega)); have Z5 := K5.1
  obtain ⟨g, c9, rfl, hgb, hgl, hcg4⟩ := zqm O5
  have B2 := K5.blk (fun hm => by first | (have := hob _ hm; omega) | exact absurd rfl (hnb _ hm)) B2
  have B4 := K5.blk (fun hm => by first | (have := hob _ hm; omega) | exact absurd rfl (hnb _ hm)) B4
  refine rA rfl rfl <| rN <| rG <| rM rfl rfl <| rs_v (v_len zbq rfl) rfl ?_
  refine rs_v (v_sub rfl rfl (by omega) (by omega)) rfl ?_
  refine rA rfl rfl <| rN <| zal ?_
  refine zdd (fun m E h' => ∃ j i l cs, i = ((j : Nat) : Int) ∧ j = m ∧ E = [(3, .slice (some ⟨g, 0, none⟩) (n + 1) c9), (7, .slice (some ⟨b, o, none⟩) ks.length c), (8, .int .i64 (ks.length : Int)), (9, .int .i64 (k : Int)), (6, .int .i64 i)] ∧ Keep [] h h' ∧ h4.size ≤ h'.size ∧ l.length = n + 1 ∧ j ≤ n ∧ insW l j = insW (canonF (ks.take k) ++ [x]) n ∧ Own h' h.size 73 3 (.slice (some ⟨g, 0, none⟩) (n + 1) c9) (n + 1) cs ∧ RowsR 3 (cKey N0 h) cs l) n [(3, _), (7, _), (8, _), (9, _), (6, _)] ⟨rfl, rfl, rfl, rfl, rfl, trivial⟩ ⟨n, (((n + 1 : Nat) : Int) - 1), _, _, by omega, rfl, rfl, K, by omega, by rw [List.length_append, ← hn]; rfl, Nat.le_refl _, rfl, O5, hrow.snoc rfl rfl⟩ ?_
  rintro m E hL6 ⟨j, i, l, cs, hij, rfl, rfl, K, hz3, hll, hjn, hins, O, hrowI⟩
  obtain ⟨g8, c8, e8, hg1, hg2, hcg⟩ := zqm O
  cases e8
  have hob := own_ne O; have KL := Keep.refl [] hL6
  refine tr_seq ?_
  refine tr_cut (fun E h' => Keep [] hL6 h' ∧ E = [(3, .slice (some ⟨g, 0, none⟩) (n + 1) c9), (7, .slice (some ⟨b, o, none⟩) ks.length c), (8, .int .i64 (ks.length : Int)), (9, .int .i64 (k : Int)), (6, .int .i64 i), (33, .bool (lessAt l j))]) ?_ ?_
  ·
    rcases Nat.eq_zero_or_pos j with g0 | g0
    · subst g0
      have g1 : decide ((0 : Int) < i) = false := decide_eq_false (by omega)
      refine tr_any (Keep []) (zae _) (by kernel_rfl) (by kernel_rfl) ?_
      refine rm_v (zae _) (fun h' hk => v_move rfl) ?_
      refine rm_v (zae _) (fun h' hk => v_gt rfl rfl) ?_
      refine rm_v (zae _) (fun h' hk => v_move rfl) ?_
      refine rm_gs (zae _) rfl (lkm g1) rfl ?_
      refine rm_gs (zae _) rfl (lkm g1) rfl ?_
      refine rm_gs (zae _) rfl (lkm g1) rfl ?_
      refine rm_gs (zae _) rfl (lkm g1) rfl ?_
      refine rm_gs (zae _) rfl (lkm g1) rfl ?_
      refine rm_gs (zae _) rfl (lkm g1) rfl ?_
      refine rm_gs (zae _) rfl (lkm g1) rfl ?_
      refine rm_gs (zae _) rfl (lkm g1) rfl ?_
      refine rm_gs (zae _) rfl (lkm g1) rfl ?_
      refine rm_gs (zae _) rfl (lkm g1) rfl ?_
      refine rm_v (zae _) (fun h' hk => zar (lkb g1) rfl) ?_
      refine rm_end ?_; intro h7 K7; simp only [endM, hypF, ofE, argE, List.nil_append]
      have O := O.keep2 K7 (fun x hm => by have := hob x hm; simp; try omega)
      have K := K.new0 K7; have Z7 := K7.1
      refine q_cut [(3, _), (7, _), (8, _), (9, _), (6, _), (33, _)] ⟨rfl, rfl, rfl, rfl, rfl, rfl, trivial⟩ ⟨K7, ?_⟩
      rfl
    · obtain ⟨j, rfl⟩ : ∃ j', j = j' + 1 := ⟨j - 1, by omega⟩
      have g1 : decide ((0 : Int) < i) = true := decide_eq_true (by omega)
      obtain ⟨y, hy⟩ := ex_get (L := l) (k := j + 1) (by omega)
      obtain ⟨z, hz⟩ := ex_get (L := l) (k := j) (by omega)
      obtain ⟨cy, _, hcy, ey⟩ := hrowI.at hcg hy
      obtain ⟨cz, _, hcz, ez⟩ := hrowI.at hcg hz
      cases ey; cases ez
      have hle : lessAt l (j + 1) = zfd y z := by simp [lessAt, hy, hz]
      refine tr_any (Keep []) (zae _) (by kernel_rfl) (by kernel_rfl) ?_
      refine rm_v (zae _) (fun h' hk => v_move rfl) ?_
      refine rm_v (zae _) (fun h' hk => v_gt rfl rfl) ?_
      refine rm_v (zae _) (fun h' hk => v_move rfl) ?_
      refine rm_gv (zae _) rfl (lkm g1) (fun h' hk => v_move rfl) ?_
      refine rm_gv (zae _) rfl (lkm g1) (fun h' hk => v_move rfl) ?_
      refine rm_gv (zae _) rfl (lkm g1) (fun h' hk => zcn (i := j + 1) zbq zcp rfl rfl hij (by omega)) ?_
      refine rm_gv (zae _) rfl (lkm g1) (fun h' hk => zay (vs := [_, _, _]) zdv rfl (by exact hk.cells (by simp) hcy)) ?_
      refine rm_gv (zae _) rfl (lkm g1) (fun h' hk => v_move rfl) ?_
      refine rm_gv (zae _) rfl (lkm g1) (fun h' hk => v_move rfl) ?_
      refine rm_gv (zae _) rfl (lkm g1) (fun h' hk => v_sub rfl rfl (by omega) (by omega)) ?_
      refine rm_gv (zae _) rfl (lkm g1) (fun h' hk => zcn (i := j) zbq zcp rfl rfl (by omega) (by omega)) ?_
      refine rm_gv (zae _) rfl (lkm g1) (fun h' hk => zay (vs := [_, _, _]) zdv rfl (by exact hk.cells (by simp) hcz)) ?_
      refine rm_gc rfl (lkm g1) (fun h' hk => w_call (vs := [_, _]) zrp rfl ⟨rfl, rfl, trivial⟩ (c_spanKeyLess χ h' y z)) ?_
      refine rm_v (zae _) (fun h' hk => zbd (lkb g1) rfl) ?_
      refine rm_end ?_; intro h8 K8; simp only [endM, hypF, ofE, argE, List.nil_append]
      have O := O.keep2 K8 (fun x hm => by have := hob x hm; simp; try omega)
      have K := K.new0 K8; have Z8 := K8.1
      refine q_cut [(3, _), (7, _), (8, _), (9, _), (6, _), (33, _)] ⟨rfl, rfl, rfl, rfl, rfl, rfl, trivial⟩ ⟨K8, ?_⟩
      rw [hle]
  rintro E h9 ⟨K9, rfl⟩
  have K := K.new0 K9; have Z9 := K9.1
  have O := O.keep2 K9 (by simp)
  have hcg := K9.cells (by simp) hcg
  refine tr_ifn rfl (fun hif => ?_) (fun hif => ?_)
  · -- no
    skip
    refine zda <| zcb <| zcq <| zcf <| zbc <| q_thn <| tr_reg <| rs_v (v_add rfl rfl (by omega) (by omega)) rfl ?_
    refine rM rfl rfl <| rs_nil ?_
    have hst : insW l j = l := insW_stop hif
    rw [hst] at hins
    refine q_lp (ks.length - (k + 1)) [(3, _), (7, _), (8, _), (9, _)] (by omega) ⟨rfl, rfl, rfl, rfl, trivial⟩ ⟨k + 1, _, n + 1, by omega, rfl, rfl, K, ?_, ?_⟩
    · rw [canonF_len, List.length_take]; omega
    · rw [zbu hsk, ztb, ← hn, ← hins]
      exact ⟨cs, N0, O, hrowI, fun _ hb => hb.elim⟩
  -- yes
  skip
  refine zai <| q_thn <| tr_seq <| zal ?_
  obtain ⟨j, rfl⟩ : ∃ j', j = j' + 1 := by
    cases j with
    | zero => simp [lessAt] at hif
    | succ j => exact ⟨j, rfl⟩
  obtain ⟨y, hy⟩ := ex_get (L := l) (k := j + 1) (by omega)
  obtain ⟨z, hz⟩ := ex_get (L := l) (k := j) (by omega)
  obtain ⟨cy, _, hcy, ey⟩ := hrowI.at hcg hy
  obtain ⟨cz, _, hcz, ez⟩ := hrowI.at hcg hz
  cases ey; cases ez
  refine zdi [(true, 16), (false, 2)] _ (by kernel_rfl) (by kernel_rfl) (by kernel_rfl) ?_
  refine rx_one 15 ?_
  refine re_v rfl (by kernel_rfl) (v_move rfl) ?_
  refine re_v rfl (by kernel_rfl) (v_move rfl) ?_
  refine re_a rfl (fun h' => v_move rfl) ?_
  refine re_a rfl (fun h' => v_move rfl) ?_
  refine re_a rfl (fun h' => v_sub rfl rfl (by omega) (by omega)) ?_
  refine re_v rfl (by kernel_rfl) (v_move rfl) ?_
  refine re_v rfl (by kernel_rfl) (v_move rfl) ?_
  refine re_v rfl (by kernel_rfl) (v_sub rfl rfl (by omega) (by omega)) ?_
  refine re_v rfl (by kernel_rfl) (zcn (i := j) zbq zcp rfl rfl (by omega) (by omega)) ?_
  refine re_v rfl (by kernel_rfl) (zay (vs := [_, _, _]) zdv rfl (by exact hcz)) ?_
  refine re_v rfl (by kernel_rfl) (v_move rfl) ?_
  refine re_v rfl (by kernel_rfl) (v_move rfl) ?_
  refine re_v rfl (by kernel_rfl) (zcn (i := j + 1) zbq zcp rfl rfl (by omega) (by omega)) ?_
  refine re_v rfl (by kernel_rfl) (zay (vs := [_, _, _]) zdv rfl (by exact hcy)) ?_
  refine re_v rfl (by kernel_rfl) (zcn (i := j + 1) zbq zcp rfl rfl (by omega) (by omega)) ?_
  refine re_w0 _ rfl (w_putOwn zcp rfl rfl rfl rfl O (Nat.zero_add _) (by omega)) ?_
  refine re_end ?_; intro hA2 _; simp only [endM, hypF, ofE, argE, List.nil_append]; rintro ⟨OA, KA⟩
  refine rx_seq <| rs_v (zcn (i := j) zbq zcp rfl rfl (by omega) (by omega)) rfl ?_
  refine rs_w0 (w_putOwn zcp rfl rfl rfl rfl OA (Nat.zero_add _) (by omega)) ?_
  rintro _ h10 ⟨OB, KB⟩
  have K := (K.new1 KA (.inr hg1)).new1 KB (.inr hg1); have ZB := KA.1; have ZC := KB.1
  refine rs_nil <| q_con ?_
  refine rx_nil ?_
  refine zbc <| q_thn <| tr_reg <| rM rfl rfl <| rs_v (v_sub rfl rfl (by omega) (by omega)) rfl ?_
  refine rA rfl rfl <| rs_nil ?_
  refine q_lp j [(3, _), (7, _), (8, _), (9, _), (6, _)] (by omega) ⟨rfl, rfl, rfl, rfl, rfl, trivial⟩ ⟨j, _, swapAt l j, _, by omega, rfl, rfl, K, by omega, by rw [swapAt_len]; exact hll, by omega, by rw [← hins, insW_go hif], OB, ?_⟩
  have e : swapAt l j = (l.set (j + 1) z).set j y := by simp [swapAt, hy, hz]
  rw [e]
  exact (hrowI.set rfl rfl (by omega)).set rfl rfl (by simp; omega)
set_option maxHeartbeats 1000000
def canonS (s : SpanD) : SpanD := ⟨s.s, s.e, canonF s.ks⟩
def Like (W W2 : List SpanD) : Prop := W.map canonS = W2.map canonS ∧ ∀ s, s ∈ W → descB s.ks = true
theorem Like.refl {W : List SpanD} (h : ∀ s, s ∈ W → descB s.ks = true) : Like W W := ⟨rfl, h⟩
def few (s : SpanD) : Prop := s.ks.length ≤ 100000
theorem rspans1 {A : Nat → Prop} {h : Heap} {b c : Nat} {s : SpanD} {kv : Value} {T : TypeId} (B : Blk h b [.string s.s, .string s.e, kv] T) (hk : RKeys A h kv s.ks) (hb : A b) : RSpans A h (.slice (some ⟨b, 0, none⟩) 1 c) [s] :=
  ⟨by simp, _, _, rfl, fun i x hi => ⟨b, 0, rfl, hb, by
    cases i with
    | zero => simp at hi; subst hi; exact ⟨kv, B.cells, hk⟩
    | succ i => simp at hi⟩⟩
theorem zsa (χ : Chi) (h : Heap) (A : Nat → Prop) (hA : Low A h) (v : Value) (W : List SpanD) (hW : RSpans A h v W) (hn : W.length ≤ 100000) (hm : ∀ s, s ∈ W → few s) :
    Cl Tryz.prog χ 87 #[v] h (fun r h' => RSpans (Up N0 h h') h' r (W.map canonS) ∧ Keep [] h h') := by
  obtain ⟨hlen, a, c, rfl, hx⟩ := hW.form
  refine zah Tryz.func87 rfl rfl rfl ?_
  have K : Keep [] h h := Keep.refl _ _
  refine rG <| rA rfl rfl <| rN <| rG <| rA rfl rfl <| rN <| tr_seq <| rG <| rM rfl rfl <| rs_v (v_len u_sl_spec_Span rfl) rfl ?_
  refine rM rfl rfl <| rN <| zal ?_
  refine zdd (fun m E h' => ∃ k v n, k ≤ W.length ∧ m = W.length - k ∧ E = [(3, v), (6, .slice a W.length c), (7, .int .i64 (W.length : Int)), (8, .int .i64 (k : Int))] ∧ Keep [] h h' ∧ n = ((W.take k).map canonS).length ∧ OutR N0 h h' h.size 56 3 cSpan v n ((W.take k).map canonS)) W.length [(3, _), (6, _), (7, _), (8, _)] ⟨rfl, rfl, rfl, rfl, trivial⟩ ⟨0, _, 0, Nat.zero_le _, rfl, rfl, K, rfl, OutR.nil _ _ _ _ _ _ _⟩ ?_
  rintro m E hL1 ⟨k, v, n, hk, rfl, rfl, K, hn, hout⟩
  have hout0 := hout
  obtain ⟨xs, F, O, hrow, hF⟩ := hout
  have hob := own_ne O; have KL := Keep.refl [] hL1
  refine rG <| rs_v (v_lt rfl rfl) rfl <| rN <| tr_seq ?_
  refine tr_ifn rfl (fun hif => ?_) (fun hif => ?_)
  · -- no
    simp only [dT, dF] at hif
    have hkk : k = W.length := by omega
    subst hkk
    refine zda <| zcb <| zcq <| zcf <| q_thn <| rG <| rM rfl rfl <| rA rfl rfl <| rN <| tr_ret <| q_ret (zap rfl rfl) ?_
    rw [List.take_length] at hout0 hn
    exact ⟨hout0.fin zml hn (Nat.le_refl _) cSpan_r, K⟩
  -- yes
  simp only [dT, dF] at hif
  rcases hx with rfl | ⟨b, o, rfl, hAb, hR⟩
  · simp at hif; omega
  obtain ⟨x, hsk⟩ := ex_get (L := W) (k := k) (by omega)
  have hkl : k < W.length := (List.getElem?_eq_some_iff.1 hsk).1
  have KL0 := K.1
  obtain ⟨kv, hcc, hkx⟩ := hR k x hsk
  obtain ⟨ka, kc, rfl⟩ := hkx.form2
  have hcells := K.cells (by simp) hcc
  have hnk : n = k := by rw [hn, List.length_map, List.length_take]; omega
  refine zai <| q_thn <| tr_seq <| zal <| rG <| rs_v (zbv u_sl_spec_Span zck rfl rfl (by omega)) rfl ?_
  refine rs_v (zay (vs := [_, _, _]) zcy rfl (by exact hcells)) rfl ?_
  refine rs_w (w_new zeh) rfl ?_
  rintro _ h2 ⟨rfl, B2, K2, Z2⟩
  have O := O.keep2 K2 (fun x hm => by have := hob x hm; simp; try omega)
  have S2 := K.1; have K := K.new0 K2; have KL := KL.new0 K2
  refine rs_w0 (w_put zck rfl rfl rfl rfl B2 rfl) ?_
  rintro _ h3 ⟨B3, K3⟩
  have O := O.keep2 K3 (fun x hm => by have := hob x hm; simp; try omega)
  have B2 := B3; have K := K.new1 K3 (by first | (right; omega) | (left; simp; done)); have Z3 := K3.1; have KL := KL.new1 K3 (.inr (by omega))
  refine rN <| rG <| rF zew rfl rfl <| rs_v (v_load zed rfl (by exact B2.cell _ rfl)) rfl ?_
  refine rs_w (w_call (vs := [_]) zny rfl ⟨rfl, trivial⟩ (ztc χ _ A (hA.mono (by omega)) _ x.ks (hkx.stab (K.st hA)) (hm x (List.mem_of_getElem? hsk)))) rfl ?_
  rintro kv4 h4 ⟨hkv4, K4⟩
  obtain ⟨a4, c4, rfl⟩ := hkv4.form2
  have B2 := K4.blk (by simp) B2
  have O := O.keep2 K4 (fun x hm => by have := hob x hm; simp; try omega)
  have K := K.new0 K4; have Z4 := K4.1; have KL := KL.new0 K4
  refine rF zew rfl rfl <| rs_w0 (w_put zrm rfl rfl rfl rfl B2 rfl) ?_
  rintro _ h5 ⟨B5, K5⟩
  have O := O.keep2 K5 (fun x hm => by have := hob x hm; simp; try omega)
  have B2 := B5; have K := K.new1 K5 (by first | (right; omega) | (left; simp; done)); have Z5 := K5.1; have KL := KL.new1 K5 (.inr (by omega))
  refine rN <| tr_reg <| rM rfl rfl <| rs_v (zay (vs := [_, _, _]) zcy rfl (by exact B2.sub _ 3 rfl)) rfl ?_
  refine rs_w (w_new1 u_sl_spec_Span zck zeh rfl rfl rfl rfl rfl) rfl ?_
  rintro _ h6 ⟨rfl, B6, K6, Z6⟩
  have B2 := K6.blk (by simp) B2
  have O := O.keep2 K6 (fun x hm => by have := hob x hm; simp; try omega)
  have S6 := K.1; have K := K.new0 K6; have KL := KL.new0 K6
  refine rs_w (w_app1 u_sl_spec_Span zpz rfl rfl rfl O rfl rfl B6 rfl (by omega) (by omega) (by omega)) rfl ?_
  rintro v7 h7 ⟨O7, K7, N7, F7⟩
  have K := K.newX K7 (fun x hm => .inr (by have := hob x hm; omega)); have Z7 := K7.1
  have B2 := K7.blk (fun hm => by first | (have := hob _ hm; omega) | exact absurd rfl (hnb _ hm)) B2
  have B6 := K7.blk (fun hm => by first | (have := hob _ hm; omega) | exact absurd rfl (hnb _ hm)) B6
  refine rA rfl rfl <| rs_nil <| zbc <| q_thn <| tr_reg <| rs_v (v_add rfl rfl (by omega) (by omega)) rfl ?_
  refine rM rfl rfl <| rs_nil ?_
  refine q_lp (W.length - (k + 1)) [(3, _), (6, _), (7, _), (8, _)] (by omega) ⟨rfl, rfl, rfl, rfl, trivial⟩ ⟨k + 1, v7, n + 1, by omega, rfl, rfl, K, ?_, ?_⟩
  · rw [zbu hsk, List.map_append]; rw [List.length_append, ← hn]; rfl
  · rw [zbu hsk, List.map_append]
    exact OutR.snoc zml (n0low h) (by omega) hob hrow hF KL0 KL O7 K7 F7 rfl (⟨_, rfl, (upk (n0low _) (by omega) (rk_skip hkv4 Z4 K5 (by omega)) K6).mono (n0up (by omega) (Nat.le_refl _))⟩)
theorem c_spanLike (χ : Chi) (h : Heap) (A A2 : Nat → Prop) (hA : Low A h) (hA2 : Low A2 h) (v u : Value) (W W2 : List SpanD) (hW : RSpans A h v W) (hW2 : RSpans A2 h u W2) (hn : W.length ≤ 100000) (hn2 : W2.length ≤ 100000) (hm : ∀ s, s ∈ W → few s) (hm2 : ∀ s, s ∈ W2 → few s) (hlk : Like W W2) :
    Cl Tryz.prog χ 41 #[v, u] h (fun r h' => r = .bool true ∧ Keep [] h h') := by
  obtain ⟨a2, c2, rfl⟩ := SlR.form2 hW2
  refine zah Tryz.func41 rfl rfl rfl ?_
  have K : Keep [] h h := Keep.refl _ _
  refine rG <| rA rfl rfl <| rN <| rG <| rM rfl rfl <| rs_w (w_call (vs := [_]) zui rfl ⟨rfl, trivial⟩ (c_ofSpans χ h A hA _ W hW hn hm)) rfl ?_
  rintro v1 h1 ⟨hl1, K1⟩
  obtain ⟨hlen, a, c, rfl, hx⟩ := SlR.form hl1
  have K := K.new0 K1; have Z1 := K1.1
  refine rA rfl rfl <| rN <| tr_seq <| rG <| rM rfl rfl <| rs_v (v_len u_sl_spec_Span rfl) rfl ?_
  refine rM rfl rfl <| rN <| zal ?_
  refine zdd (fun m E h' => ∃ k, k ≤ W.length ∧ m = W.length - k ∧ E = [(1, .slice a2 W2.length c2), (5, .slice a W.length c), (10, .slice a W.length c), (11, .int .i64 (W.length : Int)), (12, .int .i64 (k : Int))] ∧ Keep [] h h' ∧ Keep [] h1 h') W.length [(1, _), (5, _), (10, _), (11, _), (12, _)] ⟨rfl, rfl, rfl, rfl, rfl, trivial⟩ ⟨0, Nat.zero_le _, rfl, rfl, K, Keep.refl _ _⟩ ?_
  rintro m E hL2 ⟨k, hk, rfl, rfl, K, KA⟩
  refine rG <| rs_v (v_lt rfl rfl) rfl <| rN <| tr_seq ?_
  refine tr_ifn rfl (fun hif => ?_) (fun hif => ?_)
  · -- no
    simp only [dT, dF] at hif
    refine zda <| zcb <| zcq <| zcf <| q_thn <| rG <| rM rfl rfl <| rs_w (w_call (vs := [_]) znj rfl ⟨rfl, trivial⟩ (zsa χ _ (Up A h h1) ((hA.up Z1).mono KA.1) _ W (RSpans.stab hl1 (KA.st (hA.up Z1))) hn hm)) rfl ?_
    rintro v2 h3 ⟨hl2, K3⟩
    have KA := KA.newX K3 (fun x hx => .inr (by first | (simp at hx; done) | (simp at hx; omega)))
    have K := K.new0 K3; have Z3 := K3.1
    refine rM rfl rfl <| rs_w (w_call (vs := [_]) znj rfl ⟨rfl, trivial⟩ (zsa χ _ A2 (hA2.mono K.1) _ W2 (hW2.stab (K.st hA2)) hn2 hm2)) rfl ?_
    rintro v3 h4 ⟨hl3, K4⟩
    have hz2 := K3.1
    have hl2 := hl2.stab (K4.st ((n0low _).up hz2))
    obtain ⟨aa2, cc2, rfl⟩ := SlR.form2 hl2
    obtain ⟨aa3, cc3, rfl⟩ := SlR.form2 hl3
    have KA := KA.newX K4 (fun x hx => .inr (by first | (simp at hx; done) | (simp at hx; omega)))
    have K := K.new0 K4; have Z4 := K4.1
    refine rs_w (w_call (vs := [_, _]) zsv rfl ⟨rfl, rfl, trivial⟩ (c_sameSpans χ _ _ _ (((n0low _).up hz2).mono Z4) ((n0low _).up Z4) _ _ (W.map canonS) hl2 (by rw [hlk.1]; exact hl3))) rfl ?_
    rintro _ h5 ⟨rfl, K5⟩
    have KA := KA.newX K5 (fun x hx => .inr (by first | (simp at hx; done) | (simp at hx; omega)))
    have K := K.new0 K5; have Z5 := K5.1
    refine rA rfl rfl <| rN <| tr_ret <| q_ret (zap rfl rfl) ?_
    exact ⟨rfl, K⟩
  -- yes
  simp only [dT, dF] at hif
  rcases hx with rfl | ⟨b, o, rfl, hAb, hR⟩
  · simp at hif; omega
  obtain ⟨x, hsk⟩ := ex_get (L := W) (k := k) (by omega)
  obtain ⟨kv, hcc, hkx⟩ := hR k x hsk
  obtain ⟨ka, kc, rfl⟩ := hkx.form2
  have hcells := KA.cells (by simp) hcc
  have hZA := KA.1
  have hd := hlk.2 x (List.mem_of_getElem? hsk)
  refine zai <| q_thn <| tr_seq <| zal <| rG <| rs_v (zbv u_sl_spec_Span zck rfl rfl (by omega)) rfl ?_
  refine rs_v (zay (vs := [_, _, _]) zcy rfl (by exact hcells)) rfl ?_
  refine rs_w (w_new zeh) rfl ?_
  rintro _ h6 ⟨rfl, B6, K6, Z6⟩
  have KA := KA.newX K6 (fun x hx => .inr (by first | (simp at hx; done) | (simp at hx; omega)))
  have S6 := K.1; have K := K.new0 K6
  refine rs_w0 (w_put zck rfl rfl rfl rfl B6 rfl) ?_
  rintro _ h7 ⟨B7, K7⟩
  have KA := KA.newX K7 (fun x hx => .inr (by first | (simp at hx; done) | (simp at hx; omega)))
  have B6 := B7; have K := K.new1 K7 (by first | (right; omega) | (left; simp; done)); have Z7 := K7.1
  refine rN <| rG <| rF zew rfl rfl <| rs_v (v_load zed rfl (by exact B6.cell _ rfl)) rfl ?_
  refine rs_w (w_call (vs := [_]) zkr rfl ⟨rfl, trivial⟩ (zor χ _ (Up A h h1) _ x.ks (hkx.stab (KA.st (hA.up Z1))))) rfl ?_
  rintro _ h8 ⟨rfl, hsame⟩; have hsame := hsame.symm; subst hsame
  refine rs_v (v_not rfl) rfl <| rN <| zaf (lkb (by rw [hd]; rfl)) ?_
  refine zai <| zbc <| q_thn <| tr_reg <| rs_v (v_add rfl rfl (by omega) (by omega)) rfl ?_
  refine rM rfl rfl <| rs_nil ?_
  refine q_lp (W.length - (k + 1)) [(1, _), (5, _), (10, _), (11, _), (12, _)] (by omega) ⟨rfl, rfl, rfl, rfl, rfl, trivial⟩ ⟨k + 1, by omega, rfl, rfl, K, KA⟩
set_option maxHeartbeats 1000000
theorem bsplit2 (a : Bool) : a = true ∨ a = false := Bool.eq_false_or_eq_true a
theorem bsplit3 (a b : Bool) : a = true ∨ (a = false ∧ b = true) ∨ (a = false ∧ b = false) := by cases a <;> cases b <;> simp
theorem bsplit4 (a b c : Bool) : a = true ∨ (a = false ∧ b = true) ∨ (a = false ∧ b = false ∧ c = true) ∨ (a = false ∧ b = false ∧ c = false) := by cases a <;> cases b <;> cases c <;> simp
structure Good (W : List SpanD) : Prop where
  len : W.length ≤ 40
  full : ∀ s, s ∈ W → slt s.s s.e = true ∧ s.ks ≠ [] ∧ descB s.ks = true ∧ s.ks.length ≤ 40
  small : ∀ s, s ∈ W → SpanD.small s
  ord : Tess.Ord W
theorem Good.few {W : List SpanD} (h : Good W) : ∀ s, s ∈ W → few s := fun s hs => by have := (h.full s hs).2.2.2; unfold Go.Proofs.YtblhkgldhcbmeaaGreat.few; omega
theorem Good.n {W : List SpanD} (h : Good W) : W.length ≤ 100000 := by have := h.len; omega
theorem good_of {W : List SpanD} {n : Int} (hn : n ≤ 40) (h4 : fit4 W = true) (hm : (mostB W n && wellB W) = true) : Good W ∧ (W.length : Int) ≤ n := by
  simp only [fit4, mostB, wellB, Bool.and_eq_true, List.all_eq_true, decide_eq_true_eq] at h4 hm
  obtain ⟨⟨hm1, hm2⟩, hw1, hw2⟩ := hm
  have hfull : ∀ s, s ∈ W → slt s.s s.e = true ∧ s.ks ≠ [] ∧ descB s.ks = true ∧ s.ks.length ≤ 40 := fun s hs => by
    have := hw1 s hs
    simp only [fullB, Bool.and_eq_true, decide_eq_true_eq] at this
    exact ⟨this.1, fun e => by rw [e] at this; simp at this, this.2.2, hm1 s hs⟩
  refine ⟨⟨by omega, hfull, fun s hs => ?_, ⟨fun s hs => (hfull s hs).1, fun i a b ha hb => (zhp _ W).1 hw2 i a b ha hb⟩⟩, hm2⟩
  have h5 := h4.2 s hs
  simp only [fit5, fit6, Bool.and_eq_true, List.all_eq_true, decide_eq_true_eq, MX] at h5
  refine ⟨by omega, by omega, by have := hm1 s hs; omega, fun k hk => ?_⟩
  have h7 := h5.2.2 k hk
  simp only [fit7, Bool.and_eq_true, decide_eq_true_eq, MX] at h7
  exact ⟨by omega, by omega⟩
theorem c_spanWell_t (χ : Chi) (h : Heap) (A : Nat → Prop) (hA : Low A h) (v : Value) (W : List SpanD) (n : Int) (hW : RSpans A h v W) (hq : mostB W n = true) :
    Cl Tryz.prog χ 14 #[v, .int .i64 n] h (fun r h' => r = .bool (mostB W n && wellB W) ∧ Keep [] h h') := by
  refine zah Tryz.func14 rfl rfl rfl ?_
  have K : Keep [] h h := Keep.refl _ _
  refine rG <| rA rfl rfl <| rN <| rG <| rM rfl rfl <| rM rfl rfl <| rs_w (w_call (vs := [_, _]) zoq rfl ⟨rfl, rfl, trivial⟩ (c_spanMost χ h A _ W n hW)) rfl ?_
  rintro _ h1 ⟨rfl, K1⟩
  have K := K.new0 K1; have Z1 := K1.1
  refine rM rfl rfl <| rs_gv rfl (lkb hq) (v_move rfl) rfl ?_
  refine rs_gw rfl (lkb hq) (w_call (vs := [_]) zto rfl ⟨rfl, trivial⟩ (c_SpanWell χ _ A (hA.mono K.1) _ W (hW.stab (K.st hA)))) rfl ?_
  rintro _ h2 ⟨rfl, K2⟩
  have K := K.new0 K2; have Z2 := K2.1
  refine rs_v (zbd (lkb hq) rfl) rfl ?_
  refine rA rfl rfl <| rN <| tr_ret <| q_ret (zap rfl rfl) ?_
  exact ⟨by rw [hq]; rfl, K⟩
theorem c_spanWell_f (χ : Chi) (h : Heap) (A : Nat → Prop) (hA : Low A h) (v : Value) (W : List SpanD) (n : Int) (hW : RSpans A h v W) (hq : mostB W n = false) :
    Cl Tryz.prog χ 14 #[v, .int .i64 n] h (fun r h' => r = .bool (mostB W n && wellB W) ∧ Keep [] h h') := by
  refine zah Tryz.func14 rfl rfl rfl ?_
  have K : Keep [] h h := Keep.refl _ _
  refine rG <| rA rfl rfl <| rN <| rG <| rM rfl rfl <| rM rfl rfl <| rs_w (w_call (vs := [_, _]) zoq rfl ⟨rfl, rfl, trivial⟩ (c_spanMost χ h A _ W n hW)) rfl ?_
  rintro _ h1 ⟨rfl, K1⟩
  have K := K.new0 K1; have Z1 := K1.1
  refine rM rfl rfl ?_
  refine rs_gs rfl (lkb hq) rfl rfl ?_
  refine rs_gs rfl (lkb hq) rfl rfl ?_
  refine rs_v (zar (lkb hq) rfl) rfl ?_
  refine rA rfl rfl <| rN <| tr_ret <| q_ret (zap rfl rfl) ?_
  exact ⟨by rw [hq]; rfl, K⟩
theorem c_spanWell (χ : Chi) (h : Heap) (A : Nat → Prop) (hA : Low A h) (v : Value) (W : List SpanD) (n : Int) (hW : RSpans A h v W) :
    Cl Tryz.prog χ 14 #[v, .int .i64 n] h (fun r h' => r = .bool (mostB W n && wellB W) ∧ Keep [] h h') := by
  rcases bsplit2 (mostB W n) with hq | hq
  · exact c_spanWell_t χ h A hA v W n hW hq
  · exact c_spanWell_f χ h A hA v W n hW hq
set_option maxHeartbeats 1000000
def All (h : Heap) : Nat → Prop := fun b => b < h.size
theorem all_low (h : Heap) : Low (All h) h := fun _ hb => hb
section
variable {h h' : Heap} {v : Value}
theorem all_st (K : Keep [] h h') : Stab (All h) h h' := K.st (all_low h)
theorem all_up (K : Keep [] h h') : ∀ b, All h b → All h' b := fun _ hb => Nat.lt_of_lt_of_le hb K.1
theorem RSpans.kk {W : List SpanD} (hr : RSpans (All h) h v W) (K : Keep [] h h') : RSpans (All h') h' v W := (RSpans.stab hr (all_st K)).mono (all_up K)
theorem RSteps.kk {W : List StepD} (hr : RSteps (All h) h v W) (K : Keep [] h h') : RSteps (All h') h' v W := (RSteps.stab hr (all_st K)).mono (all_up K)
theorem upA (K : Keep [] h h') : ∀ b, Up (All h) h h' b → All h' b := (all_low h).up K.1
theorem upN (K : Keep [] h h') : ∀ b, Up N0 h h' b → All h' b := (n0low h).up K.1
end
def someW : List SpanD := [⟨⟨#[97]⟩, ⟨#[98]⟩, [⟨256, ByteArray.empty, ByteArray.empty⟩]⟩]
theorem ab_lt : slt ⟨#[97]⟩ ⟨#[98]⟩ = true := by rw [zlk]; decide
theorem zsb : Good someW := ⟨by decide, by intro s hs; simp [someW] at hs; subst hs; exact ⟨ab_lt, by simp, by decide, by decide⟩, by
  intro s hs; simp [someW] at hs; subst hs; exact ⟨by decide, by decide, by decide, by intro k hk; simp at hk; subst hk; exact ⟨by decide, by decide⟩⟩, by
  refine ⟨by intro s hs; simp [someW] at hs; subst hs; exact ab_lt, ?_⟩
  intro i s t h1 h2
  cases i <;> simp [someW] at h2⟩
open Go.Tess Go.ChangeShapes Go.WideShapes Go.ChangeAt Go.RowKit
theorem take_open {α : Type} {n : Nat} {p : Nat → α → Prop} (hh : ∀ i, i < n → ∃ a, p i a) : ∃ xs : List α, xs.length = n ∧ ∀ (i : Nat) a, xs[i]? = some a → p i a := by
  induction n with
  | zero => exact ⟨[], rfl, fun i a h => by simp at h⟩
  | succ n ih =>
    obtain ⟨xs, hl, hx⟩ := ih fun i hi => hh i (by omega)
    obtain ⟨a, ha⟩ := hh n (by omega)
    refine ⟨xs ++ [a], by simp [hl], fun i b hb => ?_⟩
    by_cases hi : i < n
    · rw [List.getElem?_append_left (by omega)] at hb; exact hx i b hb
    · have := (List.getElem?_eq_some_iff.1 hb).1
      simp [hl] at this
      have e : i = n := by omega
      subst e
      rw [List.getElem?_append_right (by omega), hl] at hb
      simp at hb; subst hb; exact ha
section
variable {H : Type} {enc : TypeId × Value → H} {χ : Chi} {h : Heap} {d : Nat} {sp : Nat → Bool} {hd : Bool}
theorem sl_open {P : Program} {α : Type} {t e : TypeId} {sz : Nat} {R : List Value → α → Prop} (ht : P.underlying t = some (.slice e)) (hc : P.cellsOf e = sz) (h0 : 0 < sz)
    (hop : ∀ n cs x, DataW.trod enc P (mkw χ h d) 0 sp hd n e cs = some x → ∃ a, R cs a) {fuel : Nat} {v : Value} {x : DataW H × List MemPlace} (htr : DataW.trod enc P (mkw χ h d) 0 sp hd fuel t [v] = some x) :
    ∃ xs : List α, SlR h (All h) sz (fun h b o a => ∃ cs, zbk h b o cs ∧ R cs a) v xs := by
  rcases Deep.open_slice ht htr with ⟨hcs, _⟩ | ⟨a, len, cap, m, n, D, Pl, hcs, _, hl, hm, hmm, _, hel⟩
  · cases hcs; exact ⟨[], SlR.nil _ _ _ _⟩
  cases hcs
  have hlm : len ≤ m := by rw [hmm]; split <;> omega
  obtain ⟨xs, hxl, hx⟩ := take_open (α := α) (n := len) (p := fun i a' => ∃ cs', (mkw χ h d).cells? 0 (a.add (i * sz)) sz = some cs' ∧ R cs' a') fun i hi => by
    obtain ⟨cs', h1, h2⟩ := hel i (by omega)
    rw [hc] at h1
    obtain ⟨a', ha'⟩ := hop _ _ _ h2
    exact ⟨a', cs', h1, ha'⟩
  have hspot : 0 < len → ∃ b o, a = ⟨b, o, none⟩ := fun hpos => by
    obtain ⟨cs', h1, _⟩ := hel 0 (by omega)
    rw [hc] at h1
    obtain ⟨_, hlen, hcell⟩ := World.cells?_some h1
    have h2 := hcell 0 h0
    rw [List.getElem?_eq_getElem (by omega)] at h2
    have h3 := World.cell?_spot h2
    simp [Addr.add] at h3
    obtain ⟨b, o, q⟩ := a
    simp at h3; subst h3
    exact ⟨b, o, rfl⟩
  refine ⟨xs, by unfold maxLen at hm; omega, some a, cap, by rw [hxl], fun i x hi => ?_⟩
  have hlt := (List.getElem?_eq_some_iff.1 hi).1
  obtain ⟨b, o, rfl⟩ := hspot (by omega)
  obtain ⟨cs', h1, h2⟩ := hx i x hi
  obtain ⟨_, hlen, hcell⟩ := World.cells?_some h1
  have hcells : zbk h b (o + i * sz) cs' := fun j v hj => by
    have := hcell j (by have := (List.getElem?_eq_some_iff.1 hj).1; omega)
    rw [zhk, zhk, zim, hj] at this
    exact this
  refine ⟨b, o, rfl, ?_, cs', hcells, h2⟩
  have := hcells 0 cs'[0] (List.getElem?_eq_getElem (by omega))
  exact cellH_lt this
theorem zgr {P : Program} {w : World} {T : TypeId} {fs : Array Field} {n : Nat} {cs : List Value} {x : DataW H × List MemPlace} (ht : P.underlying T = some (.struct fs)) (hx : DataW.trod enc P w 0 sp hd n T cs = some x) (i : Nat) (ft off sz : Nat)
    (hf : (fs[i]?).map (fun f => (f.type, f.offset)) = some (ft, off)) (hsz : P.cellsOf ft = sz) : ∃ m y, DataW.trod enc P w 0 sp hd m ft ((cs.drop off).take sz) = some y := by
  obtain ⟨xs, m, _, _, _, hl, hfs⟩ := DataW.trod_struct ht hx
  cases hq : fs[i]? with
  | none => rw [hq] at hf; simp at hf
  | some f =>
    rw [hq] at hf
    simp only [Option.map_some, Option.some.injEq, Prod.mk.injEq] at hf
    have := hfs i f hq
    have hi : i < fs.size := (Array.getElem?_eq_some_iff.1 hq).1
    rw [List.getElem?_eq_getElem (by omega), hf.1, hf.2, hsz] at this
    exact ⟨m, _, this⟩
theorem zoa {P : Program} {w : World} {T : TypeId} {fs : Array Field} {n sz : Nat} {cs : List Value} {x : DataW H × List MemPlace} (ht : P.underlying T = some (.struct fs)) (hx : DataW.trod enc P w 0 sp hd n T cs = some x) (hsz : P.cellsOf T = sz) : cs.length = sz := by
  obtain ⟨_, _, _, _, hl, _⟩ := DataW.trod_struct ht hx
  rw [hl, hsz]
theorem st_key : Tryz.prog.underlying 73 = some (.struct (Tryz.prog.fieldsOf 73)) := by kernel_rfl
theorem st_span : Tryz.prog.underlying 56 = some (.struct (Tryz.prog.fieldsOf 56)) := by kernel_rfl
theorem st_step : Tryz.prog.underlying 66 = some (.struct (Tryz.prog.fieldsOf 66)) := by kernel_rfl
theorem open_step {n : Nat} {cs : List Value} {x : DataW H × List MemPlace} (hx : DataW.trod enc Tryz.prog (mkw χ h d) 0 sp hd n 66 cs = some x) : ∃ k : StepD, cs = k.cells := by
  have hl := zoa st_step hx (sz := 2) (by kernel_rfl)
  match cs, hl with
  | [c0, c1], _ =>
    obtain ⟨_, _, y0⟩ := zgr st_step hx 0 5 0 1 (by kernel_rfl) (by kernel_rfl)
    obtain ⟨_, _, y1⟩ := zgr st_step hx 1 9 1 1 (by kernel_rfl) (by kernel_rfl)
    obtain ⟨i, e0, _⟩ := DataW.trod_int zgh y0
    obtain ⟨s, e1, _⟩ := DataW.trod_string zdl y1
    cases e0; cases e1
    exact ⟨⟨i, s⟩, rfl⟩
theorem open_steps {n : Nat} {v : Value} {x : DataW H × List MemPlace} (hx : DataW.trod enc Tryz.prog (mkw χ h d) 0 sp hd n 24 [v] = some x) : ∃ ks : List StepD, RSteps (All h) h v ks := by
  obtain ⟨ks, hk⟩ := sl_open (R := fun cs (k : StepD) => cs = k.cells) u_sl_spec_Step (sz := 2) (by kernel_rfl) (by omega) (fun n cs x hx => open_step hx) hx
  exact ⟨ks, SlR.mono hk (fun _ h => h) fun b o x _ hc => by obtain ⟨cs, h1, rfl⟩ := hc; exact h1⟩
end
theorem below_of {χ : Chi} {h h' : Heap} {d d' : Nat} (K : Keep [] h h') : Below h.size (mkw χ h d) (mkw χ h' d') := ⟨rfl, rfl, rfl, K.1, fun k hk => K.2 k hk (by simp)⟩
theorem laidOut : laidOutB Tryz.prog = true := by kernel_rfl
theorem zri {P : Program} (hl : laidOutB P = true) {H : Type} {enc : TypeId × Value → H} {W W' : World} (hb : Below W.heap.size W W') : ∀ (ts : List TypeId) (vs : List Value) (ds : List (DataW H)) (ps : List MemPlace),
    (ts.all fun t => P.readableRec t && decide (t < P.types.size)) = true → DataW.TrodAll enc P W 0 (fun _ => true) true ts vs ds ps → (∀ x, x ∈ ps → x.block < W.heap.size) →
    DataW.TrodAll enc P W' 0 (fun b => decide (b < W.heap.size)) true ts vs ds ps
  | [], vs, ds, ps, _, h, _ => by
    obtain ⟨rfl, rfl, rfl⟩ := trodAll_nil h
    exact trodAll_mk0
  | t :: ts, vs, ds, ps, hr, h, hlt => by
    obtain ⟨v, vs1, d, ds1, a, b, rfl, rfl, rfl, h1, h2⟩ := trodAll_cons h
    rw [List.all_cons, Bool.and_eq_true, Bool.and_eq_true] at hr
    exact ⟨a, b, Below.trod hl hr.1.1 (of_decide_eq_true hr.1.2) h1 hb (fun x hx => hlt x (List.mem_append_left _ hx)),
      zri hl hb ts vs1 ds1 b hr.2 h2 (fun x hx => hlt x (List.mem_append_right _ hx)), rfl⟩
theorem Tryz.own : ownKnob Tryz.prog.godebug = none := by kernel_rfl
theorem law_lift {H : Type} {enc : TypeId × Value → H} {os : Os} (started : os.Started) {f : FuncId} {fn : Func} {s : ChangeSpec} {conds : List PathCond} (noInit : Tryz.prog.inits.idxOf? f = none) (hfn : Tryz.prog.funcs[f]? = some fn)
    (witness : ∃ (w : World) (tape : Tape) (i : Input), w.os = os ∧ (w.forCall tape i).Shaped Tryz.prog ∧ i.vars = [] ∧ Input.okWide Tryz.prog (w.forCall tape i) .any w.heap.size f i ∧
      s.pre6 enc Tryz.prog fn conds false (w.forCall tape i).memory i.args ∧ Assume.holds {} Tryz.prog (lone (Frame.enter Tryz.prog f i.args .normal) [] (w.forCall tape i)))
    (hres : fn.resultTypes = #[4]) (hvars : s.vars = []) (hread : (fn.params.toList.all fun t => Tryz.prog.readableRec t && decide (t < Tryz.prog.types.size)) = true)
    (hs : ∀ ds : List (DataW H), ds.length = fn.params.toList.length → (s.fn H ds).results = [.lit (.bool true)] ∧ (s.fn H ds).args = ds ∧ (s.fn H ds).vars = [])
    (contract : ∀ (W : World) (args : Array Value) (ds : List (DataW H)) (ps : List MemPlace) (b0 : Nat), (∀ (j : Nat) t v, fn.params[j]? = some t → args[j]? = some v → Value.okWide Tryz.prog W .any b0 t v) →
      DataW.TrodAll enc Tryz.prog W 0 (fun _ => true) true fn.params.toList args.toList ds ps → Cl Tryz.prog ⟨W.tape, W.os, W.output⟩ f args W.heap (fun r h' => r = .bool true ∧ Keep [] W.heap h')) :
    ReturnsInHanded {} Tryz.checked os f .any (s.pre6 enc Tryz.prog fn conds false) (s.post enc Tryz.prog fn false true false false) := by
  refine returnsInHanded_of_change (C := Tryz.checked) Tryz.own started noInit hfn witness ?_
  intro W base args ds gs before hval hW _ _
  have hW' := hW
  obtain ⟨p, q, hA, hV, rfl, _, _⟩ := hW
  have hlen : ∀ (ts : List TypeId) (vs : List Value) (ds : List (DataW H)) (ps : List MemPlace), DataW.TrodAll enc Tryz.prog W 0 (fun _ => true) true ts vs ds ps → ds.length = ts.length := by
    intro ts
    induction ts with
    | nil => intro vs ds ps h; obtain ⟨_, rfl, _⟩ := trodAll_nil h; rfl
    | cons t ts ih => intro vs ds ps h; obtain ⟨v, vs1, d, ds1, a, b, rfl, rfl, rfl, h1, h2⟩ := trodAll_cons h; simp [ih _ _ _ h2]
  have hV0 : gs = [] ∧ q = [] := by
    rw [hvars] at hV
    cases gs with
    | nil => exact ⟨rfl, hV⟩
    | cons g gs => exact hV.elim
  obtain ⟨rfl, rfl⟩ := hV0
  obtain ⟨e1, e2, e3⟩ := hs ds (hlen _ _ _ _ hA)
  refine (contract W args ds p base hval hA W.drawn).mono fun e W' hW2 => ?_
  obtain ⟨v, h', d', rfl, rfl, rfl, K⟩ := hW2
  have hb0 : Below W.heap.size (mkw ⟨W.tape, W.os, W.output⟩ W.heap W.drawn) (mkw ⟨W.tape, W.os, W.output⟩ h' d') := below_of K
  have hb : Below W.heap.size W (mkw ⟨W.tape, W.os, W.output⟩ h' d') := hb0
  have hlt : ∀ x ∈ p, x.block < W.heap.size := fun x hx => by simpa using hW'.lt x (by simpa using hx)
  refine ⟨_, rfl, ds, [], p ++ [], [], p, [], hW', ?_, ?_, ?_, hb.frame _, fun h => by cases h⟩
  · rw [List.append_nil, e1, hres]
    exact trodAll_mk1 (shut_bool (show Tryz.prog.underlying 4 = some .bool from u_bool) _)
  · rw [List.append_nil, e2]
    exact zri laidOut hb _ _ _ _ hread hA hlt
  · rw [List.append_nil, e3, hvars]
    rfl
set_option maxHeartbeats 1000000
structure EntD where
  user : ByteArray
  tr : Int
  val : ByteArray
def EntD.v (e : EntD) : Value := .agg #[.string e.user, .int .u64 e.tr, .string e.val]
set_option maxHeartbeats 1000000
def UpC (up : Option ByteArray) (s : SpanD) : Bool := match up with | none => true | some u => slt s.s u
def RBnd (G : Nat → Prop) (h : Heap) (v : Value) (b : Option ByteArray) : Prop := match b with
  | none => v = .slice none 0 0
  | some u => ∃ g o n c, v = .slice (some ⟨g, o, none⟩) n c ∧ RBytes G h v u
theorem RBnd.stab {G : Nat → Prop} {h h' : Heap} {v : Value} {b : Option ByteArray} (hr : RBnd G h v b) (s : Stab G h h') : RBnd G h' v b := by
  cases b with
  | none => exact hr
  | some u => obtain ⟨g, o, n, c, e, h1⟩ := hr; exact ⟨g, o, n, c, e, h1.stab s⟩
theorem RBnd.mono {G G' : Nat → Prop} {h : Heap} {v : Value} {b : Option ByteArray} (hr : RBnd G h v b) (s : ∀ b, G b → G' b) : RBnd G' h v b := by
  cases b with
  | none => exact hr
  | some u => obtain ⟨g, o, n, c, e, h1⟩ := hr; exact ⟨g, o, n, c, e, h1.mono s⟩
theorem RBnd.form {G : Nat → Prop} {h : Heap} {v : Value} {b : Option ByteArray} (hr : RBnd G h v b) : ∃ a n c, v = .slice a n c := by
  cases b with
  | none => exact ⟨_, _, _, hr⟩
  | some u => obtain ⟨g, o, n, c, e, _⟩ := hr; exact ⟨_, _, _, e⟩
set_option maxHeartbeats 1000000
structure BndD where
  key : ByteArray
  has : Bool
def BndD.v (b : BndD) : Value := .agg #[.string b.key, .bool b.has]
def BndD.opt (b : BndD) : Option ByteArray := if b.has then some b.key else none
def cmpL (s : ByteArray) : List Value := [cmpF, .func (.func 91) #[] #[], .func (.func 92) #[] #[], .nilFunc, .func (.func 94) #[] #[], .nilFunc, .func (.func 96) #[] #[], .func (.func 97) #[] #[], .string s]
theorem znk (χ : Chi) (h : Heap) :
    Cl Tryz.prog χ 53 #[] h (fun r h' => r = .pointer (some ⟨h.size, 0, none⟩) ∧ (∃ s, Blk h' h.size (cmpL s) 147) ∧ Keep [] h h') := by
  refine zah Tryz.func53 rfl rfl rfl ?_
  have K : Keep [] h h := Keep.refl _ _
  refine rG <| rA rfl rfl <| rN <| rG <| rs_v (zoj (us := [_, _, _, _, _, _, _]) ⟨rfl, rfl, rfl, rfl, rfl, rfl, rfl, trivial⟩ (zlv _ _ _ _ _ _ _ _ _ _ _ _ _ _ _ _ _ _ _)) rfl ?_
  refine rs_w (zbw rfl) rfl ?_
  rintro _ h1 ⟨rfl, B1, K1, Z1⟩
  have S1 := K.1; have K := K.new0 K1
  refine rA rfl rfl <| rN <| tr_ret <| q_ret (zap rfl rfl) ?_
  exact ⟨rfl, ⟨_, B1⟩, K⟩
theorem zku (χ : Chi) (h : Heap) (b : BndD) (hb : b.key.size ≤ 9223372036854775807) :
    Cl Tryz.prog χ 56 #[b.v] h (fun r h' => RBnd (fun x => h.size ≤ x ∧ x < h'.size) h' r b.opt ∧ Keep [] h h') := by
  unfold BndD.v
  refine zah Tryz.func56 rfl rfl rfl ?_
  have K : Keep [] h h := Keep.refl _ _
  refine rG <| rs_w (zbw rfl) rfl ?_
  rintro _ h1 ⟨rfl, B1, K1, Z1⟩
  have S1 := K.1; have K := K.new0 K1
  refine rA rfl rfl <| rN <| tr_seq <| rG <| rF ztv rfl rfl <| rs_v (v_load zav rfl (by exact B1.cell _ rfl)) rfl ?_
  refine rs_v (v_not rfl) rfl <| rN ?_
  refine tr_if rfl (fun hif => ?_) (fun hif => ?_)
  · -- yes
    skip
    refine rG <| rA rfl rfl <| rN <| tr_ret <| zaw <| q_ret (zap rfl rfl) ?_
    exact ⟨by rw [show b.opt = none from by unfold BndD.opt; rw [if_neg (by simpa using hif)]]; exact rfl, K⟩
  -- no
  skip
  refine zai <| q_thn <| rG <| rF ztu rfl rfl <| rs_v (v_load zbp rfl (by exact B1.cell _ rfl)) rfl ?_
  refine rs_w (zlj zdl zcx zgh rfl (by omega)) rfl ?_
  rintro _ h2 ⟨cb, rfl, K2, hby⟩
  have B1 := K2.blk (by simp) B1
  have K := K.new0 K2; have Z2 := K2.1
  refine rA rfl rfl <| rN <| tr_ret <| q_ret (zap rfl rfl) ?_
  exact ⟨by rw [show b.opt = some b.key from by unfold BndD.opt; rw [if_pos (by simpa using hif)]]; exact ⟨_, _, _, _, rfl, hby.mono fun x hx => ⟨by have := hx.1; omega, hx.2⟩⟩, K⟩
set_option maxHeartbeats 1000000
theorem nb {b : Bool} (h : b = false) : (!b) = true := by rw [h]; rfl
open Go.Tess Go.ChangeShapes Go.WideShapes Go.ChangeAt Go.RowKit
theorem zqv : Tryz.prog.underlying 53 = some (.struct (Tryz.prog.fieldsOf 53)) := by kernel_rfl
set_option maxHeartbeats 2000000
theorem own_new {h : Heap} {base b sz : Nat} {cs : List Value} {T : TypeId} (B : Blk h b cs T) (hb : base ≤ b) (hl : cs.length = sz) : Own h base T sz (.slice (some ⟨b, 0, none⟩) 1 1) 1 cs :=
  ⟨by omega, .inr ⟨b, 1, cs.toArray, rfl, hb, B, Nat.le_refl _, by decide, by simp [hl], by rw [Nat.one_mul, ← hl]; simp⟩⟩
theorem RowsR.app {α : Type} {sz : Nat} {R : List Value → α → Prop} {xs ys : List Value} {ls ms : List α} (h : RowsR sz R xs ls) (k : RowsR sz R ys ms) : RowsR sz R (xs ++ ys) (ls ++ ms) := by
  obtain ⟨c1, rfl, l1, h1⟩ := h
  obtain ⟨c2, rfl, l2, h2⟩ := k
  refine ⟨c1 ++ c2, by simp, by simp [l1, l2], fun i c a hc ha => ?_⟩
  rcases Nat.lt_or_ge i c1.length with hlt | hge
  · rw [List.getElem?_append_left hlt] at hc
    rw [List.getElem?_append_left (by omega)] at ha
    exact h1 i c a hc ha
  · rw [List.getElem?_append_right hge] at hc
    rw [List.getElem?_append_right (by omega)] at ha
    rw [l1] at hc
    exact h2 _ c a hc ha
def nextS : StepD := ⟨2, ByteArray.empty⟩
def fwdS (n : Nat) : List StepD := ⟨0, ByteArray.empty⟩ :: List.replicate n nextS
theorem fwdS_succ (n : Nat) : fwdS (n + 1) = fwdS n ++ [nextS] := by simp [fwdS, List.replicate_succ']
theorem fwdS_len (n : Nat) : (fwdS n).length = n + 1 := by simp [fwdS]
theorem c_spanForth (χ : Chi) (h : Heap) (n : Nat) (hn : n ≤ 1000) :
    Cl Tryz.prog χ 22 #[.int .i64 (n : Int)] h (fun r h' => (RSteps (Up N0 h h') h' r (fwdS n) ∧ ∃ a c, r = .slice a (n + 1) c ∧ n + 1 ≤ c) ∧ Keep [] h h') := by
  refine zah Tryz.func22 rfl rfl rfl ?_
  have K : Keep [] h h := Keep.refl _ _
  refine rG <| rA rfl rfl <| rN <| rG <| rs_v (zgn rfl (zpb _)) rfl ?_
  refine rs_w (w_new1 zgx zje zke rfl rfl rfl rfl rfl) rfl ?_
  rintro _ h1 ⟨rfl, B1, K1, Z1⟩
  have S1 := K.1; have K := K.new0 K1
  refine rA rfl rfl <| rN <| tr_seq <| rG <| rM rfl rfl <| rM rfl rfl <| rN <| zal ?_
  refine zdd (fun m E h' => ∃ k v xs, k ≤ n ∧ m = n - k ∧ E = [(3, v), (6, .int .i64 (n : Int)), (7, .int .i64 (k : Int))] ∧ Keep [] h h' ∧ Own h' h.size 90 2 v (k + 1) xs ∧ RowsR 2 (cStep N0 h) xs (fwdS k)) n [(3, _), (6, _), (7, _)] ⟨rfl, rfl, rfl, trivial⟩ ⟨0, _, _, Nat.zero_le _, rfl, rfl, K, own_new B1 (Nat.le_refl _) rfl, (RowsR.nil 2 (cStep N0 h)).snoc rfl rfl⟩ ?_
  rintro m E hL2 ⟨k, v, xs, hk, rfl, rfl, K, O, hrow⟩
  have hob := own_ne O; have KL := Keep.refl [] hL2
  refine rG <| rs_v (v_lt rfl rfl) rfl <| rN <| tr_seq ?_
  refine tr_ifn rfl (fun hif => ?_) (fun hif => ?_)
  · -- no
    simp only [dT, dF] at hif
    have hkk : k = n := by omega
    subst hkk
    refine zda <| zcb <| zcq <| zcf <| q_thn <| rG <| rM rfl rfl <| rA rfl rfl <| rN <| tr_ret <| q_ret (zap rfl rfl) ?_
    obtain ⟨g, c9, rfl, hg1, hg2, _⟩ := zqm O
    have hcap : k + 1 ≤ c9 := by
      rcases O.2 with ⟨e, _⟩ | ⟨g', cap, cur, e, _, _, hle, _⟩
      · cases e
      · cases e; exact hle
    exact ⟨⟨SlR.of_rows O (fwdS_len k).symm hrow (fun b h1 h2 => .inr ⟨h1, h2⟩) (fun b o c a hc hr => cStep_r N0 _ _ _ _ _ hc hr), _, _, rfl, hcap⟩, K⟩
  -- yes
  simp only [dT, dF] at hif
  refine zai <| q_thn <| tr_seq <| zal <| tr_reg <| rM rfl rfl <| rs_v (zgn rfl (zpb _)) rfl ?_
  refine rs_w (w_new1 zgx zje zke rfl rfl rfl rfl rfl) rfl ?_
  rintro _ h3 ⟨rfl, B3, K3, Z3⟩
  have O := O.keep2 K3 (fun x hm => by have := hob x hm; simp; try omega)
  have S3 := K.1; have K := K.new0 K3
  refine rs_w (w_app1 zgx zqa rfl rfl rfl O rfl rfl B3 rfl (by omega) (by omega) (by omega)) rfl ?_
  rintro v4 h4 ⟨O4, K4, N4, F4⟩
  have K := K.newX K4 (fun x hm => .inr (by have := hob x hm; omega)); have Z4 := K4.1
  have B3 := K4.blk (fun hm => by first | (have := hob _ hm; omega) | exact absurd rfl (hnb _ hm)) B3
  refine rA rfl rfl <| rs_nil <| zbc <| q_thn <| tr_reg <| rs_v (v_add rfl rfl (by omega) (by omega)) rfl ?_
  refine rM rfl rfl <| rs_nil ?_
  refine q_lp (n - (k + 1)) [(3, _), (6, _), (7, _)] (by omega) ⟨rfl, rfl, rfl, trivial⟩ ⟨k + 1, _, _, by omega, rfl, rfl, K, O4, ?_⟩
  rw [fwdS_succ]
  exact hrow.snoc rfl rfl
set_option maxHeartbeats 1000000
section
variable {P : Program} {χ : Chi} {n : Nat} {ops : Array Oper} {rest : List Oper} {S Sb : Heap → Heap → Prop} {h0 : Heap} {Z : MEnv → List (Heap → Prop) → Prop} {M : MEnv} {F : List (Heap → Prop)} {big : Bool}
  {dd : Nat} {op : Op} {ty : TypeId} {pos : String} {after : Array Edge}
theorem rb_o (t : Nat) {Ψ : Value → Heap → Prop} (Φ : Value → Heap → Prop) (hl : M.lookup t = some (.loose Ψ)) (hm : ((⟨some dd, op, ty, pos, after, none⟩ : Oper).looksAt ops).contains t = true)
    (hst : ∀ v h h', S h0 h → S h h' → Φ v h → Φ v h')
    (hw : ∀ u h', S h0 h' → Ψ u h' → OpW P χ ⟨some dd, op, ty, pos, after, none⟩ (evM ((t, .val u) :: M)) h' (fun v h'' => Sb h' h'' ∧ Φ v h''))
    (k : RMb P χ n ops Sb S h0 Z big rest ((dd, .loose Φ) :: M) F) : RMb P χ n ops Sb S h0 Z big (⟨some dd, op, ty, pos, after, none⟩ :: rest) M F :=
  ⟨.loose Φ, false, by simp, fun _ => hst, by simp, fun _ h' hs => zjy t hl hm fun u hu => om_w (by simp) rfl (hw u h' hs hu), by simp, by rw [show (big && !false) = big from by simp]; exact k⟩
end
set_option maxHeartbeats 1000000
theorem c_bytesEqual (χ : Chi) (h : Heap) (a b : Value) (s u : ByteArray) (ha : RBy h a s) (hb : RBy h b u) :
    Cl Tryz.prog χ 91 #[a, b] h (fun r h' => r = .bool (seq' s u) ∧ h' = h) := by
  refine zah Tryz.func91 rfl rfl rfl ?_
  have K : Keep [] h h := Keep.refl _ _
  refine rG <| rA rfl rfl <| rN <| rG <| rM rfl rfl <| rs_v (zli zcx zgh zdl rfl ha) rfl ?_
  refine rM rfl rfl <| rs_v (zli zcx zgh zdl rfl hb) rfl ?_
  refine rs_v (v_seq rfl rfl) rfl ?_
  refine rA rfl rfl <| rN <| tr_ret <| q_ret (zap rfl rfl) ?_
  exact ⟨rfl, rfl⟩
set_option maxHeartbeats 1000000
section
variable {P : Program} {χ : Chi} {ρ : Operand → Option Value} {h : Heap} {ty : TypeId} {pos : String} {after : Array Edge} {guard : Option (Nat × Bool)}
theorem w_appS {s x : Operand} {t e : TypeId} {dst : Option Tmp} {z : Value} {size bytes base : Nat} {v : Value} {n m c : Nat} {y : Option Addr} {xs : List Value} {news : List Value}
    (ht : P.underlying t = some (.slice e)) (hi : (P.info? e).map (fun i => (i.zero, i.size, i.bytes)) = some (some z, size, bytes)) (hzs : Nat.beq z.cells.size size = true) (hsz : Nat.blt 0 size = true)
    (hs : ρ s = some v) (hown : Own h base e size v n xs) (hx : ρ x = some (.slice y m c)) (hl : news.length = m * size)
    (hnews : news = [] ∨ ∃ b o, y = some ⟨b, o, none⟩ ∧ zbk h b o news) (h1 : ∀ u, u ∈ news → u.oneCell' = true) (hbytes : (n + m) * bytes ≤ 140737488355328) (hn : n + m ≤ 9223372036854775807) (hbase : base ≤ h.size) :
    OpW P χ ⟨dst, .call ⟨.builtin .append, #[s, x], #[t, t]⟩, ty, pos, after, guard⟩ ρ h
      (fun v' h' => Own h' base e size v' (n + m) (xs ++ news) ∧ Keep v.ownBlock.toList h h' ∧ (v'.ownBlock = v.ownBlock ∨ v'.ownBlock = some h.size)) := by
  cases hq : P.info? e with
  | none => rw [hq] at hi; simp at hi
  | some i =>
    rw [hq] at hi
    simp only [Option.map_some, Option.some.injEq, Prod.mk.injEq] at hi
    have hsz' : 0 < size := by simpa [Nat.blt_eq] using hsz
    refine zkv fun r d hr => ?_
    have e1 := hr s (by simp [Op.operands, Call.operands]) _ hs
    have e2 := hr x (by simp [Op.operands, Call.operands]) _ hx
    cases y with
    | none =>
      have hnil : news = [] := by
        rcases hnews with e | ⟨b, o, e, _⟩
        · exact e
        · cases e
      subst hnil
      have hm : m = 0 := by
        simp only [List.length_nil] at hl
        rcases Nat.eq_zero_or_pos m with h0 | h0
        · exact h0
        · have := Nat.mul_pos h0 hsz'; omega
      subst hm
      have hrun : (Builtin.append_ #[t, t] ty #[v, .slice none 0 c]).run P (mkw χ h d) = .ok v (mkw χ h d) := by
        rcases hown.2 with ⟨rfl, rfl⟩ | ⟨g, cap, cur, rfl, _, _, hnc, _⟩
        · simp [Builtin.append_, run_underlying ht, sizeOf, typeInfo, hq, Builtin.lenOf, Builtin.firstCells]
        · simp [Builtin.append_, run_underlying ht, sizeOf, typeInfo, hq, Builtin.lenOf, Builtin.firstCells, hnc, storeCells]
      refine ⟨v, h, d, ?_, by simpa using hown, Keep.refl _ _, .inl rfl⟩
      simp [execOp, resolve, invoke, builtin, e1, e2, hrun]
    | some ad =>
      obtain ⟨v', w', hrun, h2, h3, h4, h5⟩ := run_append_own_at (P := P) (mkw χ h d) base t ty e i z size bytes ht hq hi.1 hi.2.1 hi.2.2 (Nat.eq_of_beq_eq_true hzs) hsz' v n xs hown ad m c news hl
        (fun j u hj => by
          rcases hnews with e | ⟨b, o, e, hc⟩
          · rw [e] at hj; simp at hj
          · cases e; rw [zhk, zim]; exact hc j u hj) h1 (by unfold maxLen; omega) hbytes hbase
      obtain ⟨k1, k2⟩ := grown_keep h3
      refine ⟨v', w'.heap, w'.drawn, ?_, ?_, k2, h5⟩
      · simp [execOp, resolve, invoke, builtin, e1, e2, hrun]; exact k1
      · rw [k1] at h2; exact h2
end
section
variable {W : List SpanD} {I : ItI} {t : TypeId} {v0 cm : Value} {c cb : Nat} {d : Bool} {cur : SpanD} {q q' : Pos} {Fin F G : Nat → Prop} {h h' h1 h2 h3 : Heap} {sp sp' sv sv' ev ev' kv kv' a ksv kbv kbv' : Value} {z z' : Int} {nk nb nb' : Nat} {xk xb xb' : List Value} {χ : Chi}
end
set_option maxHeartbeats 2000000
theorem zdm {P : Program} {χ : Chi} {ρ : Operand → Option Value} {h : Heap} {dst : Option Tmp} {ty : TypeId} {pos : String} {after : Array Edge} {guard : Option (Nat × Bool)} {x : Operand} {t t2 : TypeId} (ht : Tess.IsIface P t) (hx : ρ x = some .nilIface) (hy : ρ (.const .nilIface) = some .nilIface) :
    OpV P χ ⟨dst, .binOp .neq t x (.const .nilIface) t2, ty, pos, after, guard⟩ ρ h (.bool false) := by
  intro r d hr
  have e1 := hr x (by simp [Op.operands]) _ hx
  unfold Tess.IsIface at ht
  cases hu : P.underlying t with
  | none => rw [hu] at ht; simp at ht
  | some d' =>
    rw [hu] at ht
    cases d' <;> first | (simp at ht; done) | skip
    have : (Op.equal t .nilIface .nilIface).run P (mkw χ h d) = .ok true (mkw χ h d) := zho (fun d => by simp [Op.equalIn, run_underlying hu])
    have e2 := hr (.const .nilIface) (by simp [Op.operands]) _ hy
    simp [execOp, e1, e2, eqGuard, binOp, this]
set_option maxHeartbeats 1000000
theorem putRow_all {c u : List Value} (h : u.length = c.length) : putRow c 0 u = u := by
  unfold putRow
  rw [List.take_zero, Nat.zero_add, h, List.drop_of_length_le (Nat.le_refl _), List.nil_append, List.append_nil]
theorem eqF_cons {P : Program} {d : Nat} {w : World} {xs ys : Array Value} {f : Field} {fs : List Field} {a c : Value} {b r : Bool} (hn : f.name ≠ "_") (h1 : (part f.type xs f.offset).run P w = .ok a w) (h2 : (part f.type ys f.offset).run P w = .ok c w)
    (h3 : (Op.equalIn d f.type a c).run P w = .ok b w) (h4 : (Op.eqFields d xs ys fs).run P w = .ok r w) : (Op.eqFields d xs ys (f :: fs)).run P w = .ok (b && r) w := by
  simp only [Op.eqFields, hn, ne_eq, not_false_eq_true, if_true, Sem.run_bind, h1, h2, h3, Result.andThen_ok]
  cases b <;> simp [h4]
end Go.Proofs.YtblhkgldhcbmeaaGreat
