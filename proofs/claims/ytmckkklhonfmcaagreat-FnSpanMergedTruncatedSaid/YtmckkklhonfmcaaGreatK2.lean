/- Texts Facts to W24, as far as the statement reaches them, laid together by a program of ours. Conditions: those that each theorem names. -/
import Derived.Test.YtmckkklhonfmcaaGreatK1
import Derived.Test.YtmckkklhonfmcaaGreatProg
set_option linter.unusedVariables false
set_option linter.unusedSimpArgs false
set_option linter.unusedSectionVars false
namespace Go.Proofs.YtmckkklhonfmcaaGreat
open Go.Tess
set_option maxRecDepth 100000
theorem u_int : Tryz.prog.underlying 3 = some (.int .i64) := by kernel_rfl
theorem u_bool : Tryz.prog.underlying 4 = some (.bool) := by kernel_rfl
theorem u_uint8 : Tryz.prog.underlying 5 = some (.int .u8) := by kernel_rfl
theorem u_string : Tryz.prog.underlying 9 = some (.string) := by kernel_rfl
theorem u_sl_sl_spec_Span : Tryz.prog.underlying 22 = some (.slice 25) := by kernel_rfl
theorem u_sl_spec_Span : Tryz.prog.underlying 25 = some (.slice 40) := by kernel_rfl
theorem u_sl_impl_Span : Tryz.prog.underlying 29 = some (.slice 64) := by kernel_rfl
theorem u_sl_sl_impl_Span : Tryz.prog.underlying 32 = some (.slice 29) := by kernel_rfl
theorem u_uint64 : Tryz.prog.underlying 35 = some (.int .u64) := by kernel_rfl
theorem u_sl_spec_SpanKey : Tryz.prog.underlying 38 = some (.slice 42) := by kernel_rfl
theorem u_sl_impl_SpanAnswer : Tryz.prog.underlying 49 = some (.slice 66) := by kernel_rfl
theorem u_sl_impl_Step : Tryz.prog.underlying 51 = some (.slice 167) := by kernel_rfl
theorem u_sl_impl_SpanKey : Tryz.prog.underlying 62 = some (.slice 168) := by kernel_rfl
theorem u_sl_uint8 : Tryz.prog.underlying 82 = some (.slice 5) := by kernel_rfl
theorem u_sl_keyspan_Key : Tryz.prog.underlying 85 = some (.slice 194) := by kernel_rfl
theorem u_p_keyspan_Span : Tryz.prog.underlying 95 = some (.pointer 89) := by kernel_rfl
theorem u_keyspan_keysBySeqNumKind : Tryz.prog.underlying 108 = some (.slice 194) := by kernel_rfl
theorem u_sl_keyspan_mergingIterLevel : Tryz.prog.underlying 109 = some (.slice 99) := by kernel_rfl
theorem u_sl_keyspan_mergingIterItem : Tryz.prog.underlying 112 = some (.slice 103) := by kernel_rfl
theorem u_sl_keyspan_FragmentIterator : Tryz.prog.underlying 139 = some (.slice 93) := by kernel_rfl
theorem u_p_base_InternalKey : Tryz.prog.underlying 141 = some (.pointer 118) := by kernel_rfl
theorem u_p_keyspan_MergingIter : Tryz.prog.underlying 166 = some (.pointer 107) := by kernel_rfl
theorem u_p_keyspan_Iter : Tryz.prog.underlying 171 = some (.pointer 208) := by kernel_rfl
theorem u_sl_keyspan_Span : Tryz.prog.underlying 173 = some (.slice 89) := by kernel_rfl
theorem u_uint : Tryz.prog.underlying 191 = some (.int .u64) := by kernel_rfl
theorem u_p_keyspan_filteringIter : Tryz.prog.underlying 226 = some (.pointer 228) := by kernel_rfl
theorem u_p_keyspan_keysBySeqNumKind : Tryz.prog.underlying 231 = some (.pointer 108) := by kernel_rfl
theorem u_sort_xorshift : Tryz.prog.underlying 260 = some (.int .u64) := by kernel_rfl
theorem isi_error : IsIface Tryz.prog 91 := by unfold IsIface; kernel_rfl
theorem isf_keyspan_TransformerFunc : IsFunc Tryz.prog 188 := by unfold IsFunc; kernel_rfl
theorem isf_keyspan_FilterFunc : IsFunc Tryz.prog 225 := by unfold IsFunc; kernel_rfl
theorem fa_spec_Span_0 : FA Tryz.prog 40 0 0 := fun _ _ _ => by kernel_rfl
theorem fa_spec_Span_1 : FA Tryz.prog 40 1 1 := fun _ _ _ => by kernel_rfl
theorem fa_spec_Span_2 : FA Tryz.prog 40 2 2 := fun _ _ _ => by kernel_rfl
theorem fa_spec_SpanKey_0 : FA Tryz.prog 42 0 0 := fun _ _ _ => by kernel_rfl
theorem fa_spec_SpanKey_1 : FA Tryz.prog 42 1 1 := fun _ _ _ => by kernel_rfl
theorem fa_spec_SpanKey_2 : FA Tryz.prog 42 2 2 := fun _ _ _ => by kernel_rfl
theorem fa_impl_Span_0 : FA Tryz.prog 64 0 0 := fun _ _ _ => by kernel_rfl
theorem fa_impl_Span_1 : FA Tryz.prog 64 1 1 := fun _ _ _ => by kernel_rfl
theorem fa_impl_Span_2 : FA Tryz.prog 64 2 2 := fun _ _ _ => by kernel_rfl
theorem fa_impl_SpanAnswer_1 : FA Tryz.prog 66 1 1 := fun _ _ _ => by kernel_rfl
theorem fa_impl_SpanAnswer_2 : FA Tryz.prog 66 2 2 := fun _ _ _ => by kernel_rfl
theorem fa_keyspan_Span_0 : FA Tryz.prog 89 0 0 := fun _ _ _ => by kernel_rfl
theorem fa_keyspan_Span_1 : FA Tryz.prog 89 1 1 := fun _ _ _ => by kernel_rfl
theorem fa_keyspan_Span_2 : FA Tryz.prog 89 2 2 := fun _ _ _ => by kernel_rfl
theorem fa_keyspan_boundKey_0 : FA Tryz.prog 97 0 0 := fun _ _ _ => by kernel_rfl
theorem fa_keyspan_boundKey_1 : FA Tryz.prog 97 1 1 := fun _ _ _ => by kernel_rfl
theorem fa_keyspan_boundKey_2 : FA Tryz.prog 97 2 2 := fun _ _ _ => by kernel_rfl
theorem fa_keyspan_mergingIterLevel_0 : FA Tryz.prog 99 0 0 := fun _ _ _ => by kernel_rfl
theorem fa_keyspan_mergingIterLevel_1 : FA Tryz.prog 99 1 1 := fun _ _ _ => by kernel_rfl
theorem fa_keyspan_mergingIterItem_0 : FA Tryz.prog 103 0 0 := fun _ _ _ => by kernel_rfl
theorem fa_keyspan_mergingIterItem_1 : FA Tryz.prog 103 1 1 := fun _ _ _ => by kernel_rfl
theorem fa_struct_levels_10_keyspan_mergingIterLeve_165_0 : FA Tryz.prog 105 0 0 := fun _ _ _ => by kernel_rfl
theorem fa_struct_levels_10_keyspan_mergingIterLeve_165_1 : FA Tryz.prog 105 1 40 := fun _ _ _ => by kernel_rfl
theorem fa_keyspan_MergingIter_0 : FA Tryz.prog 107 0 0 := fun _ _ _ => by kernel_rfl
theorem fa_keyspan_MergingIter_1 : FA Tryz.prog 107 1 1 := fun _ _ _ => by kernel_rfl
theorem fa_keyspan_MergingIter_2 : FA Tryz.prog 107 2 2 := fun _ _ _ => by kernel_rfl
theorem fa_keyspan_MergingIter_3 : FA Tryz.prog 107 3 3 := fun _ _ _ => by kernel_rfl
theorem fa_keyspan_MergingIter_4 : FA Tryz.prog 107 4 4 := fun _ _ _ => by kernel_rfl
theorem fa_keyspan_MergingIter_5 : FA Tryz.prog 107 5 8 := fun _ _ _ => by kernel_rfl
theorem fa_keyspan_MergingIter_6 : FA Tryz.prog 107 6 9 := fun _ _ _ => by kernel_rfl
theorem fa_keyspan_MergingIter_7 : FA Tryz.prog 107 7 10 := fun _ _ _ => by kernel_rfl
theorem fa_keyspan_mergingIterHeap_0 : FA Tryz.prog 114 0 0 := fun _ _ _ => by kernel_rfl
theorem fa_keyspan_mergingIterHeap_1 : FA Tryz.prog 114 1 1 := fun _ _ _ => by kernel_rfl
theorem fa_keyspan_mergingIterHeap_2 : FA Tryz.prog 114 2 2 := fun _ _ _ => by kernel_rfl
theorem fa_keyspan_MergingBuffers_0 : FA Tryz.prog 116 0 0 := fun _ _ _ => by kernel_rfl
theorem fa_keyspan_MergingBuffers_1 : FA Tryz.prog 116 1 1 := fun _ _ _ => by kernel_rfl
theorem fa_keyspan_MergingBuffers_2 : FA Tryz.prog 116 2 2 := fun _ _ _ => by kernel_rfl
theorem fa_keyspan_MergingBuffers_3 : FA Tryz.prog 116 3 5 := fun _ _ _ => by kernel_rfl
theorem fa_base_InternalKey_0 : FA Tryz.prog 118 0 0 := fun _ _ _ => by kernel_rfl
theorem fa_base_Comparer_0 : FA Tryz.prog 136 0 0 := fun _ _ _ => by kernel_rfl
theorem fa_impl_Step_0 : FA Tryz.prog 167 0 0 := fun _ _ _ => by kernel_rfl
theorem fa_impl_Step_1 : FA Tryz.prog 167 1 1 := fun _ _ _ => by kernel_rfl
theorem fa_impl_SpanKey_0 : FA Tryz.prog 168 0 0 := fun _ _ _ => by kernel_rfl
theorem fa_impl_SpanKey_1 : FA Tryz.prog 168 1 1 := fun _ _ _ => by kernel_rfl
theorem fa_impl_SpanKey_2 : FA Tryz.prog 168 2 2 := fun _ _ _ => by kernel_rfl
theorem fa_keyspan_Key_0 : FA Tryz.prog 194 0 0 := fun _ _ _ => by kernel_rfl
theorem fa_keyspan_Key_1 : FA Tryz.prog 194 1 1 := fun _ _ _ => by kernel_rfl
theorem fa_keyspan_Key_2 : FA Tryz.prog 194 2 2 := fun _ _ _ => by kernel_rfl
theorem fa_keyspan_Iter_0 : FA Tryz.prog 208 0 0 := fun _ _ _ => by kernel_rfl
theorem fa_keyspan_Iter_1 : FA Tryz.prog 208 1 1 := fun _ _ _ => by kernel_rfl
theorem fa_keyspan_Iter_2 : FA Tryz.prog 208 2 2 := fun _ _ _ => by kernel_rfl
theorem fa_keyspan_filteringIter_0 : FA Tryz.prog 228 0 0 := fun _ _ _ => by kernel_rfl
theorem fa_keyspan_filteringIter_1 : FA Tryz.prog 228 1 1 := fun _ _ _ => by kernel_rfl
theorem fa_keyspan_filteringIter_2 : FA Tryz.prog 228 2 2 := fun _ _ _ => by kernel_rfl
theorem fa_keyspan_filteringIter_3 : FA Tryz.prog 228 3 3 := fun _ _ _ => by kernel_rfl
theorem one_int : One Tryz.prog 3 := fun _ => by kernel_rfl
theorem one_bool : One Tryz.prog 4 := fun _ => by kernel_rfl
theorem one_uint8 : One Tryz.prog 5 := fun _ => by kernel_rfl
theorem one_string : One Tryz.prog 9 := fun _ => by kernel_rfl
theorem one_sl_spec_Span : One Tryz.prog 25 := fun _ => by kernel_rfl
theorem one_sl_impl_Span : One Tryz.prog 29 := fun _ => by kernel_rfl
theorem one_uint64 : One Tryz.prog 35 := fun _ => by kernel_rfl
theorem one_sl_spec_SpanKey : One Tryz.prog 38 := fun _ => by kernel_rfl
theorem one_sl_impl_SpanKey : One Tryz.prog 62 := fun _ => by kernel_rfl
theorem one_p_keyspan_MergingBuffers : One Tryz.prog 81 := fun _ => by kernel_rfl
theorem one_sl_uint8 : One Tryz.prog 82 := fun _ => by kernel_rfl
theorem one_keyspan_Transformer : One Tryz.prog 84 := fun _ => by kernel_rfl
theorem one_sl_keyspan_Key : One Tryz.prog 85 := fun _ => by kernel_rfl
theorem one_int8 : One Tryz.prog 86 := fun _ => by kernel_rfl
theorem one_error : One Tryz.prog 91 := fun _ => by kernel_rfl
theorem one_keyspan_FragmentIterator : One Tryz.prog 93 := fun _ => by kernel_rfl
theorem one_keyspan_boundKind : One Tryz.prog 94 := fun _ => by kernel_rfl
theorem one_p_keyspan_Span : One Tryz.prog 95 := fun _ => by kernel_rfl
theorem one_p_keyspan_boundKey : One Tryz.prog 101 := fun _ => by kernel_rfl
theorem one_keyspan_keysBySeqNumKind : One Tryz.prog 108 := fun _ => by kernel_rfl
theorem one_sl_keyspan_mergingIterLevel : One Tryz.prog 109 := fun _ => by kernel_rfl
theorem one_base_Compare : One Tryz.prog 111 := fun _ => by kernel_rfl
theorem one_sl_keyspan_mergingIterItem : One Tryz.prog 112 := fun _ => by kernel_rfl
theorem one_p_base_InternalKey : One Tryz.prog 141 := fun _ => by kernel_rfl
theorem one_sl_keyspan_Span : One Tryz.prog 173 := fun _ => by kernel_rfl
theorem one_keyspan_FilterFunc : One Tryz.prog 225 := fun _ => by kernel_rfl
theorem one_sort_xorshift : One Tryz.prog 260 := fun _ => by kernel_rfl
theorem many_spec_Span : Many Tryz.prog 40 3 := ⟨fun _ => by kernel_rfl, fun _ => by kernel_rfl⟩
theorem many_spec_SpanKey : Many Tryz.prog 42 3 := ⟨fun _ => by kernel_rfl, fun _ => by kernel_rfl⟩
theorem many_impl_Span : Many Tryz.prog 64 3 := ⟨fun _ => by kernel_rfl, fun _ => by kernel_rfl⟩
theorem many_impl_SpanAnswer : Many Tryz.prog 66 5 := ⟨fun _ => by kernel_rfl, fun _ => by kernel_rfl⟩
theorem many_keyspan_Span : Many Tryz.prog 89 4 := ⟨fun _ => by kernel_rfl, fun _ => by kernel_rfl⟩
theorem many_keyspan_boundKey : Many Tryz.prog 97 3 := ⟨fun _ => by kernel_rfl, fun _ => by kernel_rfl⟩
theorem many_keyspan_mergingIterItem : Many Tryz.prog 103 2 := ⟨fun _ => by kernel_rfl, fun _ => by kernel_rfl⟩
theorem many_impl_Step : Many Tryz.prog 167 2 := ⟨fun _ => by kernel_rfl, fun _ => by kernel_rfl⟩
theorem many_impl_SpanKey : Many Tryz.prog 168 3 := ⟨fun _ => by kernel_rfl, fun _ => by kernel_rfl⟩
theorem many_keyspan_Key : Many Tryz.prog 194 3 := ⟨fun _ => by kernel_rfl, fun _ => by kernel_rfl⟩
theorem siz_int : Siz Tryz.prog 3 1 := fun _ => by kernel_rfl
theorem siz_bool : Siz Tryz.prog 4 1 := fun _ => by kernel_rfl
theorem siz_uint8 : Siz Tryz.prog 5 1 := fun _ => by kernel_rfl
theorem siz_sl_spec_Span : Siz Tryz.prog 25 1 := fun _ => by kernel_rfl
theorem siz_sl_impl_Span : Siz Tryz.prog 29 1 := fun _ => by kernel_rfl
theorem siz_sl_spec_SpanKey : Siz Tryz.prog 38 1 := fun _ => by kernel_rfl
theorem siz_spec_Span : Siz Tryz.prog 40 3 := fun _ => by kernel_rfl
theorem siz_spec_SpanKey : Siz Tryz.prog 42 3 := fun _ => by kernel_rfl
theorem siz_impl_Span : Siz Tryz.prog 64 3 := fun _ => by kernel_rfl
theorem siz_impl_SpanAnswer : Siz Tryz.prog 66 5 := fun _ => by kernel_rfl
theorem siz_sl_uint8 : Siz Tryz.prog 82 1 := fun _ => by kernel_rfl
theorem siz_sl_keyspan_Key : Siz Tryz.prog 85 1 := fun _ => by kernel_rfl
theorem siz_int8 : Siz Tryz.prog 86 1 := fun _ => by kernel_rfl
theorem siz_keyspan_Span : Siz Tryz.prog 89 4 := fun _ => by kernel_rfl
theorem siz_error : Siz Tryz.prog 91 1 := fun _ => by kernel_rfl
theorem siz_keyspan_FragmentIterator : Siz Tryz.prog 93 1 := fun _ => by kernel_rfl
theorem siz_keyspan_boundKey : Siz Tryz.prog 97 3 := fun _ => by kernel_rfl
theorem siz_keyspan_mergingIterLevel : Siz Tryz.prog 99 4 := fun _ => by kernel_rfl
theorem siz_keyspan_mergingIterItem : Siz Tryz.prog 103 2 := fun _ => by kernel_rfl
theorem siz_keyspan_MergingIter : Siz Tryz.prog 107 70 := fun _ => by kernel_rfl
theorem siz_keyspan_keysBySeqNumKind : Siz Tryz.prog 108 1 := fun _ => by kernel_rfl
theorem siz_sl_keyspan_mergingIterLevel : Siz Tryz.prog 109 1 := fun _ => by kernel_rfl
theorem siz_base_Compare : Siz Tryz.prog 111 1 := fun _ => by kernel_rfl
theorem siz_sl_keyspan_mergingIterItem : Siz Tryz.prog 112 1 := fun _ => by kernel_rfl
theorem siz_impl_Step : Siz Tryz.prog 167 2 := fun _ => by kernel_rfl
theorem siz_impl_SpanKey : Siz Tryz.prog 168 3 := fun _ => by kernel_rfl
theorem siz_keyspan_Key : Siz Tryz.prog 194 3 := fun _ => by kernel_rfl
theorem siz_keyspan_Iter : Siz Tryz.prog 208 3 := fun _ => by kernel_rfl
theorem siz_sort_xorshift : Siz Tryz.prog 260 1 := fun _ => by kernel_rfl
theorem zero_int : Zero Tryz.prog 3 [.int .i64 0] := fun _ => ⟨.int .i64 0, by kernel_rfl, by kernel_rfl⟩
theorem zero_sl_impl_Span : Zero Tryz.prog 29 [.slice none 0 0] := fun _ => ⟨.slice none 0 0, by kernel_rfl, by kernel_rfl⟩
theorem zero_spec_Span : Zero Tryz.prog 40 [.string ByteArray.empty, .string ByteArray.empty, .slice none 0 0] := fun _ => ⟨.agg #[.string ByteArray.empty, .string ByteArray.empty, .slice none 0 0], by kernel_rfl, by kernel_rfl⟩
theorem zero_spec_SpanKey : Zero Tryz.prog 42 [.int .u64 0, .string ByteArray.empty, .string ByteArray.empty] := fun _ => ⟨.agg #[.int .u64 0, .string ByteArray.empty, .string ByteArray.empty], by kernel_rfl, by kernel_rfl⟩
theorem zero_impl_Span : Zero Tryz.prog 64 [.string ByteArray.empty, .string ByteArray.empty, .slice none 0 0] := fun _ => ⟨.agg #[.string ByteArray.empty, .string ByteArray.empty, .slice none 0 0], by kernel_rfl, by kernel_rfl⟩
theorem zero_impl_SpanAnswer : Zero Tryz.prog 66 [.bool false, .bool false, .string ByteArray.empty, .string ByteArray.empty, .slice none 0 0] := fun _ => ⟨.agg #[.bool false, .bool false, .string ByteArray.empty, .string ByteArray.empty, .slice none 0 0], by kernel_rfl, by kernel_rfl⟩
theorem zero_keyspan_Span : Zero Tryz.prog 89 [.slice none 0 0, .slice none 0 0, .slice none 0 0, .int .i8 0] := fun _ => ⟨.agg #[.slice none 0 0, .slice none 0 0, .slice none 0 0, .int .i8 0], by kernel_rfl, by kernel_rfl⟩
theorem zero_keyspan_FragmentIterator : Zero Tryz.prog 93 [.nilIface] := fun _ => ⟨.nilIface, by kernel_rfl, by kernel_rfl⟩
theorem zero_keyspan_mergingIterItem : Zero Tryz.prog 103 [.pointer none, .int .i64 0] := fun _ => ⟨.agg #[.pointer none, .int .i64 0], by kernel_rfl, by kernel_rfl⟩
theorem zero_keyspan_MergingIter : Zero Tryz.prog 107 [.pointer none, .slice none 0 0, .slice none 0 0, .nilIface, .slice none 0 0, .slice none 0 0, .slice none 0 0, .int .i8 0, .nilIface, .int .i8 0, .nilIface, .int .i8 0, .slice none 0 0, .pointer none, .nilIface, .int .i8 0, .slice none 0 0, .pointer none, .nilIface, .int .i8 0, .slice none 0 0, .pointer none, .nilIface, .int .i8 0, .slice none 0 0, .pointer none, .nilIface, .int .i8 0, .slice none 0 0, .pointer none, .nilIface, .int .i8 0, .slice none 0 0, .pointer none, .nilIface, .int .i8 0, .slice none 0 0, .pointer none, .nilIface, .int .i8 0, .slice none 0 0, .pointer none, .nilIface, .int .i8 0, .slice none 0 0, .pointer none, .nilIface, .int .i8 0, .slice none 0 0, .pointer none, .pointer none, .int .i64 0, .pointer none, .int .i64 0, .pointer none, .int .i64 0, .pointer none, .int .i64 0, .pointer none, .int .i64 0, .pointer none, .int .i64 0, .pointer none, .int .i64 0, .pointer none, .int .i64 0, .pointer none, .int .i64 0, .pointer none, .int .i64 0] := fun _ => ⟨.agg #[.pointer none, .slice none 0 0, .slice none 0 0, .nilIface, .slice none 0 0, .slice none 0 0, .slice none 0 0, .int .i8 0, .nilIface, .int .i8 0, .nilIface, .int .i8 0, .slice none 0 0, .pointer none, .nilIface, .int .i8 0, .slice none 0 0, .pointer none, .nilIface, .int .i8 0, .slice none 0 0, .pointer none, .nilIface, .int .i8 0, .slice none 0 0, .pointer none, .nilIface, .int .i8 0, .slice none 0 0, .pointer none, .nilIface, .int .i8 0, .slice none 0 0, .pointer none, .nilIface, .int .i8 0, .slice none 0 0, .pointer none, .nilIface, .int .i8 0, .slice none 0 0, .pointer none, .nilIface, .int .i8 0, .slice none 0 0, .pointer none, .nilIface, .int .i8 0, .slice none 0 0, .pointer none, .pointer none, .int .i64 0, .pointer none, .int .i64 0, .pointer none, .int .i64 0, .pointer none, .int .i64 0, .pointer none, .int .i64 0, .pointer none, .int .i64 0, .pointer none, .int .i64 0, .pointer none, .int .i64 0, .pointer none, .int .i64 0, .pointer none, .int .i64 0], by kernel_rfl, by kernel_rfl⟩
theorem zero_keyspan_MergingBuffers : Zero Tryz.prog 116 [.slice none 0 0, .slice none 0 0, .nilFunc, .bool false, .slice none 0 0, .slice none 0 0] := fun _ => ⟨.agg #[.slice none 0 0, .slice none 0 0, .nilFunc, .bool false, .slice none 0 0, .slice none 0 0], by kernel_rfl, by kernel_rfl⟩
theorem zero_impl_Step : Zero Tryz.prog 167 [.int .u8 0, .string ByteArray.empty] := fun _ => ⟨.agg #[.int .u8 0, .string ByteArray.empty], by kernel_rfl, by kernel_rfl⟩
theorem zero_impl_SpanKey : Zero Tryz.prog 168 [.int .u64 0, .string ByteArray.empty, .string ByteArray.empty] := fun _ => ⟨.agg #[.int .u64 0, .string ByteArray.empty, .string ByteArray.empty], by kernel_rfl, by kernel_rfl⟩
theorem zero_keyspan_Key : Zero Tryz.prog 194 [.int .u64 0, .slice none 0 0, .slice none 0 0] := fun _ => ⟨.agg #[.int .u64 0, .slice none 0 0, .slice none 0 0], by kernel_rfl, by kernel_rfl⟩
theorem zero_sort_xorshift : Zero Tryz.prog 260 [.int .u64 0] := fun _ => ⟨.int .u64 0, by kernel_rfl, by kernel_rfl⟩
theorem bld_spec_Span_0_1_2 (x0 : ByteArray) (x1 : ByteArray) (x2 : Option Addr) (x2n x2c : Nat) : ∀ w, (Instr.build 40 #[(0, .string x0), (1, .string x1), (2, .slice x2 x2n x2c)]).run Tryz.prog w = .ok (.agg #[.string x0, .string x1, .slice x2 x2n x2c]) w := fun _ => by kernel_rfl
theorem bld_impl_Span_0_1_2 (x0 : ByteArray) (x1 : ByteArray) (x2 : Option Addr) (x2n x2c : Nat) : ∀ w, (Instr.build 64 #[(0, .string x0), (1, .string x1), (2, .slice x2 x2n x2c)]).run Tryz.prog w = .ok (.agg #[.string x0, .string x1, .slice x2 x2n x2c]) w := fun _ => by kernel_rfl
theorem bld_impl_SpanAnswer_  : ∀ w, (Instr.build 66 #[]).run Tryz.prog w = .ok (.agg #[.bool false, .bool false, .string ByteArray.empty, .string ByteArray.empty, .slice none 0 0]) w := fun _ => by kernel_rfl
theorem bld_impl_SpanAnswer_0 (x0 : Bool) : ∀ w, (Instr.build 66 #[(0, .bool x0)]).run Tryz.prog w = .ok (.agg #[.bool x0, .bool false, .string ByteArray.empty, .string ByteArray.empty, .slice none 0 0]) w := fun _ => by kernel_rfl
theorem bld_keyspan_Span_0_1_2 (x0 : Option Addr) (x0n x0c : Nat) (x1 : Option Addr) (x1n x1c : Nat) (x2 : Option Addr) (x2n x2c : Nat) : ∀ w, (Instr.build 89 #[(0, .slice x0 x0n x0c), (1, .slice x1 x1n x1c), (2, .slice x2 x2n x2c)]).run Tryz.prog w = .ok (.agg #[.slice x0 x0n x0c, .slice x1 x1n x1c, .slice x2 x2n x2c, .int .i8 0]) w := fun _ => by kernel_rfl
theorem bld_keyspan_Span_0_1_2_3 (x0 : Option Addr) (x0n x0c : Nat) (x1 : Option Addr) (x1n x1c : Nat) (x2 : Option Addr) (x2n x2c : Nat) (x3 : Int) : ∀ w, (Instr.build 89 #[(0, .slice x0 x0n x0c), (1, .slice x1 x1n x1c), (2, .slice x2 x2n x2c), (3, .int .i8 x3)]).run Tryz.prog w = .ok (.agg #[.slice x0 x0n x0c, .slice x1 x1n x1c, .slice x2 x2n x2c, .int .i8 x3]) w := fun _ => by kernel_rfl
theorem bld_keyspan_boundKey_0 (x0 : Int) : ∀ w, (Instr.build 97 #[(0, .int .i8 x0)]).run Tryz.prog w = .ok (.agg #[.int .i8 x0, .slice none 0 0, .pointer none]) w := fun _ => by kernel_rfl
theorem bld_keyspan_boundKey_0_1_2 (x0 : Int) (x1 : Option Addr) (x1n x1c : Nat) (x2 : Option Addr) : ∀ w, (Instr.build 97 #[(0, .int .i8 x0), (1, .slice x1 x1n x1c), (2, .pointer x2)]).run Tryz.prog w = .ok (.agg #[.int .i8 x0, .slice x1 x1n x1c, .pointer x2]) w := fun _ => by kernel_rfl
theorem bld_keyspan_mergingIterLevel_0 (x0t : TypeId) (x0 : Value) : ∀ w, (Instr.build 99 #[(0, .iface x0t x0)]).run Tryz.prog w = .ok (.agg #[.iface x0t x0, .int .i8 0, .slice none 0 0, .pointer none]) w := fun _ => by kernel_rfl
theorem bld_keyspan_MergingIter_0_3 (x0 : Option Addr) (x3t : TypeId) (x3 : Value) : ∀ w, (Instr.build 107 #[(0, .pointer x0), (3, .iface x3t x3)]).run Tryz.prog w = .ok (.agg #[.pointer x0, .slice none 0 0, .slice none 0 0, .iface x3t x3, .slice none 0 0, .slice none 0 0, .slice none 0 0, .int .i8 0, .nilIface, .int .i8 0, .nilIface, .int .i8 0, .slice none 0 0, .pointer none, .nilIface, .int .i8 0, .slice none 0 0, .pointer none, .nilIface, .int .i8 0, .slice none 0 0, .pointer none, .nilIface, .int .i8 0, .slice none 0 0, .pointer none, .nilIface, .int .i8 0, .slice none 0 0, .pointer none, .nilIface, .int .i8 0, .slice none 0 0, .pointer none, .nilIface, .int .i8 0, .slice none 0 0, .pointer none, .nilIface, .int .i8 0, .slice none 0 0, .pointer none, .nilIface, .int .i8 0, .slice none 0 0, .pointer none, .nilIface, .int .i8 0, .slice none 0 0, .pointer none, .pointer none, .int .i64 0, .pointer none, .int .i64 0, .pointer none, .int .i64 0, .pointer none, .int .i64 0, .pointer none, .int .i64 0, .pointer none, .int .i64 0, .pointer none, .int .i64 0, .pointer none, .int .i64 0, .pointer none, .int .i64 0, .pointer none, .int .i64 0]) w := fun _ => by kernel_rfl
theorem bld_base_Comparer_0_1_2_4_6_7_8 (x0 : FuncId) (x0a x0b : Array Value) (x1 : FuncId) (x1a x1b : Array Value) (x2 : FuncId) (x2a x2b : Array Value) (x4 : FuncId) (x4a x4b : Array Value) (x6 : FuncId) (x6a x6b : Array Value) (x7 : FuncId) (x7a x7b : Array Value) (x8 : ByteArray) : ∀ w, (Instr.build 136 #[(0, .func (.func x0) x0a x0b), (1, .func (.func x1) x1a x1b), (2, .func (.func x2) x2a x2b), (4, .func (.func x4) x4a x4b), (6, .func (.func x6) x6a x6b), (7, .func (.func x7) x7a x7b), (8, .string x8)]).run Tryz.prog w = .ok (.agg #[.func (.func x0) x0a x0b, .func (.func x1) x1a x1b, .func (.func x2) x2a x2b, .nilFunc, .func (.func x4) x4a x4b, .nilFunc, .func (.func x6) x6a x6b, .func (.func x7) x7a x7b, .string x8]) w := fun _ => by kernel_rfl
theorem bld_impl_Step_0 (x0 : Int) : ∀ w, (Instr.build 167 #[(0, .int .u8 x0)]).run Tryz.prog w = .ok (.agg #[.int .u8 x0, .string ByteArray.empty]) w := fun _ => by kernel_rfl
theorem bld_impl_SpanKey_0_1_2 (x0 : Int) (x1 : ByteArray) (x2 : ByteArray) : ∀ w, (Instr.build 168 #[(0, .int .u64 x0), (1, .string x1), (2, .string x2)]).run Tryz.prog w = .ok (.agg #[.int .u64 x0, .string x1, .string x2]) w := fun _ => by kernel_rfl
theorem bld_keyspan_Key_  : ∀ w, (Instr.build 194 #[]).run Tryz.prog w = .ok (.agg #[.int .u64 0, .slice none 0 0, .slice none 0 0]) w := fun _ => by kernel_rfl
theorem bld_keyspan_Key_0_1_2 (x0 : Int) (x1 : Option Addr) (x1n x1c : Nat) (x2 : Option Addr) (x2n x2c : Nat) : ∀ w, (Instr.build 194 #[(0, .int .u64 x0), (1, .slice x1 x1n x1c), (2, .slice x2 x2n x2c)]).run Tryz.prog w = .ok (.agg #[.int .u64 x0, .slice x1 x1n x1c, .slice x2 x2n x2c]) w := fun _ => by kernel_rfl
theorem bld_keyspan_Iter_  : ∀ w, (Instr.build 208 #[]).run Tryz.prog w = .ok (.agg #[.nilFunc, .slice none 0 0, .int .i64 0]) w := fun _ => by kernel_rfl
theorem bld_keyspan_Iter_0_1_2 (x0 : FuncId) (x0a x0b : Array Value) (x1 : Option Addr) (x1n x1c : Nat) (x2 : Int) : ∀ w, (Instr.build 208 #[(0, .func (.func x0) x0a x0b), (1, .slice x1 x1n x1c), (2, .int .i64 x2)]).run Tryz.prog w = .ok (.agg #[.func (.func x0) x0a x0b, .slice x1 x1n x1c, .int .i64 x2]) w := fun _ => by kernel_rfl
theorem bld_keyspan_filteringIter_0_1_2 (x0t : TypeId) (x0 : Value) (x1 : FuncId) (x1a x1b : Array Value) (x2 : FuncId) (x2a x2b : Array Value) : ∀ w, (Instr.build 228 #[(0, .iface x0t x0), (1, .func (.func x1) x1a x1b), (2, .func (.func x2) x2a x2b)]).run Tryz.prog w = .ok (.agg #[.iface x0t x0, .func (.func x1) x1a x1b, .func (.func x2) x2a x2b, .slice none 0 0, .slice none 0 0, .slice none 0 0, .int .i8 0]) w := fun _ => by kernel_rfl
theorem info_uint8 : (Tryz.prog.info? 5).map (fun i => (i.zero, i.size, i.bytes)) = some (some (.int .u8 0), 1, 1) := by kernel_rfl
theorem info_sl_impl_Span : (Tryz.prog.info? 29).map (fun i => (i.zero, i.size, i.bytes)) = some (some (.slice none 0 0), 1, 24) := by kernel_rfl
theorem info_spec_Span : (Tryz.prog.info? 40).map (fun i => (i.zero, i.size, i.bytes)) = some (some (.agg #[.string ByteArray.empty, .string ByteArray.empty, .slice none 0 0]), 3, 56) := by kernel_rfl
theorem info_spec_SpanKey : (Tryz.prog.info? 42).map (fun i => (i.zero, i.size, i.bytes)) = some (some (.agg #[.int .u64 0, .string ByteArray.empty, .string ByteArray.empty]), 3, 40) := by kernel_rfl
theorem info_impl_Span : (Tryz.prog.info? 64).map (fun i => (i.zero, i.size, i.bytes)) = some (some (.agg #[.string ByteArray.empty, .string ByteArray.empty, .slice none 0 0]), 3, 56) := by kernel_rfl
theorem info_impl_SpanAnswer : (Tryz.prog.info? 66).map (fun i => (i.zero, i.size, i.bytes)) = some (some (.agg #[.bool false, .bool false, .string ByteArray.empty, .string ByteArray.empty, .slice none 0 0]), 5, 64) := by kernel_rfl
theorem info_keyspan_Span : (Tryz.prog.info? 89).map (fun i => (i.zero, i.size, i.bytes)) = some (some (.agg #[.slice none 0 0, .slice none 0 0, .slice none 0 0, .int .i8 0]), 4, 80) := by kernel_rfl
theorem info_keyspan_FragmentIterator : (Tryz.prog.info? 93).map (fun i => (i.zero, i.size, i.bytes)) = some (some (.nilIface), 1, 16) := by kernel_rfl
theorem info_impl_Step : (Tryz.prog.info? 167).map (fun i => (i.zero, i.size, i.bytes)) = some (some (.agg #[.int .u8 0, .string ByteArray.empty]), 2, 24) := by kernel_rfl
theorem info_impl_SpanKey : (Tryz.prog.info? 168).map (fun i => (i.zero, i.size, i.bytes)) = some (some (.agg #[.int .u64 0, .string ByteArray.empty, .string ByteArray.empty]), 3, 40) := by kernel_rfl
theorem info_keyspan_Key : (Tryz.prog.info? 194).map (fun i => (i.zero, i.size, i.bytes)) = some (some (.agg #[.int .u64 0, .slice none 0 0, .slice none 0 0]), 3, 56) := by kernel_rfl
theorem ok_laws_zzFits3 : callOk Tryz.prog 11 = true := by kernel_rfl
theorem ok_laws_spanLevels : callOk Tryz.prog 12 = true := by kernel_rfl
theorem ok_laws_toLevels : callOk Tryz.prog 16 = true := by kernel_rfl
theorem ok_laws_spanLike : callOk Tryz.prog 17 = true := by kernel_rfl
theorem ok_impl_SpanMerged : callOk Tryz.prog 22 = true := by kernel_rfl
theorem ok_laws_spanList : callOk Tryz.prog 27 = true := by kernel_rfl
theorem ok_laws_spanForth : callOk Tryz.prog 28 = true := by kernel_rfl
theorem ok_laws_ofSpans : callOk Tryz.prog 31 = true := by kernel_rfl
theorem ok_laws_ofSpan : callOk Tryz.prog 32 = true := by kernel_rfl
theorem ok_impl_SpanTruncated : callOk Tryz.prog 33 = true := by kernel_rfl
theorem ok_laws_toSpans : callOk Tryz.prog 34 = true := by kernel_rfl
theorem ok_laws_zzFits4 : callOk Tryz.prog 38 = true := by kernel_rfl
theorem ok_laws_spanWell : callOk Tryz.prog 39 = true := by kernel_rfl
theorem ok_spec_SpanCanon : callOk Tryz.prog 41 = true := by kernel_rfl
theorem ok_base_DefaultComparer : callOk Tryz.prog 43 = true := by kernel_rfl
theorem ok_impl_fragments : callOk Tryz.prog 44 = true := by kernel_rfl
theorem ok_impl_plainSpan : callOk Tryz.prog 49 = true := by kernel_rfl
theorem ok_spec_SpanDescending : callOk Tryz.prog 51 = true := by kernel_rfl
theorem ok_laws_sameSpans : callOk Tryz.prog 52 = true := by kernel_rfl
theorem ok_laws_spanCanons : callOk Tryz.prog 53 = true := by kernel_rfl
theorem ok_keyspan_MergingIter_Init : callOk Tryz.prog 59 = true := by kernel_rfl
theorem ok_keyspan_VisibleTransform : callOk Tryz.prog 60 = true := by kernel_rfl
theorem ok_impl_walkSpans : callOk Tryz.prog 61 = true := by kernel_rfl
theorem ok_laws_ofKeys : callOk Tryz.prog 62 = true := by kernel_rfl
theorem ok_keyspan_Truncate : callOk Tryz.prog 63 = true := by kernel_rfl
theorem ok_keyspan_NewIter : callOk Tryz.prog 64 = true := by kernel_rfl
theorem ok_impl_spans : callOk Tryz.prog 65 = true := by kernel_rfl
theorem ok_laws_toSpan : callOk Tryz.prog 66 = true := by kernel_rfl
theorem ok_impl_Span_span : callOk Tryz.prog 67 = true := by kernel_rfl
theorem ok_laws_zzFits5 : callOk Tryz.prog 73 = true := by kernel_rfl
theorem ok_laws_spanMost : callOk Tryz.prog 74 = true := by kernel_rfl
theorem ok_spec_SpanWell : callOk Tryz.prog 75 = true := by kernel_rfl
theorem ok_spec_spanKeyLess : callOk Tryz.prog 77 = true := by kernel_rfl
theorem ok_bytes_Compare : callOk Tryz.prog 79 = true := by kernel_rfl
theorem ok_keyspan_MergingIter_First : callOk Tryz.prog 87 = true := by kernel_rfl
theorem ok_keyspan_Span_Empty : callOk Tryz.prog 88 = true := by kernel_rfl
theorem ok_keyspan_MergingIter_Next : callOk Tryz.prog 89 = true := by kernel_rfl
theorem ok_impl_plainKeys : callOk Tryz.prog 91 = true := by kernel_rfl
theorem ok_laws_sameSpan : callOk Tryz.prog 92 = true := by kernel_rfl
theorem ok_keyspan_VisibleTransform_c1 : callOk Tryz.prog 95 = true := by kernel_rfl
theorem ok_base_Visible : callOk Tryz.prog 96 = true := by kernel_rfl
theorem ok_keyspan_Key_SeqNum : callOk Tryz.prog 97 = true := by kernel_rfl
theorem ok_impl_taken : callOk Tryz.prog 98 = true := by kernel_rfl
theorem ok_keyspan_Filter : callOk Tryz.prog 99 = true := by kernel_rfl
theorem ok_keyspan_Truncate_c1 : callOk Tryz.prog 100 = true := by kernel_rfl
theorem ok_keyspan_Iter_Init : callOk Tryz.prog 101 = true := by kernel_rfl
theorem ok_laws_toKeys : callOk Tryz.prog 102 = true := by kernel_rfl
theorem ok_impl_spanKeys : callOk Tryz.prog 103 = true := by kernel_rfl
theorem ok_sort_Sort : callOk Tryz.prog 109 = true := by kernel_rfl
theorem ok_laws_zzFits6 : callOk Tryz.prog 110 = true := by kernel_rfl
theorem ok_spec_SpanFull : callOk Tryz.prog 111 = true := by kernel_rfl
theorem ok_keyspan_MergingIter_invalidate : callOk Tryz.prog 115 = true := by kernel_rfl
theorem ok_keyspan_MergingIter_initMinHeap : callOk Tryz.prog 116 = true := by kernel_rfl
theorem ok_keyspan_MergingIter_findNextFragmentSet : callOk Tryz.prog 117 = true := by kernel_rfl
theorem ok_keyspan_MergingIter_switchToMinHeap : callOk Tryz.prog 118 = true := by kernel_rfl
theorem ok_laws_sameSpanKeys : callOk Tryz.prog 119 = true := by kernel_rfl
theorem ok_impl_maybe : callOk Tryz.prog 121 = true := by kernel_rfl
theorem ok_math_bits_Len : callOk Tryz.prog 122 = true := by kernel_rfl
theorem ok_sort_pdqsort : callOk Tryz.prog 123 = true := by kernel_rfl
theorem ok_laws_zzFits7 : callOk Tryz.prog 124 = true := by kernel_rfl
theorem ok_keyspan_MergingIter_initHeap : callOk Tryz.prog 125 = true := by kernel_rfl
theorem ok_keyspan_mergingIterHeap_len : callOk Tryz.prog 126 = true := by kernel_rfl
theorem ok_keyspan_MergingIter_nextEntry : callOk Tryz.prog 127 = true := by kernel_rfl
theorem ok_keyspan_MergingIter_cmp : callOk Tryz.prog 128 = true := by kernel_rfl
theorem ok_keyspan_MergingIter_heapRoot : callOk Tryz.prog 129 = true := by kernel_rfl
theorem ok_keyspan_MergingIter_synthesizeKeys : callOk Tryz.prog 130 = true := by kernel_rfl
theorem ok_keyspan_MergingIter_clear : callOk Tryz.prog 131 = true := by kernel_rfl
theorem ok_keyspan_mergingIterLevel_next : callOk Tryz.prog 132 = true := by kernel_rfl
theorem ok_math_bits_Len64 : callOk Tryz.prog 134 = true := by kernel_rfl
theorem ok_sort_insertionSort : callOk Tryz.prog 135 = true := by kernel_rfl
theorem ok_sort_heapSort : callOk Tryz.prog 136 = true := by kernel_rfl
theorem ok_sort_breakPatterns : callOk Tryz.prog 137 = true := by kernel_rfl
theorem ok_sort_choosePivot : callOk Tryz.prog 138 = true := by kernel_rfl
theorem ok_sort_reverseRange : callOk Tryz.prog 139 = true := by kernel_rfl
theorem ok_sort_partialInsertionSort : callOk Tryz.prog 140 = true := by kernel_rfl
theorem ok_sort_partitionEqual : callOk Tryz.prog 141 = true := by kernel_rfl
theorem ok_sort_partition : callOk Tryz.prog 142 = true := by kernel_rfl
theorem ok_keyspan_firstError : callOk Tryz.prog 143 = true := by kernel_rfl
theorem ok_keyspan_mergingIterHeap_init : callOk Tryz.prog 144 = true := by kernel_rfl
theorem ok_keyspan_boundKey_valid : callOk Tryz.prog 145 = true := by kernel_rfl
theorem ok_keyspan_mergingIterHeap_pop : callOk Tryz.prog 146 = true := by kernel_rfl
theorem ok_keyspan_mergingIterHeap_fix : callOk Tryz.prog 147 = true := by kernel_rfl
theorem ok_sort_siftDown : callOk Tryz.prog 148 = true := by kernel_rfl
theorem ok_sort_nextPowerOfTwo : callOk Tryz.prog 149 = true := by kernel_rfl
theorem ok_sort_xorshift_Next : callOk Tryz.prog 150 = true := by kernel_rfl
theorem ok_sort_medianAdjacent : callOk Tryz.prog 151 = true := by kernel_rfl
theorem ok_sort_median : callOk Tryz.prog 152 = true := by kernel_rfl
theorem ok_keyspan_mergingIterHeap_down : callOk Tryz.prog 153 = true := by kernel_rfl
theorem ok_keyspan_mergingIterHeap_swap : callOk Tryz.prog 154 = true := by kernel_rfl
theorem ok_keyspan_mergingIterHeap_up : callOk Tryz.prog 155 = true := by kernel_rfl
theorem ok_sort_order2 : callOk Tryz.prog 156 = true := by kernel_rfl
theorem ok_keyspan_mergingIterHeap_less : callOk Tryz.prog 157 = true := by kernel_rfl
theorem ok_keyspan_MergingIter_Error : callOk Tryz.prog 176 = true := by kernel_rfl
theorem ok_keyspan_MergingIter_Last : callOk Tryz.prog 177 = true := by kernel_rfl
theorem ok_keyspan_MergingIter_Prev : callOk Tryz.prog 178 = true := by kernel_rfl
theorem ok_keyspan_MergingIter_SeekGE : callOk Tryz.prog 179 = true := by kernel_rfl
theorem ok_keyspan_MergingIter_SeekLT : callOk Tryz.prog 180 = true := by kernel_rfl
theorem ok_keyspan_MergingIter_initMaxHeap : callOk Tryz.prog 182 = true := by kernel_rfl
theorem ok_keyspan_MergingIter_findPrevFragmentSet : callOk Tryz.prog 183 = true := by kernel_rfl
theorem ok_keyspan_MergingIter_switchToMaxHeap : callOk Tryz.prog 184 = true := by kernel_rfl
theorem ok_keyspan_MergingIter_prevEntry : callOk Tryz.prog 185 = true := by kernel_rfl
theorem ok_keyspan_mergingIterLevel_prev : callOk Tryz.prog 186 = true := by kernel_rfl
theorem ok_keyspan_Iter_Error : callOk Tryz.prog 188 = true := by kernel_rfl
theorem ok_keyspan_Iter_First : callOk Tryz.prog 189 = true := by kernel_rfl
theorem ok_keyspan_Iter_Last : callOk Tryz.prog 190 = true := by kernel_rfl
theorem ok_keyspan_Iter_Next : callOk Tryz.prog 191 = true := by kernel_rfl
theorem ok_keyspan_Iter_Prev : callOk Tryz.prog 192 = true := by kernel_rfl
theorem ok_keyspan_Iter_SeekGE : callOk Tryz.prog 193 = true := by kernel_rfl
theorem ok_keyspan_Iter_SeekLT : callOk Tryz.prog 194 = true := by kernel_rfl
theorem ok_keyspan_TransformerFunc_Transform : callOk Tryz.prog 202 = true := by kernel_rfl
theorem ok_keyspan_filteringIter_Error : callOk Tryz.prog 211 = true := by kernel_rfl
theorem ok_keyspan_filteringIter_First : callOk Tryz.prog 212 = true := by kernel_rfl
theorem ok_keyspan_filteringIter_Last : callOk Tryz.prog 213 = true := by kernel_rfl
theorem ok_keyspan_filteringIter_Next : callOk Tryz.prog 214 = true := by kernel_rfl
theorem ok_keyspan_filteringIter_Prev : callOk Tryz.prog 215 = true := by kernel_rfl
theorem ok_keyspan_filteringIter_SeekGE : callOk Tryz.prog 216 = true := by kernel_rfl
theorem ok_keyspan_filteringIter_SeekLT : callOk Tryz.prog 217 = true := by kernel_rfl
theorem ok_keyspan_filteringIter_filter : callOk Tryz.prog 218 = true := by kernel_rfl
theorem ok_keyspan_keysBySeqNumKind_Len : callOk Tryz.prog 222 = true := by kernel_rfl
theorem ok_keyspan_keysBySeqNumKind_Less : callOk Tryz.prog 223 = true := by kernel_rfl
theorem ok_keyspan_keysBySeqNumKind_Swap : callOk Tryz.prog 224 = true := by kernel_rfl
def mostB (L : List SpanD) (n : Int) : Bool := L.all (fun s => decide (s.ks.length ≤ 40)) && decide ((L.length : Int) ≤ n)
theorem take_all {α : Type} {p : α → Bool} {L : List α} {k : Nat} {x : α} (hx : L[k]? = some x) : (L.take (k + 1)).all p = ((L.take k).all p && p x) := by
  have hlt := (List.getElem?_eq_some_iff.1 hx).1
  rw [List.take_succ_eq_append_getElem hlt]
  have := (List.getElem?_eq_some_iff.1 hx).2
  simp [this]
theorem all_hit {α : Type} {p : α → Bool} {L : List α} {k : Nat} {x : α} (hx : L[k]? = some x) (h : p x = false) : L.all p = false :=
  List.all_eq_false.2 ⟨x, List.mem_of_getElem? hx, by simp [h]⟩
theorem ex_get {α : Type} {L : List α} {k : Nat} (h : k < L.length) : ∃ x, L[k]? = some x := ⟨L[k], List.getElem?_eq_getElem h⟩
abbrev MX : Nat := 2147483647
def fit7 (k : KeyD) : Bool := decide (k.suf.size ≤ MX) && decide (k.val.size ≤ MX)
def fit6 (l : List KeyD) : Bool := decide (l.length ≤ MX) && l.all fit7
def fit5 (s : SpanD) : Bool := decide (s.s.size ≤ MX) && decide (s.e.size ≤ MX) && fit6 s.ks
def fit4 (l : List SpanD) : Bool := decide (l.length ≤ MX) && l.all fit5
theorem ofNat_gt {n : Nat} (h : (2147483647 : Int) < (n : Int)) : decide (n ≤ MX) = false := by simp [MX]; omega
theorem ofNat_le {n : Nat} (h : ¬ (2147483647 : Int) < (n : Int)) : decide (n ≤ MX) = true := by simp [MX]; omega
theorem c_spanMost (χ : Chi) (h : Heap) (A : Nat → Prop) (v : Value) (L : List SpanD) (n : Int) (hL : RSpans A h v L) :
    Cl Tryz.prog χ 74 #[v, .int .i64 n] h (fun r h' => r = .bool (mostB L n) ∧ Keep [] h h') := by
  obtain ⟨hlen, a, c, rfl, hx⟩ := hL.form
  refine cl_intro Tryz.func74 rfl rfl rfl ?_
  have K : Keep [] h h := Keep.refl _ _
  refine rG <| rA rfl rfl <| rN ?_
  refine tr_seq ?_
  refine rG <| rM rfl rfl <| rs_v (v_len u_sl_spec_Span rfl) rfl ?_
  refine rM rfl rfl <| rN <| tr_block ?_
  refine tr_loop (fun m E h' => ∃ k, k ≤ L.length ∧ m = L.length - k ∧ E = [(0, .slice a L.length c), (1, .int .i64 n), (7, .slice a L.length c), (8, .int .i64 (L.length : Int)), (9, .int .i64 (k : Int))] ∧ Keep [] h h' ∧ (L.take k).all (fun s => decide (s.ks.length ≤ 40)) = true) L.length [(0, _), (1, _), (7, _), (8, _), (9, _)] ⟨rfl, rfl, rfl, rfl, rfl, trivial⟩ ⟨0, Nat.zero_le _, rfl, rfl, K, rfl⟩ ?_
  rintro m E hL1 ⟨k, hk, rfl, rfl, K, hall⟩
  refine rG <| rs_v (v_lt rfl rfl) rfl ?_
  refine rN ?_
  refine tr_seq ?_
  refine tr_ifn rfl (fun hif => ?_) (fun hif => ?_)
  · -- no
    simp only [dT, dF] at hif
    have hkk : k = L.length := by omega
    subst hkk
    refine tr_exit <| q_thn_exit ?_
    refine q_lp_exit ?_
    refine q_blk_hit ?_
    refine q_thn ?_
    refine rG <| rM rfl rfl <| rs_v (v_len u_sl_spec_Span rfl) rfl ?_
    refine rM rfl rfl <| rs_v (v_le rfl rfl) rfl ?_
    refine rA rfl rfl <| rN <| tr_ret <| q_ret (res_tmp rfl rfl) ?_
    refine ⟨?_, K⟩
    rw [List.take_length] at hall
    simp only [mostB, hall, Bool.true_and]
  -- yes
  simp only [dT, dF] at hif
  rcases hx with rfl | ⟨b, o, rfl, hAb, hR⟩
  · simp at hif; omega
  obtain ⟨x, hxk⟩ := ex_get (L := L) (k := k) (by omega)
  obtain ⟨kv, hcells, hkeys⟩ := hR k x hxk
  obtain ⟨hkl, ka, kc, rfl, hkx⟩ := hkeys.form
  have hcells := K.cells (by simp) hcells
  refine tr_skip ?_
  refine q_thn ?_
  refine tr_seq ?_
  refine tr_block <| rG <| rs_v (v_indexAddrN u_sl_spec_Span siz_spec_Span rfl rfl (by omega)) rfl ?_
  refine rs_v (v_loadAgg (vs := [_, _, _]) many_spec_Span rfl (by exact hcells)) rfl ?_
  refine rs_w (w_new zero_spec_Span) rfl ?_
  rintro _ h2 ⟨rfl, B2, K2, Z2⟩
  have S2 := K.1; have K := K.new0 K2
  refine rs_w0 (w_put siz_spec_Span rfl rfl rfl rfl B2 rfl) ?_
  rintro _ h3 ⟨B3, K3⟩
  have B2 := B3; have K := K.new1 K3 (by first | (right; omega) | (left; simp; done)); have Z3 := K3.1
  refine rN <| rG <| rF fa_spec_Span_2 rfl rfl <| rs_v (v_load one_sl_spec_SpanKey rfl (by exact B2.cell _ rfl)) rfl ?_
  refine rs_v (v_len u_sl_spec_SpanKey rfl) rfl ?_
  refine rs_v (v_gt rfl rfl) rfl ?_
  refine rN ?_
  refine tr_if rfl (fun hif => ?_) (fun hif => ?_)
  · -- yes
    simp only [dT, dF] at hif
    refine rG <| rA rfl rfl <| rN <| tr_ret <| q_blk_ret <| q_thn_ret ?_
    refine q_lp_ret ?_
    refine q_blk_ret <| q_thn_ret <| q_ret (res_tmp rfl rfl) ?_
    refine ⟨?_, K⟩
    simp only [mostB, all_hit (p := fun s : SpanD => decide (s.ks.length ≤ 40)) hxk (by simp; omega), Bool.false_and]
  -- no
  simp only [dT, dF] at hif
  refine tr_skip <| q_blk_n ?_
  refine q_thn ?_
  refine tr_reg ?_
  refine rs_v (v_add rfl rfl (by omega) (by omega)) rfl ?_
  refine rM rfl rfl ?_
  refine rs_nil ?_
  refine q_lp (L.length - (k + 1)) [(0, _), (1, _), (7, _), (8, _), (9, _)] (by omega) ⟨rfl, rfl, rfl, rfl, rfl, trivial⟩ ⟨k + 1, by omega, rfl, rfl, K, ?_⟩
  rw [take_all hxk, hall]
  simp
  omega
theorem c_zzFits7 (χ : Chi) (h : Heap) (k : KeyD) :
    Cl Tryz.prog χ 124 #[.agg k.cells.toArray] h (fun r h' => r = .bool (fit7 k) ∧ Keep [] h h') := by
  refine cl_intro Tryz.func124 rfl rfl rfl ?_
  have K : Keep [] h h := Keep.refl _ _
  refine rG <| rs_w (w_newbox rfl) rfl ?_
  rintro _ h1 ⟨rfl, B1, K1, Z1⟩
  have S1 := K.1; have K := K.new0 K1
  refine rA rfl rfl <| rN ?_
  refine tr_seq ?_
  refine rG <| rF fa_spec_SpanKey_1 rfl rfl <| rs_v (v_load one_string rfl (by exact B1.cell _ rfl)) rfl ?_
  refine rs_v (v_lenStr u_string rfl) rfl ?_
  refine rs_v (v_gt rfl rfl) rfl ?_
  refine rN ?_
  refine tr_if rfl (fun hif => ?_) (fun hif => ?_)
  · -- yes
    simp only [dT, dF] at hif
    refine rG <| rA rfl rfl <| rN <| tr_ret <| q_thn_ret <| q_ret (res_tmp rfl rfl) ?_
    exact ⟨by simp only [fit7, ofNat_gt hif, Bool.false_and], K⟩
  -- no
  simp only [dT, dF] at hif
  have f1 := hif; clear hif
  refine tr_skip ?_
  refine q_thn ?_
  refine tr_seq ?_
  refine rG <| rF fa_spec_SpanKey_2 rfl rfl <| rs_v (v_load one_string rfl (by exact B1.cell _ rfl)) rfl ?_
  refine rs_v (v_lenStr u_string rfl) rfl ?_
  refine rs_v (v_gt rfl rfl) rfl ?_
  refine rN ?_
  refine tr_if rfl (fun hif => ?_) (fun hif => ?_)
  · -- yes
    simp only [dT, dF] at hif
    refine rG <| rA rfl rfl <| rN <| tr_ret <| q_thn_ret <| q_ret (res_tmp rfl rfl) ?_
    exact ⟨by simp only [fit7, ofNat_gt hif, Bool.and_false], K⟩
  -- no
  simp only [dT, dF] at hif
  refine tr_skip ?_
  refine q_thn ?_
  refine rG <| rA rfl rfl <| rN <| tr_ret <| q_ret (res_tmp rfl rfl) ?_
  exact ⟨by simp only [fit7, ofNat_le f1, ofNat_le hif]; rfl, K⟩
theorem c_zzFits6 (χ : Chi) (h : Heap) (A : Nat → Prop) (v : Value) (L : List KeyD) (hL : RKeys A h v L) :
    Cl Tryz.prog χ 110 #[v] h (fun r h' => r = .bool (fit6 L) ∧ Keep [] h h') := by
  obtain ⟨hlen, a, c, rfl, hx⟩ := hL.form
  refine cl_intro Tryz.func110 rfl rfl rfl ?_
  have K : Keep [] h h := Keep.refl _ _
  refine rG <| rA rfl rfl <| rN ?_
  refine tr_seq ?_
  refine rG <| rM rfl rfl <| rs_v (v_len u_sl_spec_SpanKey rfl) rfl ?_
  refine rs_v (v_gt rfl rfl) rfl ?_
  refine rN ?_
  refine tr_if rfl (fun hif => ?_) (fun hif => ?_)
  · -- yes
    simp only [dT, dF] at hif
    refine rG <| rA rfl rfl <| rN <| tr_ret <| q_thn_ret <| q_ret (res_tmp rfl rfl) ?_
    refine ⟨?_, K⟩
    simp only [fit6, ofNat_gt hif, Bool.false_and]
  -- no
  simp only [dT, dF] at hif
  have hmx := ofNat_le hif
  clear hif
  refine tr_skip ?_
  refine q_thn ?_
  refine tr_seq ?_
  refine rG <| rM rfl rfl <| rs_v (v_len u_sl_spec_SpanKey rfl) rfl ?_
  refine rM rfl rfl <| rN <| tr_block ?_
  refine tr_loop (fun m E h' => ∃ k, k ≤ L.length ∧ m = L.length - k ∧ E = [(0, .slice a L.length c), (8, .slice a L.length c), (9, .int .i64 (L.length : Int)), (10, .int .i64 (k : Int))] ∧ Keep [] h h' ∧ (L.take k).all fit7 = true) L.length [(0, _), (8, _), (9, _), (10, _)] ⟨rfl, rfl, rfl, rfl, trivial⟩ ⟨0, Nat.zero_le _, rfl, rfl, K, rfl⟩ ?_
  rintro m E hL1 ⟨k, hk, rfl, rfl, K, hall⟩
  refine rG <| rs_v (v_lt rfl rfl) rfl ?_
  refine rN ?_
  refine tr_seq ?_
  refine tr_ifn rfl (fun hif => ?_) (fun hif => ?_)
  · -- no
    simp only [dT, dF] at hif
    have hkk : k = L.length := by omega
    subst hkk
    refine tr_exit <| q_thn_exit ?_
    refine q_lp_exit ?_
    refine q_blk_hit ?_
    refine q_thn ?_
    refine rG <| rA rfl rfl <| rN <| tr_ret <| q_ret (res_tmp rfl rfl) ?_
    refine ⟨?_, K⟩
    rw [List.take_length] at hall
    simp only [fit6, hall, hmx, Bool.true_and]
  -- yes
  simp only [dT, dF] at hif
  rcases hx with rfl | ⟨b, o, rfl, hAb, hR⟩
  · simp at hif; omega
  obtain ⟨x, hxk⟩ := ex_get (L := L) (k := k) (by omega)
  have hcells := K.cells (by simp) (hR k x hxk)
  refine tr_skip ?_
  refine q_thn ?_
  refine tr_seq ?_
  refine tr_block <| rG <| rs_v (v_indexAddrN u_sl_spec_SpanKey siz_spec_SpanKey rfl rfl (by omega)) rfl ?_
  refine rs_v (v_loadAgg (vs := [_, _, _]) many_spec_SpanKey rfl (by exact hcells)) rfl ?_
  refine rs_w (w_new zero_spec_SpanKey) rfl ?_
  rintro _ h2 ⟨rfl, B2, K2, Z2⟩
  have S2 := K.1; have K := K.new0 K2
  refine rs_w0 (w_put siz_spec_SpanKey rfl rfl rfl rfl B2 rfl) ?_
  rintro _ h3 ⟨B3, K3⟩
  have B2 := B3; have K := K.new1 K3 (by first | (right; omega) | (left; simp; done)); have Z3 := K3.1
  refine rN <| rG <| rs_v (v_loadAgg (vs := [_, _, _]) many_spec_SpanKey rfl (by exact B2.sub _ 3 rfl)) rfl ?_
  refine rs_w (w_call (vs := [_]) ok_laws_zzFits7 rfl ⟨rfl, trivial⟩ (c_zzFits7 χ _ x)) rfl ?_
  rintro _ h4 ⟨rfl, K4⟩
  have B2 := K4.blk (by simp) B2
  have K := K.new0 K4; have Z4 := K4.1
  refine rs_v (v_not rfl) rfl ?_
  refine rN ?_
  refine tr_if rfl (fun hif => ?_) (fun hif => ?_)
  · -- yes
    simp only [Bool.not_eq_true'] at hif
    refine rG <| rA rfl rfl <| rN <| tr_ret <| q_blk_ret <| q_thn_ret ?_
    refine q_lp_ret ?_
    refine q_blk_ret <| q_thn_ret <| q_ret (res_tmp rfl rfl) ?_
    refine ⟨?_, K⟩
    simp only [fit6, all_hit hxk hif, Bool.and_false]
  -- no
  simp only [Bool.not_eq_false'] at hif
  refine tr_skip <| q_blk_n ?_
  refine q_thn ?_
  refine tr_reg ?_
  refine rs_v (v_add rfl rfl (by omega) (by omega)) rfl ?_
  refine rM rfl rfl ?_
  refine rs_nil ?_
  refine q_lp (L.length - (k + 1)) [(0, _), (8, _), (9, _), (10, _)] (by omega) ⟨rfl, rfl, rfl, rfl, trivial⟩ ⟨k + 1, by omega, rfl, rfl, K, ?_⟩
  rw [take_all hxk, hall, hif]
  rfl
theorem c_zzFits5 (χ : Chi) (h : Heap) (A : Nat → Prop) (kv : Value) (s : SpanD) (hA : ∀ b, A b → b < h.size) (hk : RKeys A h kv s.ks) :
    Cl Tryz.prog χ 73 #[.agg #[.string s.s, .string s.e, kv]] h (fun r h' => r = .bool (fit5 s) ∧ Keep [] h h') := by
  refine cl_intro Tryz.func73 rfl rfl rfl ?_
  have K : Keep [] h h := Keep.refl _ _
  refine rG <| rs_w (w_newbox rfl) rfl ?_
  rintro _ h1 ⟨rfl, B1, K1, Z1⟩
  have S1 := K.1; have K := K.new0 K1
  refine rA rfl rfl <| rN ?_
  refine tr_seq ?_
  refine rG <| rF fa_spec_Span_0 rfl rfl <| rs_v (v_load one_string rfl (by exact B1.cell _ rfl)) rfl ?_
  refine rs_v (v_lenStr u_string rfl) rfl ?_
  refine rs_v (v_gt rfl rfl) rfl ?_
  refine rN ?_
  refine tr_if rfl (fun hif => ?_) (fun hif => ?_)
  · -- yes
    simp only [dT, dF] at hif
    refine rG <| rA rfl rfl <| rN <| tr_ret <| q_thn_ret <| q_ret (res_tmp rfl rfl) ?_
    exact ⟨by simp only [fit5, ofNat_gt hif, Bool.false_and], K⟩
  -- no
  simp only [dT, dF] at hif
  have f1 := ofNat_le hif; clear hif
  refine tr_skip ?_
  refine q_thn ?_
  refine tr_seq ?_
  refine rG <| rF fa_spec_Span_1 rfl rfl <| rs_v (v_load one_string rfl (by exact B1.cell _ rfl)) rfl ?_
  refine rs_v (v_lenStr u_string rfl) rfl ?_
  refine rs_v (v_gt rfl rfl) rfl ?_
  refine rN ?_
  refine tr_if rfl (fun hif => ?_) (fun hif => ?_)
  · -- yes
    simp only [dT, dF] at hif
    refine rG <| rA rfl rfl <| rN <| tr_ret <| q_thn_ret <| q_ret (res_tmp rfl rfl) ?_
    exact ⟨by simp only [fit5, ofNat_gt hif, Bool.and_false, Bool.false_and], K⟩
  -- no
  simp only [dT, dF] at hif
  have f2 := ofNat_le hif; clear hif
  refine tr_skip ?_
  refine q_thn ?_
  refine tr_seq ?_
  refine rG <| rF fa_spec_Span_2 rfl rfl <| rs_v (v_load one_sl_spec_SpanKey rfl (by exact B1.cell _ rfl)) rfl ?_
  refine rs_w (w_call (vs := [_]) ok_laws_zzFits6 rfl ⟨rfl, trivial⟩ (c_zzFits6 χ _ A kv s.ks (hk.stab (K.stab fun b hb => ⟨hA b hb, by simp⟩)))) rfl ?_
  rintro _ h2 ⟨rfl, K2⟩
  have B1 := K2.blk (by simp) B1
  have K := K.new0 K2; have Z2 := K2.1
  refine rs_v (v_not rfl) rfl ?_
  refine rN ?_
  refine tr_if rfl (fun hif => ?_) (fun hif => ?_)
  · -- yes
    simp only [Bool.not_eq_true'] at hif
    refine rG <| rA rfl rfl <| rN <| tr_ret <| q_thn_ret <| q_ret (res_tmp rfl rfl) ?_
    exact ⟨by simp only [fit5, hif, Bool.and_false], K⟩
  -- no
  simp only [Bool.not_eq_false'] at hif
  refine tr_skip ?_
  refine q_thn ?_
  refine rG <| rA rfl rfl <| rN <| tr_ret <| q_ret (res_tmp rfl rfl) ?_
  exact ⟨by simp only [fit5, f1, f2, hif]; rfl, K⟩
theorem c_zzFits4 (χ : Chi) (h : Heap) (A : Nat → Prop) (hA : ∀ b, A b → b < h.size) (v : Value) (L : List SpanD) (hL : RSpans A h v L) :
    Cl Tryz.prog χ 38 #[v] h (fun r h' => r = .bool (fit4 L) ∧ Keep [] h h') := by
  obtain ⟨hlen, a, c, rfl, hx⟩ := hL.form
  refine cl_intro Tryz.func38 rfl rfl rfl ?_
  have K : Keep [] h h := Keep.refl _ _
  refine rG <| rA rfl rfl <| rN ?_
  refine tr_seq ?_
  refine rG <| rM rfl rfl <| rs_v (v_len u_sl_spec_Span rfl) rfl ?_
  refine rs_v (v_gt rfl rfl) rfl ?_
  refine rN ?_
  refine tr_if rfl (fun hif => ?_) (fun hif => ?_)
  · -- yes
    simp only [dT, dF] at hif
    refine rG <| rA rfl rfl <| rN <| tr_ret <| q_thn_ret <| q_ret (res_tmp rfl rfl) ?_
    refine ⟨?_, K⟩
    simp only [fit4, ofNat_gt hif, Bool.false_and]
  -- no
  simp only [dT, dF] at hif
  have hmx := ofNat_le hif
  clear hif
  refine tr_skip ?_
  refine q_thn ?_
  refine tr_seq ?_
  refine rG <| rM rfl rfl <| rs_v (v_len u_sl_spec_Span rfl) rfl ?_
  refine rM rfl rfl <| rN <| tr_block ?_
  refine tr_loop (fun m E h' => ∃ k, k ≤ L.length ∧ m = L.length - k ∧ E = [(0, .slice a L.length c), (8, .slice a L.length c), (9, .int .i64 (L.length : Int)), (10, .int .i64 (k : Int))] ∧ Keep [] h h' ∧ (L.take k).all fit5 = true) L.length [(0, _), (8, _), (9, _), (10, _)] ⟨rfl, rfl, rfl, rfl, trivial⟩ ⟨0, Nat.zero_le _, rfl, rfl, K, rfl⟩ ?_
  rintro m E hL1 ⟨k, hk, rfl, rfl, K, hall⟩
  refine rG <| rs_v (v_lt rfl rfl) rfl ?_
  refine rN ?_
  refine tr_seq ?_
  refine tr_ifn rfl (fun hif => ?_) (fun hif => ?_)
  · -- no
    simp only [dT, dF] at hif
    have hkk : k = L.length := by omega
    subst hkk
    refine tr_exit <| q_thn_exit ?_
    refine q_lp_exit ?_
    refine q_blk_hit ?_
    refine q_thn ?_
    refine rG <| rA rfl rfl <| rN <| tr_ret <| q_ret (res_tmp rfl rfl) ?_
    refine ⟨?_, K⟩
    rw [List.take_length] at hall
    simp only [fit4, hall, hmx, Bool.true_and]
  -- yes
  simp only [dT, dF] at hif
  rcases hx with rfl | ⟨b, o, rfl, hAb, hR⟩
  · simp at hif; omega
  obtain ⟨x, hxk⟩ := ex_get (L := L) (k := k) (by omega)
  obtain ⟨kv, hcells, hkeys⟩ := hR k x hxk
  obtain ⟨ka, kc, hkv⟩ := hkeys.form2
  subst hkv
  have hcells := K.cells (by simp) hcells
  refine tr_skip ?_
  refine q_thn ?_
  refine tr_seq ?_
  refine tr_block <| rG <| rs_v (v_indexAddrN u_sl_spec_Span siz_spec_Span rfl rfl (by omega)) rfl ?_
  refine rs_v (v_loadAgg (vs := [_, _, _]) many_spec_Span rfl (by exact hcells)) rfl ?_
  refine rs_w (w_new zero_spec_Span) rfl ?_
  rintro _ h2 ⟨rfl, B2, K2, Z2⟩
  have S2 := K.1; have K := K.new0 K2
  refine rs_w0 (w_put siz_spec_Span rfl rfl rfl rfl B2 rfl) ?_
  rintro _ h3 ⟨B3, K3⟩
  have B2 := B3; have K := K.new1 K3 (by first | (right; omega) | (left; simp; done)); have Z3 := K3.1
  refine rN <| rG <| rs_v (v_loadAgg (vs := [_, _, _]) many_spec_Span rfl (by exact B2.sub _ 3 rfl)) rfl ?_
  refine rs_w (w_call (vs := [_]) ok_laws_zzFits5 rfl ⟨rfl, trivial⟩ (c_zzFits5 χ _ A _ x (fun b hb => by have := hA b hb; have := K.1; omega) (hkeys.stab (K.stab fun b hb => ⟨hA b hb, by simp⟩)))) rfl ?_
  rintro _ h4 ⟨rfl, K4⟩
  have B2 := K4.blk (by simp) B2
  have K := K.new0 K4; have Z4 := K4.1
  refine rs_v (v_not rfl) rfl ?_
  refine rN ?_
  refine tr_if rfl (fun hif => ?_) (fun hif => ?_)
  · -- yes
    simp only [Bool.not_eq_true'] at hif
    refine rG <| rA rfl rfl <| rN <| tr_ret <| q_blk_ret <| q_thn_ret ?_
    refine q_lp_ret ?_
    refine q_blk_ret <| q_thn_ret <| q_ret (res_tmp rfl rfl) ?_
    refine ⟨?_, K⟩
    simp only [fit4, all_hit hxk hif, Bool.and_false]
  -- no
  simp only [Bool.not_eq_false'] at hif
  refine tr_skip <| q_blk_n ?_
  refine q_thn ?_
  refine tr_reg ?_
  refine rs_v (v_add rfl rfl (by omega) (by omega)) rfl ?_
  refine rM rfl rfl ?_
  refine rs_nil ?_
  refine q_lp (L.length - (k + 1)) [(0, _), (8, _), (9, _), (10, _)] (by omega) ⟨rfl, rfl, rfl, rfl, trivial⟩ ⟨k + 1, by omega, rfl, rfl, K, ?_⟩
  rw [take_all hxk, hall, hif]
  rfl
def chainB {α : Type} (r : α → α → Bool) : List α → Bool
  | a :: b :: l => r a b && chainB r (b :: l)
  | _ => true
theorem chainB_iff {α : Type} (r : α → α → Bool) : ∀ l : List α, chainB r l = true ↔ ∀ (i : Nat) a b, l[i]? = some a → l[i + 1]? = some b → r a b = true
  | [] => by simp [chainB]
  | [a] => by simp [chainB]
  | a :: b :: l => by
    simp only [chainB, Bool.and_eq_true, chainB_iff r (b :: l)]
    constructor
    · rintro ⟨h1, h2⟩ i x y hx hy
      cases i with
      | zero => simp at hx hy; subst hx; subst hy; exact h1
      | succ i => exact h2 i x y (by simpa using hx) (by simpa using hy)
    · intro h
      exact ⟨h 0 a b rfl rfl, fun i x y hx hy => h (i + 1) x y (by simpa using hx) (by simpa using hy)⟩
theorem chainB_hit {α : Type} {r : α → α → Bool} {l : List α} {i : Nat} {a b : α} (ha : l[i]? = some a) (hb : l[i + 1]? = some b) (h : r a b = false) : chainB r l = false := by
  cases hc : chainB r l with
  | false => rfl
  | true => rw [(chainB_iff r l).1 hc i a b ha hb] at h; cases h
def descB (ks : List KeyD) : Bool := chainB (fun a b : KeyD => decide (b.tr ≤ a.tr)) ks
def fullB (s : SpanD) : Bool := slt s.s s.e && (decide ((0 : Int) < (s.ks.length : Int)) && descB s.ks)
def wellB (L : List SpanD) : Bool := L.all fullB && chainB (fun a b : SpanD => sle a.e b.s) L
theorem c_SpanDescending (χ : Chi) (h : Heap) (A : Nat → Prop) (v : Value) (ks : List KeyD) (hk : RKeys A h v ks) :
    Cl Tryz.prog χ 51 #[v] h (fun r h' => r = .bool (descB ks) ∧ h' = h) := by
  obtain ⟨hlen, a, c, rfl, hx⟩ := hk.form
  refine cl_intro Tryz.func51 rfl rfl rfl ?_
  have K : Keep [] h h := Keep.refl _ _
  refine rG <| rA rfl rfl <| rN ?_
  refine tr_seq ?_
  refine rG <| rA rfl rfl <| rN <| tr_block ?_
  refine tr_loop (fun m E h' => ∃ k, m = ks.length - k ∧ E = [(0, .slice a ks.length c), (3, .int .i64 ((k + 1 : Nat) : Int))] ∧ h' = h ∧ (k = 0 ∨ k + 1 ≤ ks.length) ∧ ∀ (i : Nat) x y, i < k → ks[i]? = some x → ks[i + 1]? = some y → decide (y.tr ≤ x.tr) = true) ks.length [(0, _), (3, _)] ⟨rfl, rfl, trivial⟩ ⟨0, rfl, rfl, rfl, .inl rfl, fun i _ _ hi => by omega⟩ ?_
  rintro m E hL1 ⟨k, rfl, rfl, rfl, hk1, hall⟩
  refine tr_seq ?_
  refine rG <| rM rfl rfl <| rM rfl rfl <| rs_v (v_len u_sl_spec_SpanKey rfl) rfl ?_
  refine rs_v (v_lt rfl rfl) rfl ?_
  refine rN ?_
  refine tr_ifn rfl (fun hif => ?_) (fun hif => ?_)
  · -- no
    simp only [dT, dF] at hif
    refine tr_exit <| q_thn_exit ?_
    refine q_lp_exit ?_
    refine q_blk_hit ?_
    refine q_thn ?_
    refine rG <| rA rfl rfl <| rN <| tr_ret <| q_ret (res_tmp rfl rfl) ?_
    refine ⟨?_, rfl⟩
    have : descB ks = true := (chainB_iff _ ks).2 fun i x y hx hy => by
      have hlt := (List.getElem?_eq_some_iff.1 hy).1
      exact hall i x y (by omega) hx hy
    rw [this]
  -- yes
  simp only [dT, dF] at hif
  rcases hx with rfl | ⟨b, o, rfl, hAb, hR⟩
  · simp at hif; omega
  obtain ⟨x, hxk⟩ := ex_get (L := ks) (k := k) (by omega)
  obtain ⟨y, hyk⟩ := ex_get (L := ks) (k := k + 1) (by omega)
  refine tr_skip ?_
  refine q_thn ?_
  refine tr_seq ?_
  refine tr_block ?_
  refine tr_seq ?_
  refine tr_quiet (by kernel_rfl) (by kernel_rfl) ?_
  refine rq_v (v_move rfl) <| rq_v (v_move rfl) <| rq_v (v_sub rfl rfl (by omega) (by omega)) ?_
  refine rq_v (v_indexAddrE (i := k) u_sl_spec_SpanKey siz_spec_SpanKey rfl rfl (by omega) (by omega)) ?_
  refine rq_v (v_fieldAddr fa_spec_SpanKey_0 rfl) <| rq_v (v_load one_uint64 rfl (by exact (hR k x hxk).at 0 rfl)) ?_
  refine rq_v (v_move rfl) <| rq_v (v_move rfl) <| rq_v (v_indexAddrN u_sl_spec_SpanKey siz_spec_SpanKey rfl rfl (by omega)) ?_
  refine rq_v (v_fieldAddr fa_spec_SpanKey_0 rfl) <| rq_v (v_load one_uint64 rfl (by exact (hR (k + 1) y hyk).at 0 rfl)) ?_
  refine rq_v (v_lt rfl rfl) ?_
  refine rm_end ?_; simp only [endM, hypF, ofE, argE]
  refine q_thn ?_
  refine tr_if rfl (fun hif => ?_) (fun hif => ?_)
  · -- yes
    simp only [dT, dF] at hif
    refine rG <| rA rfl rfl <| rN <| tr_ret <| q_blk_ret <| q_thn_ret ?_
    refine q_lp_ret ?_
    refine q_blk_ret <| q_thn_ret <| q_ret (res_tmp rfl rfl) ?_
    exact ⟨by rw [show descB ks = false from chainB_hit hxk hyk (by simpa using hif)], rfl⟩
  -- no
  simp only [dT, dF] at hif
  have hno := hif
  refine tr_skip <| q_blk_n ?_
  refine q_thn ?_
  refine tr_reg ?_
  refine rM rfl rfl <| rs_v (v_add rfl rfl (by omega) (by omega)) rfl ?_
  refine rA rfl rfl ?_
  refine rs_nil ?_
  refine q_lp (ks.length - (k + 1)) [(0, _), (3, _)] (by omega) ⟨rfl, rfl, trivial⟩ ⟨k + 1, rfl, rfl, rfl, .inr (by omega), fun i x' y' hi hx' hy' => ?_⟩
  rcases Nat.lt_or_ge i k with hlt | hge
  · exact hall i x' y' hlt hx' hy'
  · have : i = k := by omega
    subst this
    rw [hxk] at hx'; rw [hyk] at hy'; cases hx'; cases hy'
    simpa using hno
theorem c_SpanFull_a (χ : Chi) (h : Heap) (A : Nat → Prop) (kv : Value) (s : SpanD) (hA : ∀ b, A b → b < h.size) (hk : RKeys A h kv s.ks) (hs : slt s.s s.e = false) :
    Cl Tryz.prog χ 111 #[.agg #[.string s.s, .string s.e, kv]] h (fun r h' => r = .bool (fullB s) ∧ Keep [] h h') := by
  obtain ⟨ka, kc, rfl⟩ := hk.form2
  refine cl_intro Tryz.func111 rfl rfl rfl ?_
  have K : Keep [] h h := Keep.refl _ _
  refine rG <| rs_w (w_newbox rfl) rfl ?_
  rintro _ h1 ⟨rfl, B1, K1, Z1⟩
  have S1 := K.1; have K := K.new0 K1
  refine rA rfl rfl <| rN <| rG <| rF fa_spec_Span_0 rfl rfl <| rs_v (v_load one_string rfl (by exact B1.cell _ rfl)) rfl ?_
  refine rF fa_spec_Span_1 rfl rfl <| rs_v (v_load one_string rfl (by exact B1.cell _ rfl)) rfl ?_
  refine rs_v (v_slt rfl rfl) rfl ?_
  refine rM rfl rfl ?_
  refine rs_gs rfl (lkb hs) rfl rfl ?_
  refine rs_gs rfl (lkb hs) rfl rfl ?_
  refine rs_gs rfl (lkb hs) rfl rfl ?_
  refine rs_gs rfl (lkb hs) rfl rfl ?_
  refine rs_v (v_pick_f (lkb hs) rfl) rfl ?_
  refine rM rfl rfl <| rs_gs rfl rfl rfl rfl <| rs_gs rfl rfl rfl rfl <| rs_gs rfl rfl rfl rfl <| rs_v (v_pick_f rfl rfl) rfl ?_
  refine rA rfl rfl <| rN <| tr_ret <| q_ret (res_tmp rfl rfl) ?_
  exact ⟨by simp only [fullB, hs, Bool.false_and], K⟩
theorem c_SpanFull_b (χ : Chi) (h : Heap) (A : Nat → Prop) (kv : Value) (s : SpanD) (hA : ∀ b, A b → b < h.size) (hk : RKeys A h kv s.ks) (hs : slt s.s s.e = true) (hz : decide ((0 : Int) < (s.ks.length : Int)) = false) :
    Cl Tryz.prog χ 111 #[.agg #[.string s.s, .string s.e, kv]] h (fun r h' => r = .bool (fullB s) ∧ Keep [] h h') := by
  obtain ⟨ka, kc, rfl⟩ := hk.form2
  refine cl_intro Tryz.func111 rfl rfl rfl ?_
  have K : Keep [] h h := Keep.refl _ _
  refine rG <| rs_w (w_newbox rfl) rfl ?_
  rintro _ h1 ⟨rfl, B1, K1, Z1⟩
  have S1 := K.1; have K := K.new0 K1
  refine rA rfl rfl <| rN <| rG <| rF fa_spec_Span_0 rfl rfl <| rs_v (v_load one_string rfl (by exact B1.cell _ rfl)) rfl ?_
  refine rF fa_spec_Span_1 rfl rfl <| rs_v (v_load one_string rfl (by exact B1.cell _ rfl)) rfl ?_
  refine rs_v (v_slt rfl rfl) rfl ?_
  refine rM rfl rfl <| rs_gv rfl (lkb hs) (v_fieldAddr fa_spec_Span_2 rfl) rfl ?_
  refine rs_gv rfl (lkb hs) (v_load one_sl_spec_SpanKey rfl (by exact B1.cell _ rfl)) rfl ?_
  refine rs_gv rfl (lkb hs) (v_len u_sl_spec_SpanKey rfl) rfl ?_
  refine rs_gv rfl (lkb hs) (v_gt rfl rfl) rfl ?_
  refine rs_v (v_pick_t (lkb hs) rfl) rfl ?_
  refine rM rfl rfl ?_
  refine rs_gs rfl (lkb hz) rfl rfl ?_
  refine rs_gs rfl (lkb hz) rfl rfl ?_
  refine rs_gs rfl (lkb hz) rfl rfl ?_
  refine rs_v (v_pick_f (lkb hz) rfl) rfl ?_
  refine rA rfl rfl <| rN <| tr_ret <| q_ret (res_tmp rfl rfl) ?_
  exact ⟨by simp only [fullB, hs, hz, Bool.false_and, Bool.and_false], K⟩
theorem c_SpanFull_c (χ : Chi) (h : Heap) (A : Nat → Prop) (kv : Value) (s : SpanD) (hA : ∀ b, A b → b < h.size) (hk : RKeys A h kv s.ks) (hs : slt s.s s.e = true) (hz : decide ((0 : Int) < (s.ks.length : Int)) = true) :
    Cl Tryz.prog χ 111 #[.agg #[.string s.s, .string s.e, kv]] h (fun r h' => r = .bool (fullB s) ∧ Keep [] h h') := by
  obtain ⟨ka, kc, rfl⟩ := hk.form2
  refine cl_intro Tryz.func111 rfl rfl rfl ?_
  have K : Keep [] h h := Keep.refl _ _
  refine rG <| rs_w (w_newbox rfl) rfl ?_
  rintro _ h1 ⟨rfl, B1, K1, Z1⟩
  have S1 := K.1; have K := K.new0 K1
  refine rA rfl rfl <| rN <| rG <| rF fa_spec_Span_0 rfl rfl <| rs_v (v_load one_string rfl (by exact B1.cell _ rfl)) rfl ?_
  refine rF fa_spec_Span_1 rfl rfl <| rs_v (v_load one_string rfl (by exact B1.cell _ rfl)) rfl ?_
  refine rs_v (v_slt rfl rfl) rfl ?_
  refine rM rfl rfl <| rs_gv rfl (lkb hs) (v_fieldAddr fa_spec_Span_2 rfl) rfl ?_
  refine rs_gv rfl (lkb hs) (v_load one_sl_spec_SpanKey rfl (by exact B1.cell _ rfl)) rfl ?_
  refine rs_gv rfl (lkb hs) (v_len u_sl_spec_SpanKey rfl) rfl ?_
  refine rs_gv rfl (lkb hs) (v_gt rfl rfl) rfl ?_
  refine rs_v (v_pick_t (lkb hs) rfl) rfl ?_
  refine rM rfl rfl <| rs_gv rfl (lkb hz) (v_fieldAddr fa_spec_Span_2 rfl) rfl ?_
  refine rs_gv rfl (lkb hz) (v_load one_sl_spec_SpanKey rfl (by exact B1.cell _ rfl)) rfl ?_
  refine rs_gw rfl (lkb hz) (w_call (vs := [_]) ok_spec_SpanDescending rfl ⟨rfl, trivial⟩ (c_SpanDescending χ _ A _ s.ks (hk.stab (K.stab fun b hb => ⟨hA b hb, by simp⟩)))) rfl ?_
  rintro _ h2 ⟨rfl, hsame⟩; have hsame := hsame.symm; subst hsame
  refine rs_v (v_pick_t (lkb hz) rfl) rfl ?_
  refine rA rfl rfl <| rN <| tr_ret <| q_ret (res_tmp rfl rfl) ?_
  exact ⟨by simp only [fullB, hs, hz, Bool.true_and], K⟩
theorem c_SpanFull (χ : Chi) (h : Heap) (A : Nat → Prop) (kv : Value) (s : SpanD) (hA : ∀ b, A b → b < h.size) (hk : RKeys A h kv s.ks) :
    Cl Tryz.prog χ 111 #[.agg #[.string s.s, .string s.e, kv]] h (fun r h' => r = .bool (fullB s) ∧ Keep [] h h') := by
  rcases Bool.eq_false_or_eq_true (slt s.s s.e) with hs | hs
  · rcases Bool.eq_false_or_eq_true (decide ((0 : Int) < (s.ks.length : Int))) with hz | hz
    · exact c_SpanFull_c χ h A kv s hA hk hs hz
    · exact c_SpanFull_b χ h A kv s hA hk hs hz
  · exact c_SpanFull_a χ h A kv s hA hk hs
theorem c_SpanWell (χ : Chi) (h : Heap) (A : Nat → Prop) (hA : ∀ b, A b → b < h.size) (v : Value) (L : List SpanD) (hL : RSpans A h v L) :
    Cl Tryz.prog χ 75 #[v] h (fun r h' => r = .bool (wellB L) ∧ Keep [] h h') := by
  obtain ⟨hlen, a, c, rfl, hx⟩ := hL.form
  refine cl_intro Tryz.func75 rfl rfl rfl ?_
  have K : Keep [] h h := Keep.refl _ _
  refine rG <| rA rfl rfl <| rN ?_
  refine tr_seq ?_
  refine rG <| rM rfl rfl <| rs_v (v_len u_sl_spec_Span rfl) rfl ?_
  refine rM rfl rfl <| rN <| tr_block ?_
  refine tr_loop (fun m E h' => ∃ k, k ≤ L.length ∧ m = L.length - k ∧ E = [(0, .slice a L.length c), (5, .slice a L.length c), (6, .int .i64 (L.length : Int)), (7, .int .i64 (k : Int))] ∧ Keep [] h h' ∧ (L.take k).all fullB = true ∧ ∀ (i : Nat) x y, i + 1 < k → L[i]? = some x → L[i + 1]? = some y → sle x.e y.s = true) L.length [(0, _), (5, _), (6, _), (7, _)] ⟨rfl, rfl, rfl, rfl, trivial⟩ ⟨0, Nat.zero_le _, rfl, rfl, K, rfl, fun i _ _ hi => by omega⟩ ?_
  rintro m E hL1 ⟨k, hk, rfl, rfl, K, hall, hch⟩
  refine rG <| rs_v (v_lt rfl rfl) rfl ?_
  refine rN ?_
  refine tr_seq ?_
  refine tr_ifn rfl (fun hif => ?_) (fun hif => ?_)
  · -- no
    simp only [dT, dF] at hif
    have hkk : k = L.length := by omega
    subst hkk
    refine tr_exit <| q_thn_exit ?_
    refine q_lp_exit ?_
    refine q_blk_hit ?_
    refine q_thn ?_
    refine rG <| rA rfl rfl <| rN <| tr_ret <| q_ret (res_tmp rfl rfl) ?_
    refine ⟨?_, K⟩
    rw [List.take_length] at hall
    have : chainB (fun a b : SpanD => sle a.e b.s) L = true := (chainB_iff _ L).2 fun i x y hx hy => hch i x y (by have := (List.getElem?_eq_some_iff.1 hy).1; omega) hx hy
    simp only [wellB, hall, this]; rfl
  -- yes
  simp only [dT, dF] at hif
  rcases hx with rfl | ⟨b, o, rfl, hAb, hR⟩
  · simp at hif; omega
  obtain ⟨x, hxk⟩ := ex_get (L := L) (k := k) (by omega)
  obtain ⟨kv, hcells, hkeys⟩ := hR k x hxk
  obtain ⟨ka, kc, hkv⟩ := hkeys.form2
  subst hkv
  have hcells := K.cells (by simp) hcells
  refine tr_skip ?_
  refine q_thn ?_
  refine tr_seq ?_
  refine tr_block <| rG <| rM rfl rfl <| rs_v (v_indexAddrN u_sl_spec_Span siz_spec_Span rfl rfl (by omega)) rfl ?_
  refine rs_v (v_loadAgg (vs := [_, _, _]) many_spec_Span rfl (by exact hcells)) rfl ?_
  refine rs_w (w_new zero_spec_Span) rfl ?_
  rintro _ h2 ⟨rfl, B2, K2, Z2⟩
  have S2 := K.1; have K := K.new0 K2
  refine rA rfl rfl <| rs_w0 (w_put siz_spec_Span rfl rfl rfl rfl B2 rfl) ?_
  rintro _ h3 ⟨B3, K3⟩
  have B2 := B3; have K := K.new1 K3 (by first | (right; omega) | (left; simp; done)); have Z3 := K3.1
  refine rN ?_
  refine tr_cut (fun E h' => ∃ bad, E = [(0, .slice (some ⟨b, o, none⟩) L.length c), (5, .slice (some ⟨b, o, none⟩) L.length c), (6, .int .i64 (L.length : Int)), (7, .int .i64 (k : Int)), (29, .bool bad)] ∧ Keep [] h h' ∧ (bad = false ↔ fullB x = true ∧ ∀ j y, k = j + 1 → L[j]? = some y → sle y.e x.s = true)) ?_ ?_
  ·
    have hcall : ∀ h', Keep [] h3 h' → Cl Tryz.prog χ 111 #[.agg #[.string x.s, .string x.e, .slice ka x.ks.length kc]] h' (fun r h'' => r = .bool (fullB x) ∧ Keep [] h' h'') := fun h' hk => c_SpanFull χ h' A _ x (fun b hb => by have := hA b hb; have := K.1; have := hk.1; omega) (hkeys.stab ((K.new0 hk).stab fun b hb => ⟨hA b hb, by simp⟩))
    rcases Bool.eq_false_or_eq_true (fullB x) with hf | hf
    rcases Nat.eq_zero_or_pos k with hk0 | hk0
    · -- the first one
      have hz : decide ((0 : Int) < (k : Int)) = false := by simp; omega
      have hf2 : (!fullB x) = false := by rw [hf]; rfl
      refine tr_any (Keep []) (keep_pre _) (by kernel_rfl) (by kernel_rfl) ?_
      refine rm_v (keep_pre _) (fun h' hk => v_loadAgg (vs := [_, _, _]) many_spec_Span rfl (by exact (hk.blk (by simp) B2).sub _ 3 rfl)) ?_
      refine rm_c (fun h' hk => w_call (vs := [_]) ok_spec_SpanFull rfl ⟨rfl, trivial⟩ (hcall h' hk)) ?_
      refine rm_v (keep_pre _) (fun h' hk => v_not rfl) ?_
      refine rm_v (keep_pre _) (fun h' hk => v_move rfl) ?_
      refine rm_gv (keep_pre _) rfl (lkm hf2) (fun h' hk => v_move rfl) ?_
      refine rm_gv (keep_pre _) rfl (lkm hf2) (fun h' hk => v_gt rfl rfl) ?_
      refine rm_gv (keep_pre _) rfl (lkm hf2) (fun h' hk => v_move rfl) ?_
      refine rm_gs (keep_pre _) rfl (lkm hz) rfl ?_
      refine rm_gs (keep_pre _) rfl (lkm hz) rfl ?_
      refine rm_gs (keep_pre _) rfl (lkm hz) rfl ?_
      refine rm_gs (keep_pre _) rfl (lkm hz) rfl ?_
      refine rm_gs (keep_pre _) rfl (lkm hz) rfl ?_
      refine rm_gs (keep_pre _) rfl (lkm hz) rfl ?_
      refine rm_gs (keep_pre _) rfl (lkm hz) rfl ?_
      refine rm_gs (keep_pre _) rfl (lkm hz) rfl ?_
      refine rm_gs (keep_pre _) rfl (lkm hz) rfl ?_
      refine rm_gv (keep_pre _) rfl (lkm hf2) (fun h' hk => v_pick_f (lkb hz) rfl) ?_
      refine rm_v (keep_pre _) (fun h' hk => v_pick_f (lkb hf2) rfl) ?_
      refine rm_end ?_; intro h4 K4; simp only [endM, hypF, ofE, argE, List.nil_append]
      have B2 := K4.blk (by simp) B2
      have K := K.new0 K4; have Z4 := K4.1
      refine q_cut [(0, _), (5, _), (6, _), (7, _), (29, _)] ⟨rfl, rfl, rfl, rfl, rfl, trivial⟩ ⟨_, rfl, K, ⟨fun _ => ⟨hf, fun j y hj => by omega⟩, fun _ => rfl⟩⟩
    · -- a later one
      obtain ⟨j, rfl⟩ : ∃ j, k = j + 1 := ⟨k - 1, by omega⟩
      obtain ⟨y, hyj⟩ := ex_get (L := L) (k := j) (by omega)
      obtain ⟨kv2, hcells2, hkeys2⟩ := hR j y hyj
      have hcells2 := K.cells (by simp) hcells2
      have hz : decide ((0 : Int) < ((j + 1 : Nat) : Int)) = true := by simp
      have hf2 : (!fullB x) = false := by rw [hf]; rfl
      refine tr_any (Keep []) (keep_pre _) (by kernel_rfl) (by kernel_rfl) ?_
      refine rm_v (keep_pre _) (fun h' hk => v_loadAgg (vs := [_, _, _]) many_spec_Span rfl (by exact (hk.blk (by simp) B2).sub _ 3 rfl)) ?_
      refine rm_c (fun h' hk => w_call (vs := [_]) ok_spec_SpanFull rfl ⟨rfl, trivial⟩ (hcall h' hk)) ?_
      refine rm_v (keep_pre _) (fun h' hk => v_not rfl) ?_
      refine rm_v (keep_pre _) (fun h' hk => v_move rfl) ?_
      refine rm_gv (keep_pre _) rfl (lkm hf2) (fun h' hk => v_move rfl) ?_
      refine rm_gv (keep_pre _) rfl (lkm hf2) (fun h' hk => v_gt rfl rfl) ?_
      refine rm_gv (keep_pre _) rfl (lkm hf2) (fun h' hk => v_move rfl) ?_
      refine rm_gv (keep_pre _) rfl (lkm hz) (fun h' hk => v_move rfl) ?_
      refine rm_gv (keep_pre _) rfl (lkm hz) (fun h' hk => v_move rfl) ?_
      refine rm_gv (keep_pre _) rfl (lkm hz) (fun h' hk => v_sub rfl rfl (by omega) (by omega)) ?_
      refine rm_gv (keep_pre _) rfl (lkm hz) (fun h' hk => v_indexAddrE (i := j) u_sl_spec_Span siz_spec_Span rfl rfl (by omega) (by omega)) ?_
      refine rm_gv (keep_pre _) rfl (lkm hz) (fun h' hk => v_fieldAddr fa_spec_Span_1 rfl) ?_
      refine rm_gv (keep_pre _) rfl (lkm hz) (fun h' hk => v_load one_string rfl (by exact hk.cell (by simp) (hcells2.at 1 rfl))) ?_
      refine rm_gv (keep_pre _) rfl (lkm hz) (fun h' hk => v_fieldAddr fa_spec_Span_0 rfl) ?_
      refine rm_gv (keep_pre _) rfl (lkm hz) (fun h' hk => v_load one_string rfl (by exact (hk.blk (by simp) B2).cell _ rfl)) ?_
      refine rm_gv (keep_pre _) rfl (lkm hz) (fun h' hk => v_sgt rfl rfl) ?_
      refine rm_gv (keep_pre _) rfl (lkm hf2) (fun h' hk => v_pick_t (lkb hz) rfl) ?_
      refine rm_v (keep_pre _) (fun h' hk => v_pick_f (lkb hf2) rfl) ?_
      refine rm_end ?_; intro h5 K5; simp only [endM, hypF, ofE, argE, List.nil_append]
      have B2 := K5.blk (by simp) B2
      have K := K.new0 K5; have Z5 := K5.1
      refine q_cut [(0, _), (5, _), (6, _), (7, _), (29, _)] ⟨rfl, rfl, rfl, rfl, rfl, trivial⟩ ⟨_, rfl, K, ⟨fun hb => ⟨hf, fun i z hi hz2 => ?_⟩, fun hb => ?_⟩⟩
      · have : i = j := by omega
        subst this
        rw [hyj] at hz2; cases hz2
        simpa using hb
      · have := hb.2 j y rfl hyj
        simpa using this
    · -- not full
      have hf2 : (!fullB x) = true := by rw [hf]; rfl
      refine tr_any (Keep []) (keep_pre _) (by kernel_rfl) (by kernel_rfl) ?_
      refine rm_v (keep_pre _) (fun h' hk => v_loadAgg (vs := [_, _, _]) many_spec_Span rfl (by exact (hk.blk (by simp) B2).sub _ 3 rfl)) ?_
      refine rm_c (fun h' hk => w_call (vs := [_]) ok_spec_SpanFull rfl ⟨rfl, trivial⟩ (hcall h' hk)) ?_
      refine rm_v (keep_pre _) (fun h' hk => v_not rfl) ?_
      refine rm_v (keep_pre _) (fun h' hk => v_move rfl) ?_
      refine rm_gs (keep_pre _) rfl (lkm hf2) rfl ?_
      refine rm_gs (keep_pre _) rfl (lkm hf2) rfl ?_
      refine rm_gs (keep_pre _) rfl (lkm hf2) rfl ?_
      refine rm_gu (keep_pre _) rfl rfl ?_
      refine rm_gu (keep_pre _) rfl rfl ?_
      refine rm_gu (keep_pre _) rfl rfl ?_
      refine rm_gu (keep_pre _) rfl rfl ?_
      refine rm_gu (keep_pre _) rfl rfl ?_
      refine rm_gu (keep_pre _) rfl rfl ?_
      refine rm_gu (keep_pre _) rfl rfl ?_
      refine rm_gu (keep_pre _) rfl rfl ?_
      refine rm_gu (keep_pre _) rfl rfl ?_
      refine rm_gs (keep_pre _) rfl (lkm hf2) rfl ?_
      refine rm_v (keep_pre _) (fun h' hk => v_pick_t (lkb hf2) rfl) ?_
      refine rm_end ?_; intro h6 K6; simp only [endM, hypF, ofE, argE, List.nil_append]
      have B2 := K6.blk (by simp) B2
      have K := K.new0 K6; have Z6 := K6.1
      refine q_cut [(0, _), (5, _), (6, _), (7, _), (29, _)] ⟨rfl, rfl, rfl, rfl, rfl, trivial⟩ ⟨true, rfl, K, ⟨fun e => (by cases e), fun e => (by rw [hf] at e; cases e.1)⟩⟩
  rintro E h4 ⟨bad, rfl, K, hbad⟩
  refine tr_if rfl (fun hif => ?_) (fun hif => ?_)
  · -- yes
    subst hif
    refine rG <| rA rfl rfl <| rN <| tr_ret <| q_blk_ret <| q_thn_ret ?_
    refine q_lp_ret ?_
    refine q_blk_ret <| q_thn_ret <| q_ret (res_tmp rfl rfl) ?_
    refine ⟨?_, K⟩
    have : wellB L = false := by
      cases hw : wellB L with
      | false => rfl
      | true =>
        simp only [wellB, Bool.and_eq_true] at hw
        have h1 : fullB x = true := List.all_eq_true.1 hw.1 x (List.mem_of_getElem? hxk)
        have := hbad.2 ⟨h1, fun j y hj hy => (chainB_iff _ L).1 hw.2 j y x hy (by rw [← hj]; exact hxk)⟩
        cases this
    rw [this]
  -- no
  subst hif
  refine tr_skip <| q_blk_n ?_
  refine q_thn ?_
  refine tr_reg ?_
  refine rs_v (v_add rfl rfl (by omega) (by omega)) rfl ?_
  refine rM rfl rfl ?_
  refine rs_nil ?_
  have hb2 := hbad.1 rfl
  refine q_lp (L.length - (k + 1)) [(0, _), (5, _), (6, _), (7, _)] (by omega) ⟨rfl, rfl, rfl, rfl, trivial⟩ ⟨k + 1, by omega, rfl, rfl, K, ?_, ?_⟩
  · rw [take_all hxk, hall, hb2.1]; rfl
  · intro i x' y' hi hx' hy'
    rcases Nat.lt_or_ge (i + 1) k with hlt | hge
    · exact hch i x' y' hlt hx' hy'
    · have hik : k = i + 1 := by omega
      subst hik
      rw [hxk] at hy'; cases hy'
      exact hb2.2 i x' rfl hx'
def posX (n : Int) : Pos → Int → Prop
  | .pt j, x => x = j ∧ x < n
  | .behind, x => x = n
  | .ahead, x => x = -1
  | .nowhere, _ => True
theorem c_toKeys (χ : Chi) (h : Heap) (A : Nat → Prop) (hA : Low A h) (kv : Value) (ks : List KeyD) (hk : RKeys A h kv ks) (hn : ks.length ≤ 100000) :
    Cl Tryz.prog χ 102 #[kv] h (fun r h' => RKeys (Up A h h') h' r ks ∧ Keep [] h h') := by
  obtain ⟨hlen, a, c, rfl, hx⟩ := hk.form
  refine cl_intro Tryz.func102 rfl rfl rfl ?_
  have K : Keep [] h h := Keep.refl _ _
  refine rG <| rA rfl rfl <| rN <| rG <| rA rfl rfl <| rN ?_
  refine tr_seq ?_
  refine rG <| rM rfl rfl <| rs_v (v_len u_sl_spec_SpanKey rfl) rfl ?_
  refine rM rfl rfl <| rN <| tr_block ?_
  refine tr_loop (fun m E h' => ∃ k v n, k ≤ ks.length ∧ m = ks.length - k ∧ E = [(3, v), (6, .slice a ks.length c), (7, .int .i64 (ks.length : Int)), (8, .int .i64 (k : Int))] ∧ Keep [] h h' ∧ n = (ks.take k).length ∧ OutR A h h' h.size 168 3 cKey v n (ks.take k)) ks.length [(3, _), (6, _), (7, _), (8, _)] ⟨rfl, rfl, rfl, rfl, trivial⟩ ⟨0, _, 0, Nat.zero_le _, rfl, rfl, K, rfl, OutR.nil _ _ _ _ _ _ _⟩ ?_
  rintro m E hL1 ⟨k, v, n, hk, rfl, rfl, K, hn, hout⟩
  have hout0 := hout
  obtain ⟨xs, F, O, hrow, hF⟩ := hout
  have hob := own_ne O; have KL := Keep.refl [] hL1
  refine rG <| rs_v (v_lt rfl rfl) rfl ?_
  refine rN ?_
  refine tr_seq ?_
  refine tr_ifn rfl (fun hif => ?_) (fun hif => ?_)
  · -- no
    simp only [dT, dF] at hif
    have hkk : k = ks.length := by omega
    subst hkk
    refine tr_exit <| q_thn_exit ?_
    refine q_lp_exit ?_
    refine q_blk_hit ?_
    refine q_thn ?_
    refine rG <| rM rfl rfl <| rA rfl rfl <| rN <| tr_ret <| q_ret (res_tmp rfl rfl) ?_
    rw [List.take_length] at hout0 hn
    exact ⟨hout0.fin cKey_st hn (Nat.le_refl _) cKey_r, K⟩
  -- yes
  simp only [dT, dF] at hif
  rcases hx with rfl | ⟨b, o, rfl, hAb, hR⟩
  · simp at hif; omega
  obtain ⟨x, hsk⟩ := ex_get (L := ks) (k := k) (by omega)
  have hkl : k < ks.length := (List.getElem?_eq_some_iff.1 hsk).1
  have KL0 := K.1
  have hcells := K.cells (by simp) (hR k x hsk)
  have hnk : n = k := by rw [hn, List.length_take]; omega
  refine tr_skip ?_
  refine q_thn ?_
  refine tr_seq ?_
  refine tr_block <| rG <| rs_v (v_indexAddrN u_sl_spec_SpanKey siz_spec_SpanKey rfl rfl (by omega)) rfl ?_
  refine rs_v (v_loadAgg (vs := [_, _, _]) many_spec_SpanKey rfl (by exact hcells)) rfl ?_
  refine rs_w (w_new zero_spec_SpanKey) rfl ?_
  rintro _ h2 ⟨rfl, B2, K2, Z2⟩
  have O := O.keep2 K2 (fun x hm => by have := hob x hm; simp; try omega)
  have S2 := K.1; have K := K.new0 K2; have KL := KL.new0 K2
  refine rs_w0 (w_put siz_spec_SpanKey rfl rfl rfl rfl B2 rfl) ?_
  rintro _ h3 ⟨B3, K3⟩
  have O := O.keep2 K3 (fun x hm => by have := hob x hm; simp; try omega)
  have B2 := B3; have K := K.new1 K3 (by first | (right; omega) | (left; simp; done)); have Z3 := K3.1; have KL := KL.new1 K3 (.inr (by omega))
  refine rN ?_
  refine tr_reg ?_
  refine rM rfl rfl <| rs_v (v_loadAgg (vs := [_, _, _]) many_spec_SpanKey rfl (by exact B2.sub _ 3 rfl)) rfl ?_
  refine rs_w (w_new1 u_sl_impl_SpanKey siz_impl_SpanKey zero_impl_SpanKey rfl rfl rfl rfl rfl) rfl ?_
  rintro _ h4 ⟨rfl, B4, K4, Z4⟩
  have B2 := K4.blk (by simp) B2
  have O := O.keep2 K4 (fun x hm => by have := hob x hm; simp; try omega)
  have S4 := K.1; have K := K.new0 K4; have KL := KL.new0 K4
  refine rs_w (w_app1 u_sl_impl_SpanKey info_impl_SpanKey rfl rfl rfl O rfl rfl B4 rfl (by omega) (by omega) (by omega)) rfl ?_
  rintro v5 h5 ⟨O5, K5, N5, F5⟩
  have K := K.newX K5 (fun x hm => .inr (by have := hob x hm; omega)); have Z5 := K5.1
  have B2 := K5.blk (fun hm => by first | (have := hob _ hm; omega) | exact absurd rfl (hnb _ hm)) B2
  have B4 := K5.blk (fun hm => by first | (have := hob _ hm; omega) | exact absurd rfl (hnb _ hm)) B4
  refine rA rfl rfl ?_
  refine rs_nil ?_
  refine q_blk_n ?_
  refine q_thn ?_
  refine tr_reg ?_
  refine rs_v (v_add rfl rfl (by omega) (by omega)) rfl ?_
  refine rM rfl rfl ?_
  refine rs_nil ?_
  refine q_lp (ks.length - (k + 1)) [(3, _), (6, _), (7, _), (8, _)] (by omega) ⟨rfl, rfl, rfl, rfl, trivial⟩ ⟨k + 1, v5, n + 1, by omega, rfl, rfl, K, ?_, ?_⟩
  · rw [take_snoc' hsk]; rw [List.length_append, ← hn]; rfl
  · rw [take_snoc' hsk]
    exact OutR.snoc cKey_st hA (by omega) hob hrow hF KL0 KL O5 K5 F5 rfl (show _ = _ from rfl)
theorem c_ofKeys (χ : Chi) (h : Heap) (A : Nat → Prop) (hA : Low A h) (kv : Value) (ks : List KeyD) (hk : RKeys A h kv ks) (hn : ks.length ≤ 100000) :
    Cl Tryz.prog χ 62 #[kv] h (fun r h' => RKeys (Up A h h') h' r ks ∧ Keep [] h h') := by
  obtain ⟨hlen, a, c, rfl, hx⟩ := hk.form
  refine cl_intro Tryz.func62 rfl rfl rfl ?_
  have K : Keep [] h h := Keep.refl _ _
  refine rG <| rA rfl rfl <| rN <| rG <| rA rfl rfl <| rN ?_
  refine tr_seq ?_
  refine rG <| rM rfl rfl <| rs_v (v_len u_sl_impl_SpanKey rfl) rfl ?_
  refine rM rfl rfl <| rN <| tr_block ?_
  refine tr_loop (fun m E h' => ∃ k v n, k ≤ ks.length ∧ m = ks.length - k ∧ E = [(3, v), (6, .slice a ks.length c), (7, .int .i64 (ks.length : Int)), (8, .int .i64 (k : Int))] ∧ Keep [] h h' ∧ n = (ks.take k).length ∧ OutR A h h' h.size 42 3 cKey v n (ks.take k)) ks.length [(3, _), (6, _), (7, _), (8, _)] ⟨rfl, rfl, rfl, rfl, trivial⟩ ⟨0, _, 0, Nat.zero_le _, rfl, rfl, K, rfl, OutR.nil _ _ _ _ _ _ _⟩ ?_
  rintro m E hL1 ⟨k, v, n, hk, rfl, rfl, K, hn, hout⟩
  have hout0 := hout
  obtain ⟨xs, F, O, hrow, hF⟩ := hout
  have hob := own_ne O; have KL := Keep.refl [] hL1
  refine rG <| rs_v (v_lt rfl rfl) rfl ?_
  refine rN ?_
  refine tr_seq ?_
  refine tr_ifn rfl (fun hif => ?_) (fun hif => ?_)
  · -- no
    simp only [dT, dF] at hif
    have hkk : k = ks.length := by omega
    subst hkk
    refine tr_exit <| q_thn_exit ?_
    refine q_lp_exit ?_
    refine q_blk_hit ?_
    refine q_thn ?_
    refine rG <| rM rfl rfl <| rA rfl rfl <| rN <| tr_ret <| q_ret (res_tmp rfl rfl) ?_
    rw [List.take_length] at hout0 hn
    exact ⟨hout0.fin cKey_st hn (Nat.le_refl _) cKey_r, K⟩
  -- yes
  simp only [dT, dF] at hif
  rcases hx with rfl | ⟨b, o, rfl, hAb, hR⟩
  · simp at hif; omega
  obtain ⟨x, hsk⟩ := ex_get (L := ks) (k := k) (by omega)
  have hkl : k < ks.length := (List.getElem?_eq_some_iff.1 hsk).1
  have KL0 := K.1
  have hcells := K.cells (by simp) (hR k x hsk)
  have hnk : n = k := by rw [hn, List.length_take]; omega
  refine tr_skip ?_
  refine q_thn ?_
  refine tr_seq ?_
  refine tr_block <| rG <| rs_v (v_indexAddrN u_sl_impl_SpanKey siz_impl_SpanKey rfl rfl (by omega)) rfl ?_
  refine rs_v (v_loadAgg (vs := [_, _, _]) many_impl_SpanKey rfl (by exact hcells)) rfl ?_
  refine rs_w (w_new zero_impl_SpanKey) rfl ?_
  rintro _ h2 ⟨rfl, B2, K2, Z2⟩
  have O := O.keep2 K2 (fun x hm => by have := hob x hm; simp; try omega)
  have S2 := K.1; have K := K.new0 K2; have KL := KL.new0 K2
  refine rs_w0 (w_put siz_impl_SpanKey rfl rfl rfl rfl B2 rfl) ?_
  rintro _ h3 ⟨B3, K3⟩
  have O := O.keep2 K3 (fun x hm => by have := hob x hm; simp; try omega)
  have B2 := B3; have K := K.new1 K3 (by first | (right; omega) | (left; simp; done)); have Z3 := K3.1; have KL := KL.new1 K3 (.inr (by omega))
  refine rN ?_
  refine tr_reg ?_
  refine rM rfl rfl <| rs_v (v_loadAgg (vs := [_, _, _]) many_impl_SpanKey rfl (by exact B2.sub _ 3 rfl)) rfl ?_
  refine rs_w (w_new1 u_sl_spec_SpanKey siz_spec_SpanKey zero_spec_SpanKey rfl rfl rfl rfl rfl) rfl ?_
  rintro _ h4 ⟨rfl, B4, K4, Z4⟩
  have B2 := K4.blk (by simp) B2
  have O := O.keep2 K4 (fun x hm => by have := hob x hm; simp; try omega)
  have S4 := K.1; have K := K.new0 K4; have KL := KL.new0 K4
  refine rs_w (w_app1 u_sl_spec_SpanKey info_spec_SpanKey rfl rfl rfl O rfl rfl B4 rfl (by omega) (by omega) (by omega)) rfl ?_
  rintro v5 h5 ⟨O5, K5, N5, F5⟩
  have K := K.newX K5 (fun x hm => .inr (by have := hob x hm; omega)); have Z5 := K5.1
  have B2 := K5.blk (fun hm => by first | (have := hob _ hm; omega) | exact absurd rfl (hnb _ hm)) B2
  have B4 := K5.blk (fun hm => by first | (have := hob _ hm; omega) | exact absurd rfl (hnb _ hm)) B4
  refine rA rfl rfl ?_
  refine rs_nil ?_
  refine q_blk_n ?_
  refine q_thn ?_
  refine tr_reg ?_
  refine rs_v (v_add rfl rfl (by omega) (by omega)) rfl ?_
  refine rM rfl rfl ?_
  refine rs_nil ?_
  refine q_lp (ks.length - (k + 1)) [(3, _), (6, _), (7, _), (8, _)] (by omega) ⟨rfl, rfl, rfl, rfl, trivial⟩ ⟨k + 1, v5, n + 1, by omega, rfl, rfl, K, ?_, ?_⟩
  · rw [take_snoc' hsk]; rw [List.length_append, ← hn]; rfl
  · rw [take_snoc' hsk]
    exact OutR.snoc cKey_st hA (by omega) hob hrow hF KL0 KL O5 K5 F5 rfl (show _ = _ from rfl)
theorem upk {A : Nat → Prop} {h h1 h2 : Heap} {v : Value} {ks : List KeyD} (hA : Low A h) (k0 : h.size ≤ h1.size) (hr : RKeys (Up A h h1) h1 v ks) (K : Keep [] h1 h2) : RKeys (Up A h h2) h2 v ks :=
  (hr.stab (K.st (hA.up k0))).mono (Up.grow K.1)
theorem c_toSpan (χ : Chi) (h : Heap) (A : Nat → Prop) (hA : Low A h) (s : SpanD) (kv : Value) (hks : RKeys A h kv s.ks) (hn : s.ks.length ≤ 100000) :
    Cl Tryz.prog χ 66 #[.agg #[.string s.s, .string s.e, kv]] h (fun r h' => (∃ kv', r = .agg #[.string s.s, .string s.e, kv'] ∧ RKeys (Up A h h') h' kv' s.ks) ∧ Keep [] h h') := by
  obtain ⟨ka, kc, rfl⟩ := hks.form2
  refine cl_intro Tryz.func66 rfl rfl rfl ?_
  have K : Keep [] h h := Keep.refl _ _
  refine rG <| rs_w (w_newbox rfl) rfl ?_
  rintro _ h1 ⟨rfl, B1, K1, Z1⟩
  have S1 := K.1; have K := K.new0 K1
  refine rs_w (w_new zero_impl_Span) rfl ?_
  rintro _ h2 ⟨rfl, B2, K2, Z2⟩
  have B1 := K2.blk (by simp) B1
  have S2 := K.1; have K := K.new0 K2
  refine rN ?_
  refine tr_seq ?_
  have S0 : h.size ≤ h2.size := K.1
  have hA2 := hA.mono S0
  refine tr_draw [(true, 8), (false, 1)] _ (by kernel_rfl) (by kernel_rfl) (by kernel_rfl) ?_
  refine rx_any (Keep []) (keep_pre _) ?_
  refine rm_v (keep_pre _) (fun h' hk => v_fieldAddr fa_spec_Span_0 rfl) ?_
  refine rm_v (keep_pre _) (fun h' hk => v_load one_string rfl (Blk.cell (hk.blk (by simp) B1) _ rfl)) ?_
  refine rm_v (keep_pre _) (fun h' hk => v_fieldAddr fa_spec_Span_1 rfl) ?_
  refine rm_v (keep_pre _) (fun h' hk => v_load one_string rfl (Blk.cell (hk.blk (by simp) B1) _ rfl)) ?_
  refine rm_v (keep_pre _) (fun h' hk => v_fieldAddr fa_spec_Span_2 rfl) ?_
  refine rm_v (keep_pre _) (fun h' hk => v_load one_sl_spec_SpanKey rfl (Blk.cell (hk.blk (by simp) B1) _ rfl)) ?_
  refine rm_w (fun v h' => RKeys (Up A h2 h') h' v s.ks) (fun v _ _ k1 k2 hr => upk hA2 k1.1 hr k2) (fun h' hk => OpW.mono (w_call (vs := [_]) ok_laws_toKeys rfl ⟨rfl, trivial⟩ (c_toKeys χ h' A (hA.mono (K.new0 hk).1) _ s.ks (hks.stab ((K.new0 hk).st hA)) hn)) (fun v h'' hv => ⟨hv.2, hv.1.mono (Up.trans2 hk.1 (Nat.le_refl _))⟩)) ?_
  refine rm_o 9 (fun v h' => ∃ kv', v = .agg #[.string s.s, .string s.e, kv'] ∧ RKeys (Up A h2 h') h' kv' s.ks) rfl (by kernel_rfl) (fun v _ _ k1 k2 hr => by obtain ⟨kv', e, hr⟩ := hr; exact ⟨kv', e, upk hA2 k1.1 hr k2⟩) (fun u h' hk hu => by
    obtain ⟨a, c, rfl⟩ := hu.form2
    exact (v_build3 rfl rfl rfl (bld_impl_Span_0_1_2 _ _ _ _ _)).w.mono (fun _ _ e => by obtain ⟨e1, e2⟩ := e; subst e1; subst e2; exact ⟨Keep.refl _ _, _, rfl, hu⟩)) ?_
  refine rm_end ?_; intro ha Ka; simp only [endM, hypF, ofE, argE, List.nil_append]
  intro v10 hv10 v9 hv9
  obtain ⟨kv', rfl, hkv⟩ := hv10
  obtain ⟨ka', kc', rfl⟩ := hkv.form2
  have B2 := Ka.blk (by simp) B2
  have K := K.new0 Ka; have Za := Ka.1
  refine rx_seq ?_
  refine rs_w0 (w_put siz_impl_Span rfl rfl rfl rfl B2 rfl) ?_
  rintro _ h3 ⟨B3, K3⟩
  have K := K.new1 K3 (.inr (by omega))
  refine rs_nil ?_
  refine q_con ?_
  refine rx_nil ?_
  refine q_thn ?_
  refine tr_ret <| q_ret (res_cell (vs := [_, _, _]) rfl rfl many_impl_Span (by exact B3.sub 0 3 rfl)) ?_
  have hs : Stab (Up A h2 ha) ha h3 := K3.stab fun b hb => ⟨hA2.up Za b hb, by
    rcases hb with hb | hb
    · have := hA b hb; simp; omega
    · simp; omega⟩
  exact ⟨⟨_, rfl, (hkv.stab hs).mono (Up.trans2 S0 K3.1)⟩, K⟩
theorem c_ofSpan (χ : Chi) (h : Heap) (A : Nat → Prop) (hA : Low A h) (s : SpanD) (kv : Value) (hks : RKeys A h kv s.ks) (hn : s.ks.length ≤ 100000) :
    Cl Tryz.prog χ 32 #[.agg #[.string s.s, .string s.e, kv]] h (fun r h' => (∃ kv', r = .agg #[.string s.s, .string s.e, kv'] ∧ RKeys (Up A h h') h' kv' s.ks) ∧ Keep [] h h') := by
  obtain ⟨ka, kc, rfl⟩ := hks.form2
  refine cl_intro Tryz.func32 rfl rfl rfl ?_
  have K : Keep [] h h := Keep.refl _ _
  refine rG <| rs_w (w_newbox rfl) rfl ?_
  rintro _ h1 ⟨rfl, B1, K1, Z1⟩
  have S1 := K.1; have K := K.new0 K1
  refine rs_w (w_new zero_spec_Span) rfl ?_
  rintro _ h2 ⟨rfl, B2, K2, Z2⟩
  have B1 := K2.blk (by simp) B1
  have S2 := K.1; have K := K.new0 K2
  refine rN ?_
  refine tr_seq ?_
  have S0 : h.size ≤ h2.size := K.1
  have hA2 := hA.mono S0
  refine tr_draw [(true, 8), (false, 1)] _ (by kernel_rfl) (by kernel_rfl) (by kernel_rfl) ?_
  refine rx_any (Keep []) (keep_pre _) ?_
  refine rm_v (keep_pre _) (fun h' hk => v_fieldAddr fa_impl_Span_0 rfl) ?_
  refine rm_v (keep_pre _) (fun h' hk => v_load one_string rfl (Blk.cell (hk.blk (by simp) B1) _ rfl)) ?_
  refine rm_v (keep_pre _) (fun h' hk => v_fieldAddr fa_impl_Span_1 rfl) ?_
  refine rm_v (keep_pre _) (fun h' hk => v_load one_string rfl (Blk.cell (hk.blk (by simp) B1) _ rfl)) ?_
  refine rm_v (keep_pre _) (fun h' hk => v_fieldAddr fa_impl_Span_2 rfl) ?_
  refine rm_v (keep_pre _) (fun h' hk => v_load one_sl_impl_SpanKey rfl (Blk.cell (hk.blk (by simp) B1) _ rfl)) ?_
  refine rm_w (fun v h' => RKeys (Up A h2 h') h' v s.ks) (fun v _ _ k1 k2 hr => upk hA2 k1.1 hr k2) (fun h' hk => OpW.mono (w_call (vs := [_]) ok_laws_ofKeys rfl ⟨rfl, trivial⟩ (c_ofKeys χ h' A (hA.mono (K.new0 hk).1) _ s.ks (hks.stab ((K.new0 hk).st hA)) hn)) (fun v h'' hv => ⟨hv.2, hv.1.mono (Up.trans2 hk.1 (Nat.le_refl _))⟩)) ?_
  refine rm_o 9 (fun v h' => ∃ kv', v = .agg #[.string s.s, .string s.e, kv'] ∧ RKeys (Up A h2 h') h' kv' s.ks) rfl (by kernel_rfl) (fun v _ _ k1 k2 hr => by obtain ⟨kv', e, hr⟩ := hr; exact ⟨kv', e, upk hA2 k1.1 hr k2⟩) (fun u h' hk hu => by
    obtain ⟨a, c, rfl⟩ := hu.form2
    exact (v_build3 rfl rfl rfl (bld_spec_Span_0_1_2 _ _ _ _ _)).w.mono (fun _ _ e => by obtain ⟨e1, e2⟩ := e; subst e1; subst e2; exact ⟨Keep.refl _ _, _, rfl, hu⟩)) ?_
  refine rm_end ?_; intro ha Ka; simp only [endM, hypF, ofE, argE, List.nil_append]
  intro v10 hv10 v9 hv9
  obtain ⟨kv', rfl, hkv⟩ := hv10
  obtain ⟨ka', kc', rfl⟩ := hkv.form2
  have B2 := Ka.blk (by simp) B2
  have K := K.new0 Ka; have Za := Ka.1
  refine rx_seq ?_
  refine rs_w0 (w_put siz_spec_Span rfl rfl rfl rfl B2 rfl) ?_
  rintro _ h3 ⟨B3, K3⟩
  have K := K.new1 K3 (.inr (by omega))
  refine rs_nil ?_
  refine q_con ?_
  refine rx_nil ?_
  refine q_thn ?_
  refine tr_ret <| q_ret (res_cell (vs := [_, _, _]) rfl rfl many_spec_Span (by exact B3.sub 0 3 rfl)) ?_
  have hs : Stab (Up A h2 ha) ha h3 := K3.stab fun b hb => ⟨hA2.up Za b hb, by
    rcases hb with hb | hb
    · have := hA b hb; simp; omega
    · simp; omega⟩
  exact ⟨⟨_, rfl, (hkv.stab hs).mono (Up.trans2 S0 K3.1)⟩, K⟩
theorem upk3 {A : Nat → Prop} {hL h3 h4 h5 : Heap} {v : Value} {ks : List KeyD} (hA : Low A h3) (k0 : hL.size ≤ h3.size) (K4 : Keep [] h3 h4) (hr : RKeys (Up A h3 h4) h4 v ks) (K5 : Keep [] h4 h5) : RKeys (Up A hL h5) h5 v ks :=
  (hr.stab (K5.st (hA.up K4.1))).mono (Up.trans2 k0 K5.1)
theorem c_toSpans (χ : Chi) (h : Heap) (A : Nat → Prop) (hA : Low A h) (v : Value) (W : List SpanD) (hW : RSpans A h v W) (hn : W.length ≤ 100000) (hm : ∀ s, s ∈ W → s.ks.length ≤ 100000) :
    Cl Tryz.prog χ 34 #[v] h (fun r h' => RSpans (Up A h h') h' r W ∧ Keep [] h h') := by
  obtain ⟨hlen, a, c, rfl, hx⟩ := hW.form
  refine cl_intro Tryz.func34 rfl rfl rfl ?_
  have K : Keep [] h h := Keep.refl _ _
  refine rG <| rA rfl rfl <| rN <| rG <| rA rfl rfl <| rN ?_
  refine tr_seq ?_
  refine rG <| rM rfl rfl <| rs_v (v_len u_sl_spec_Span rfl) rfl ?_
  refine rM rfl rfl <| rN <| tr_block ?_
  refine tr_loop (fun m E h' => ∃ k v n, k ≤ W.length ∧ m = W.length - k ∧ E = [(3, v), (6, .slice a W.length c), (7, .int .i64 (W.length : Int)), (8, .int .i64 (k : Int))] ∧ Keep [] h h' ∧ n = (W.take k).length ∧ OutR A h h' h.size 64 3 cSpan v n (W.take k)) W.length [(3, _), (6, _), (7, _), (8, _)] ⟨rfl, rfl, rfl, rfl, trivial⟩ ⟨0, _, 0, Nat.zero_le _, rfl, rfl, K, rfl, OutR.nil _ _ _ _ _ _ _⟩ ?_
  rintro m E hL1 ⟨k, v, n, hk, rfl, rfl, K, hn, hout⟩
  have hout0 := hout
  obtain ⟨xs, F, O, hrow, hF⟩ := hout
  have hob := own_ne O; have KL := Keep.refl [] hL1
  refine rG <| rs_v (v_lt rfl rfl) rfl ?_
  refine rN ?_
  refine tr_seq ?_
  refine tr_ifn rfl (fun hif => ?_) (fun hif => ?_)
  · -- no
    simp only [dT, dF] at hif
    have hkk : k = W.length := by omega
    subst hkk
    refine tr_exit <| q_thn_exit ?_
    refine q_lp_exit ?_
    refine q_blk_hit ?_
    refine q_thn ?_
    refine rG <| rM rfl rfl <| rA rfl rfl <| rN <| tr_ret <| q_ret (res_tmp rfl rfl) ?_
    rw [List.take_length] at hout0 hn
    exact ⟨hout0.fin cSpan_st hn (Nat.le_refl _) cSpan_r, K⟩
  -- yes
  simp only [dT, dF] at hif
  rcases hx with rfl | ⟨b, o, rfl, hAb, hR⟩
  · simp at hif; omega
  obtain ⟨x, hsk⟩ := ex_get (L := W) (k := k) (by omega)
  have hkl : k < W.length := (List.getElem?_eq_some_iff.1 hsk).1
  have KL0 := K.1
  obtain ⟨kv, hcc, hkx⟩ := hR k x hsk
  obtain ⟨ka, kc, rfl⟩ := hkx.form2
  have hcells := K.cells (by simp) hcc
  have hnk : n = k := by rw [hn, List.length_take]; omega
  refine tr_skip ?_
  refine q_thn ?_
  refine tr_seq ?_
  refine tr_block <| rG <| rs_v (v_indexAddrN u_sl_spec_Span siz_spec_Span rfl rfl (by omega)) rfl ?_
  refine rs_v (v_loadAgg (vs := [_, _, _]) many_spec_Span rfl (by exact hcells)) rfl ?_
  refine rs_w (w_new zero_spec_Span) rfl ?_
  rintro _ h2 ⟨rfl, B2, K2, Z2⟩
  have O := O.keep2 K2 (fun x hm => by have := hob x hm; simp; try omega)
  have S2 := K.1; have K := K.new0 K2; have KL := KL.new0 K2
  refine rs_w0 (w_put siz_spec_Span rfl rfl rfl rfl B2 rfl) ?_
  rintro _ h3 ⟨B3, K3⟩
  have O := O.keep2 K3 (fun x hm => by have := hob x hm; simp; try omega)
  have B2 := B3; have K := K.new1 K3 (by first | (right; omega) | (left; simp; done)); have Z3 := K3.1; have KL := KL.new1 K3 (.inr (by omega))
  refine rN ?_
  refine tr_reg ?_
  refine rM rfl rfl <| rs_v (v_loadAgg (vs := [_, _, _]) many_spec_Span rfl (by exact B2.sub _ 3 rfl)) rfl ?_
  refine rs_w (w_call (vs := [_]) ok_laws_toSpan rfl ⟨rfl, trivial⟩ (c_toSpan χ _ A (hA.mono (by omega)) x _ (hkx.stab (K.st hA)) (hm x (List.mem_of_getElem? hsk)))) rfl ?_
  rintro _ h4 ⟨⟨kv4, rfl, hkv4⟩, K4⟩
  obtain ⟨a4, c4, rfl⟩ := hkv4.form2
  have B2 := K4.blk (by simp) B2
  have O := O.keep2 K4 (fun x hm => by have := hob x hm; simp; try omega)
  have K := K.new0 K4; have Z4 := K4.1; have KL := KL.new0 K4
  refine rs_w (w_new1 u_sl_impl_Span siz_impl_Span zero_impl_Span rfl rfl rfl rfl rfl) rfl ?_
  rintro _ h5 ⟨rfl, B5, K5, Z5⟩
  have B2 := K5.blk (by simp) B2
  have O := O.keep2 K5 (fun x hm => by have := hob x hm; simp; try omega)
  have S5 := K.1; have K := K.new0 K5; have KL := KL.new0 K5
  refine rs_w (w_app1 u_sl_impl_Span info_impl_Span rfl rfl rfl O rfl rfl B5 rfl (by omega) (by omega) (by omega)) rfl ?_
  rintro v6 h6 ⟨O6, K6, N6, F6⟩
  have K := K.newX K6 (fun x hm => .inr (by have := hob x hm; omega)); have Z6 := K6.1
  have B2 := K6.blk (fun hm => by first | (have := hob _ hm; omega) | exact absurd rfl (hnb _ hm)) B2
  have B5 := K6.blk (fun hm => by first | (have := hob _ hm; omega) | exact absurd rfl (hnb _ hm)) B5
  refine rA rfl rfl ?_
  refine rs_nil ?_
  refine q_blk_n ?_
  refine q_thn ?_
  refine tr_reg ?_
  refine rs_v (v_add rfl rfl (by omega) (by omega)) rfl ?_
  refine rM rfl rfl ?_
  refine rs_nil ?_
  refine q_lp (W.length - (k + 1)) [(3, _), (6, _), (7, _), (8, _)] (by omega) ⟨rfl, rfl, rfl, rfl, trivial⟩ ⟨k + 1, v6, n + 1, by omega, rfl, rfl, K, ?_, ?_⟩
  · rw [take_snoc' hsk]; rw [List.length_append, ← hn]; rfl
  · rw [take_snoc' hsk]
    exact OutR.snoc cSpan_st hA (by omega) hob hrow hF KL0 KL O6 K6 F6 rfl (⟨_, rfl, upk3 (hA.mono (by omega)) (by omega) K4 hkv4 K5⟩)
theorem c_ofSpans (χ : Chi) (h : Heap) (A : Nat → Prop) (hA : Low A h) (v : Value) (W : List SpanD) (hW : RSpans A h v W) (hn : W.length ≤ 100000) (hm : ∀ s, s ∈ W → s.ks.length ≤ 100000) :
    Cl Tryz.prog χ 31 #[v] h (fun r h' => RSpans (Up A h h') h' r W ∧ Keep [] h h') := by
  obtain ⟨hlen, a, c, rfl, hx⟩ := hW.form
  refine cl_intro Tryz.func31 rfl rfl rfl ?_
  have K : Keep [] h h := Keep.refl _ _
  refine rG <| rA rfl rfl <| rN <| rG <| rA rfl rfl <| rN ?_
  refine tr_seq ?_
  refine rG <| rM rfl rfl <| rs_v (v_len u_sl_impl_Span rfl) rfl ?_
  refine rM rfl rfl <| rN <| tr_block ?_
  refine tr_loop (fun m E h' => ∃ k v n, k ≤ W.length ∧ m = W.length - k ∧ E = [(3, v), (6, .slice a W.length c), (7, .int .i64 (W.length : Int)), (8, .int .i64 (k : Int))] ∧ Keep [] h h' ∧ n = (W.take k).length ∧ OutR A h h' h.size 40 3 cSpan v n (W.take k)) W.length [(3, _), (6, _), (7, _), (8, _)] ⟨rfl, rfl, rfl, rfl, trivial⟩ ⟨0, _, 0, Nat.zero_le _, rfl, rfl, K, rfl, OutR.nil _ _ _ _ _ _ _⟩ ?_
  rintro m E hL1 ⟨k, v, n, hk, rfl, rfl, K, hn, hout⟩
  have hout0 := hout
  obtain ⟨xs, F, O, hrow, hF⟩ := hout
  have hob := own_ne O; have KL := Keep.refl [] hL1
  refine rG <| rs_v (v_lt rfl rfl) rfl ?_
  refine rN ?_
  refine tr_seq ?_
  refine tr_ifn rfl (fun hif => ?_) (fun hif => ?_)
  · -- no
    simp only [dT, dF] at hif
    have hkk : k = W.length := by omega
    subst hkk
    refine tr_exit <| q_thn_exit ?_
    refine q_lp_exit ?_
    refine q_blk_hit ?_
    refine q_thn ?_
    refine rG <| rM rfl rfl <| rA rfl rfl <| rN <| tr_ret <| q_ret (res_tmp rfl rfl) ?_
    rw [List.take_length] at hout0 hn
    exact ⟨hout0.fin cSpan_st hn (Nat.le_refl _) cSpan_r, K⟩
  -- yes
  simp only [dT, dF] at hif
  rcases hx with rfl | ⟨b, o, rfl, hAb, hR⟩
  · simp at hif; omega
  obtain ⟨x, hsk⟩ := ex_get (L := W) (k := k) (by omega)
  have hkl : k < W.length := (List.getElem?_eq_some_iff.1 hsk).1
  have KL0 := K.1
  obtain ⟨kv, hcc, hkx⟩ := hR k x hsk
  obtain ⟨ka, kc, rfl⟩ := hkx.form2
  have hcells := K.cells (by simp) hcc
  have hnk : n = k := by rw [hn, List.length_take]; omega
  refine tr_skip ?_
  refine q_thn ?_
  refine tr_seq ?_
  refine tr_block <| rG <| rs_v (v_indexAddrN u_sl_impl_Span siz_impl_Span rfl rfl (by omega)) rfl ?_
  refine rs_v (v_loadAgg (vs := [_, _, _]) many_impl_Span rfl (by exact hcells)) rfl ?_
  refine rs_w (w_new zero_impl_Span) rfl ?_
  rintro _ h2 ⟨rfl, B2, K2, Z2⟩
  have O := O.keep2 K2 (fun x hm => by have := hob x hm; simp; try omega)
  have S2 := K.1; have K := K.new0 K2; have KL := KL.new0 K2
  refine rs_w0 (w_put siz_impl_Span rfl rfl rfl rfl B2 rfl) ?_
  rintro _ h3 ⟨B3, K3⟩
  have O := O.keep2 K3 (fun x hm => by have := hob x hm; simp; try omega)
  have B2 := B3; have K := K.new1 K3 (by first | (right; omega) | (left; simp; done)); have Z3 := K3.1; have KL := KL.new1 K3 (.inr (by omega))
  refine rN ?_
  refine tr_reg ?_
  refine rM rfl rfl <| rs_v (v_loadAgg (vs := [_, _, _]) many_impl_Span rfl (by exact B2.sub _ 3 rfl)) rfl ?_
  refine rs_w (w_call (vs := [_]) ok_laws_ofSpan rfl ⟨rfl, trivial⟩ (c_ofSpan χ _ A (hA.mono (by omega)) x _ (hkx.stab (K.st hA)) (hm x (List.mem_of_getElem? hsk)))) rfl ?_
  rintro _ h4 ⟨⟨kv4, rfl, hkv4⟩, K4⟩
  obtain ⟨a4, c4, rfl⟩ := hkv4.form2
  have B2 := K4.blk (by simp) B2
  have O := O.keep2 K4 (fun x hm => by have := hob x hm; simp; try omega)
  have K := K.new0 K4; have Z4 := K4.1; have KL := KL.new0 K4
  refine rs_w (w_new1 u_sl_spec_Span siz_spec_Span zero_spec_Span rfl rfl rfl rfl rfl) rfl ?_
  rintro _ h5 ⟨rfl, B5, K5, Z5⟩
  have B2 := K5.blk (by simp) B2
  have O := O.keep2 K5 (fun x hm => by have := hob x hm; simp; try omega)
  have S5 := K.1; have K := K.new0 K5; have KL := KL.new0 K5
  refine rs_w (w_app1 u_sl_spec_Span info_spec_Span rfl rfl rfl O rfl rfl B5 rfl (by omega) (by omega) (by omega)) rfl ?_
  rintro v6 h6 ⟨O6, K6, N6, F6⟩
  have K := K.newX K6 (fun x hm => .inr (by have := hob x hm; omega)); have Z6 := K6.1
  have B2 := K6.blk (fun hm => by first | (have := hob _ hm; omega) | exact absurd rfl (hnb _ hm)) B2
  have B5 := K6.blk (fun hm => by first | (have := hob _ hm; omega) | exact absurd rfl (hnb _ hm)) B5
  refine rA rfl rfl ?_
  refine rs_nil ?_
  refine q_blk_n ?_
  refine q_thn ?_
  refine tr_reg ?_
  refine rs_v (v_add rfl rfl (by omega) (by omega)) rfl ?_
  refine rM rfl rfl ?_
  refine rs_nil ?_
  refine q_lp (W.length - (k + 1)) [(3, _), (6, _), (7, _), (8, _)] (by omega) ⟨rfl, rfl, rfl, rfl, trivial⟩ ⟨k + 1, v6, n + 1, by omega, rfl, rfl, K, ?_, ?_⟩
  · rw [take_snoc' hsk]; rw [List.length_append, ← hn]; rfl
  · rw [take_snoc' hsk]
    exact OutR.snoc cSpan_st hA (by omega) hob hrow hF KL0 KL O6 K6 F6 rfl (⟨_, rfl, upk3 (hA.mono (by omega)) (by omega) K4 hkv4 K5⟩)
def KeyD.small (k : KeyD) : Prop := k.suf.size ≤ 9223372036854775807 ∧ k.val.size ≤ 9223372036854775807
def SpanD.small (s : SpanD) : Prop := s.s.size ≤ 9223372036854775807 ∧ s.e.size ≤ 9223372036854775807 ∧ s.ks.length ≤ 100000 ∧ ∀ k, k ∈ s.ks → KeyD.small k
abbrev N0 : Nat → Prop := fun _ => False
theorem n0low (h : Heap) : Low N0 h := fun _ hb => hb.elim
theorem n0up {A : Nat → Prop} {h0 h1 h h' : Heap} (k0 : h0.size ≤ h.size) (k1 : h'.size ≤ h1.size) : ∀ b, Up N0 h h' b → Up A h0 h1 b := fun _ hb => by
  rcases hb with hb | hb
  · exact hb.elim
  · exact .inr ⟨Nat.le_trans k0 hb.1, Nat.lt_of_lt_of_le hb.2 k1⟩
theorem upb {A : Nat → Prop} {h h1 h2 : Heap} {v : Value} {s : ByteArray} (hA : Low A h) (k0 : h.size ≤ h1.size) (hr : RBytes (Up A h h1) h1 v s) (K : Keep [] h1 h2) : RBytes (Up A h h2) h2 v s :=
  (hr.stab (K.st (hA.up k0))).mono (Up.grow K.1)
theorem upp {A : Nat → Prop} {h h1 h2 : Heap} {v : Value} {s : List KeyD} (hA : Low A h) (k0 : h.size ≤ h1.size) (hr : PKeys (Up A h h1) h1 v s) (K : Keep [] h1 h2) : PKeys (Up A h h2) h2 v s :=
  (hr.stab (K.st (hA.up k0))).mono (Up.grow K.1)
theorem seq'_eq {a b : ByteArray} : seq' a b = true ↔ a = b := by
  simp only [seq', Lib.toList_data, beq_iff_eq]
  constructor
  · intro e
    cases a; cases b
    rename_i x y
    congr 1
    exact Array.ext' e
  · rintro rfl; rfl
theorem RBytes.empty (A : Nat → Prop) (h : Heap) : RBytes A h (.slice none 0 0) ByteArray.empty := SlR.nil _ _ _ _
theorem c_maybe (χ : Chi) (h : Heap) (s : ByteArray) (hs : s.size ≤ 9223372036854775807) :
    Cl Tryz.prog χ 121 #[.string s] h (fun r h' => RBytes (Up N0 h h') h' r s ∧ Keep [] h h') := by
  refine cl_intro Tryz.func121 rfl rfl rfl ?_
  have K : Keep [] h h := Keep.refl _ _
  refine rG <| rA rfl rfl <| rN ?_
  refine tr_seq ?_
  refine rG <| rM rfl rfl <| rs_v (v_seq rfl rfl) rfl ?_
  refine rN ?_
  refine tr_if rfl (fun hif => ?_) (fun hif => ?_)
  · -- yes
    skip
    refine rG <| rA rfl rfl <| rN <| tr_ret <| q_thn_ret <| q_ret (res_tmp rfl rfl) ?_
    have e := seq'_eq.1 hif
    subst e
    exact ⟨RBytes.empty _ _, K⟩
  -- no
  skip
  refine tr_skip ?_
  refine q_thn ?_
  refine rG <| rM rfl rfl <| rs_w (w_bytes u_string u_sl_uint8 u_uint8 rfl (by omega)) rfl ?_
  rintro _ h1 ⟨c1, rfl, K1, hb1⟩
  have K := K.new0 K1; have Z1 := K1.1
  refine rA rfl rfl <| rN <| tr_ret <| q_ret (res_tmp rfl rfl) ?_
  exact ⟨hb1.mono (fun b hb => .inr hb), K⟩
theorem c_spanKeys (χ : Chi) (h : Heap) (A : Nat → Prop) (hA : Low A h) (kv : Value) (ks : List KeyD) (hk : RKeys A h kv ks) (hn : ks.length ≤ 100000) (hm : ∀ k, k ∈ ks → KeyD.small k) :
    Cl Tryz.prog χ 103 #[kv] h (fun r h' => PKeys (Up N0 h h') h' r ks ∧ Keep [] h h') := by
  obtain ⟨hlen, a, c, rfl, hx⟩ := hk.form
  refine cl_intro Tryz.func103 rfl rfl rfl ?_
  have K : Keep [] h h := Keep.refl _ _
  refine rG <| rA rfl rfl <| rN <| rG <| rA rfl rfl <| rN ?_
  refine tr_seq ?_
  refine rG <| rM rfl rfl <| rs_v (v_len u_sl_impl_SpanKey rfl) rfl ?_
  refine rM rfl rfl <| rN <| tr_block ?_
  refine tr_loop (fun m E h' => ∃ k v n, k ≤ ks.length ∧ m = ks.length - k ∧ E = [(3, v), (6, .slice a ks.length c), (7, .int .i64 (ks.length : Int)), (8, .int .i64 (k : Int))] ∧ Keep [] h h' ∧ n = (ks.take k).length ∧ OutR N0 h h' h.size 194 3 cPKey v n (ks.take k)) ks.length [(3, _), (6, _), (7, _), (8, _)] ⟨rfl, rfl, rfl, rfl, trivial⟩ ⟨0, _, 0, Nat.zero_le _, rfl, rfl, K, rfl, OutR.nil _ _ _ _ _ _ _⟩ ?_
  rintro m E hL1 ⟨k, v, n, hk, rfl, rfl, K, hn, hout⟩
  have hout0 := hout
  obtain ⟨xs, F, O, hrow, hF⟩ := hout
  have hob := own_ne O; have KL := Keep.refl [] hL1
  refine rG <| rs_v (v_lt rfl rfl) rfl ?_
  refine rN ?_
  refine tr_seq ?_
  refine tr_ifn rfl (fun hif => ?_) (fun hif => ?_)
  · -- no
    simp only [dT, dF] at hif
    have hkk : k = ks.length := by omega
    subst hkk
    refine tr_exit <| q_thn_exit ?_
    refine q_lp_exit ?_
    refine q_blk_hit ?_
    refine q_thn ?_
    refine rG <| rM rfl rfl <| rA rfl rfl <| rN <| tr_ret <| q_ret (res_tmp rfl rfl) ?_
    rw [List.take_length] at hout0 hn
    exact ⟨hout0.fin cPKey_st hn (Nat.le_refl _) cPKey_r, K⟩
  -- yes
  simp only [dT, dF] at hif
  rcases hx with rfl | ⟨b, o, rfl, hAb, hR⟩
  · simp at hif; omega
  obtain ⟨x, hsk⟩ := ex_get (L := ks) (k := k) (by omega)
  have hkl : k < ks.length := (List.getElem?_eq_some_iff.1 hsk).1
  have KL0 := K.1
  have hnk : n = k := by rw [hn, List.length_take]; omega
  have hcells := K.cells (by simp) (hR k x hsk)
  refine tr_skip ?_
  refine q_thn ?_
  refine tr_seq ?_
  refine tr_block <| rG <| rs_v (v_indexAddrN u_sl_impl_SpanKey siz_impl_SpanKey rfl rfl (by omega)) rfl ?_
  refine rs_v (v_loadAgg (vs := [_, _, _]) many_impl_SpanKey rfl (by exact hcells)) rfl ?_
  refine rs_w (w_new zero_impl_SpanKey) rfl ?_
  rintro _ h2 ⟨rfl, B2, K2, Z2⟩
  have O := O.keep2 K2 (fun x hm => by have := hob x hm; simp; try omega)
  have S2 := K.1; have K := K.new0 K2; have KL := KL.new0 K2
  refine rs_w0 (w_put siz_impl_SpanKey rfl rfl rfl rfl B2 rfl) ?_
  rintro _ h3 ⟨B3, K3⟩
  have O := O.keep2 K3 (fun x hm => by have := hob x hm; simp; try omega)
  have B2 := B3; have K := K.new1 K3 (by first | (right; omega) | (left; simp; done)); have Z3 := K3.1; have KL := KL.new1 K3 (.inr (by omega))
  refine rN ?_
  have S0 : hL1.size ≤ h3.size := KL.1
  obtain ⟨hz1, hz2⟩ := hm x (List.mem_of_getElem? hsk)
  refine tr_draw [(true, 11), (false, 2)] _ (by kernel_rfl) (by kernel_rfl) (by kernel_rfl) ?_
  refine rx_any (Keep []) (keep_pre _) ?_
  refine rm_v (keep_pre _) (fun h' hk => v_move rfl) ?_
  refine rm_v (keep_pre _) (fun h' hk => v_fieldAddr fa_impl_SpanKey_0 rfl) ?_
  refine rm_v (keep_pre _) (fun h' hk => v_load one_uint64 rfl (Blk.cell (hk.blk (by simp) B2) _ rfl)) ?_
  refine rm_v (keep_pre _) (fun h' hk => v_fieldAddr fa_impl_SpanKey_1 rfl) ?_
  refine rm_v (keep_pre _) (fun h' hk => v_load one_string rfl (Blk.cell (hk.blk (by simp) B2) _ rfl)) ?_
  refine rm_w (fun v h' => RBytes (Up N0 h3 h') h' v x.suf) (fun v _ _ k1 k2 hr => upb (n0low _) k1.1 hr k2) (fun h' hk => OpW.mono (w_call (vs := [_]) ok_impl_maybe rfl ⟨rfl, trivial⟩ (c_maybe χ h' x.suf hz1)) (fun v h'' hv => ⟨hv.2, hv.1.mono (n0up hk.1 (Nat.le_refl _))⟩)) ?_
  refine rm_v (keep_pre _) (fun h' hk => v_fieldAddr fa_impl_SpanKey_2 rfl) ?_
  refine rm_v (keep_pre _) (fun h' hk => v_load one_string rfl (Blk.cell (hk.blk (by simp) B2) _ rfl)) ?_
  refine rm_w (fun v h' => RBytes (Up N0 h3 h') h' v x.val) (fun v _ _ k1 k2 hr => upb (n0low _) k1.1 hr k2) (fun h' hk => OpW.mono (w_call (vs := [_]) ok_impl_maybe rfl ⟨rfl, trivial⟩ (c_maybe χ h' x.val hz2)) (fun v h'' hv => ⟨hv.2, hv.1.mono (n0up hk.1 (Nat.le_refl _))⟩)) ?_
  refine rm_o2 17 20 (fun v h' => ∃ sv vv, v = .agg #[.int .u64 x.tr, sv, vv] ∧ RBytes (Up N0 h3 h') h' sv x.suf ∧ RBytes (Up N0 h3 h') h' vv x.val) rfl rfl rfl (by kernel_rfl) (by kernel_rfl)
    (fun v _ _ k1 k2 hr => by obtain ⟨sv, vv, e, r1, r2⟩ := hr; exact ⟨sv, vv, e, upb (n0low _) k1.1 r1 k2, upb (n0low _) k1.1 r2 k2⟩)
    (fun u u2 h' hk hu hu2 => by
      obtain ⟨a1, n1, c1, rfl⟩ := hu.form2
      obtain ⟨a2, n2, c2, rfl⟩ := hu2.form2
      exact (v_build3 rfl rfl rfl (bld_keyspan_Key_0_1_2 _ _ _ _ _ _ _)).w.mono (fun _ _ e => by obtain ⟨e1, e2⟩ := e; subst e1; subst e2; exact ⟨Keep.refl _ _, _, _, rfl, hu, hu2⟩)) ?_
  refine rm_o 21 (fun v h' => ∃ g sv vv, v = .slice (some ⟨g, 0, none⟩) 1 1 ∧ Blk h' g [.int .u64 x.tr, sv, vv] 194 ∧ RBytes (Up N0 h3 h') h' sv x.suf ∧ RBytes (Up N0 h3 h') h' vv x.val) rfl (by kernel_rfl)
    (fun v _ _ k1 k2 hr => by obtain ⟨g, sv, vv, e, B, r1, r2⟩ := hr; exact ⟨g, sv, vv, e, k2.blk (by simp) B, upb (n0low _) k1.1 r1 k2, upb (n0low _) k1.1 r2 k2⟩)
    (fun u h' hk hu => by
      obtain ⟨sv, vv, rfl, r1, r2⟩ := hu
      exact OpW.mono (w_new1 u_sl_keyspan_Key siz_keyspan_Key zero_keyspan_Key rfl rfl rfl rfl rfl) (fun v h'' hv => by
        obtain ⟨e, B, K', _⟩ := hv
        exact ⟨K', _, _, _, e, B, upb (n0low _) hk.1 r1 K', upb (n0low _) hk.1 r2 K'⟩)) ?_
  refine rm_end ?_; intro ha Ka; simp only [endM, hypF, ofE, argE, List.nil_append]
  intro v22 hv22 v21 _ v20 _ v17 _
  obtain ⟨g, sv, vv, rfl, Bg, r1, r2⟩ := hv22
  obtain ⟨a1, n1, c1, rfl⟩ := r1.form2
  obtain ⟨a2, n2, c2, rfl⟩ := r2.form2
  have O := O.keep2 Ka (by simp)
  have K := K.new0 Ka; have Za := Ka.1
  have KL := KL.new0 Ka
  refine rx_seq ?_
  refine rs_w (w_app1 u_sl_keyspan_Key info_keyspan_Key rfl rfl rfl O rfl rfl Bg rfl (by omega) (by omega) (by omega)) rfl ?_
  rintro v4 h4 ⟨O4, K4, N4, F4⟩
  have K := K.newX K4 (fun x hm => .inr (by have := hob x hm; omega)); have Z4 := K4.1
  refine rA rfl rfl ?_
  refine rs_nil ?_
  refine q_con ?_
  refine rx_nil ?_
  refine q_blk_n ?_
  refine q_thn ?_
  refine tr_reg ?_
  refine rs_v (v_add rfl rfl (by omega) (by omega)) rfl ?_
  refine rM rfl rfl ?_
  refine rs_nil ?_
  refine q_lp (ks.length - (k + 1)) [(3, _), (6, _), (7, _), (8, _)] (by omega) ⟨rfl, rfl, rfl, rfl, trivial⟩ ⟨k + 1, v4, n + 1, by omega, rfl, rfl, K, ?_, ?_⟩
  · rw [take_snoc' hsk]; rw [List.length_append, ← hn]; rfl
  · rw [take_snoc' hsk]
    exact OutR.snoc cPKey_st (n0low h) (by omega) hob hrow hF KL0 KL O4 K4 F4 rfl (⟨_, _, rfl, r1.mono (n0up S0 (Nat.le_refl _)), r2.mono (n0up S0 (Nat.le_refl _))⟩)
theorem c_plainKeys (χ : Chi) (h : Heap) (A : Nat → Prop) (hA : Low A h) (kv : Value) (ks : List KeyD) (hk : PKeys A h kv ks) (hn : ks.length ≤ 100000) :
    Cl Tryz.prog χ 91 #[kv] h (fun r h' => RKeys (Up N0 h h') h' r ks ∧ Keep [] h h') := by
  obtain ⟨hlen, a, c, rfl, hx⟩ := hk.form
  refine cl_intro Tryz.func91 rfl rfl rfl ?_
  have K : Keep [] h h := Keep.refl _ _
  refine rG <| rA rfl rfl <| rN <| rG <| rA rfl rfl <| rN ?_
  refine tr_seq ?_
  refine rG <| rM rfl rfl <| rs_v (v_len u_sl_keyspan_Key rfl) rfl ?_
  refine rM rfl rfl <| rN <| tr_block ?_
  refine tr_loop (fun m E h' => ∃ k v n, k ≤ ks.length ∧ m = ks.length - k ∧ E = [(3, v), (6, .slice a ks.length c), (7, .int .i64 (ks.length : Int)), (8, .int .i64 (k : Int))] ∧ Keep [] h h' ∧ n = (ks.take k).length ∧ OutR N0 h h' h.size 168 3 cKey v n (ks.take k)) ks.length [(3, _), (6, _), (7, _), (8, _)] ⟨rfl, rfl, rfl, rfl, trivial⟩ ⟨0, _, 0, Nat.zero_le _, rfl, rfl, K, rfl, OutR.nil _ _ _ _ _ _ _⟩ ?_
  rintro m E hL1 ⟨k, v, n, hk, rfl, rfl, K, hn, hout⟩
  have hout0 := hout
  obtain ⟨xs, F, O, hrow, hF⟩ := hout
  have hob := own_ne O; have KL := Keep.refl [] hL1
  refine rG <| rs_v (v_lt rfl rfl) rfl ?_
  refine rN ?_
  refine tr_seq ?_
  refine tr_ifn rfl (fun hif => ?_) (fun hif => ?_)
  · -- no
    simp only [dT, dF] at hif
    have hkk : k = ks.length := by omega
    subst hkk
    refine tr_exit <| q_thn_exit ?_
    refine q_lp_exit ?_
    refine q_blk_hit ?_
    refine q_thn ?_
    refine rG <| rM rfl rfl <| rA rfl rfl <| rN <| tr_ret <| q_ret (res_tmp rfl rfl) ?_
    rw [List.take_length] at hout0 hn
    exact ⟨hout0.fin cKey_st hn (Nat.le_refl _) cKey_r, K⟩
  -- yes
  simp only [dT, dF] at hif
  rcases hx with rfl | ⟨b, o, rfl, hAb, hR⟩
  · simp at hif; omega
  obtain ⟨x, hsk⟩ := ex_get (L := ks) (k := k) (by omega)
  have hkl : k < ks.length := (List.getElem?_eq_some_iff.1 hsk).1
  have KL0 := K.1
  have hnk : n = k := by rw [hn, List.length_take]; omega
  obtain ⟨sv, vv, hcc, r1, r2⟩ := hR k x hsk
  obtain ⟨a1, n1, c1, rfl⟩ := r1.form2
  obtain ⟨a2, n2, c2, rfl⟩ := r2.form2
  have hcells := K.cells (by simp) hcc
  refine tr_skip ?_
  refine q_thn ?_
  refine tr_seq ?_
  refine tr_block <| rG <| rs_v (v_indexAddrN u_sl_keyspan_Key siz_keyspan_Key rfl rfl (by omega)) rfl ?_
  refine rs_v (v_loadAgg (vs := [_, _, _]) many_keyspan_Key rfl (by exact hcells)) rfl ?_
  refine rs_w (w_new zero_keyspan_Key) rfl ?_
  rintro _ h2 ⟨rfl, B2, K2, Z2⟩
  have O := O.keep2 K2 (fun x hm => by have := hob x hm; simp; try omega)
  have S2 := K.1; have K := K.new0 K2; have KL := KL.new0 K2
  refine rs_w0 (w_put siz_keyspan_Key rfl rfl rfl rfl B2 rfl) ?_
  rintro _ h3 ⟨B3, K3⟩
  have O := O.keep2 K3 (fun x hm => by have := hob x hm; simp; try omega)
  have B2 := B3; have K := K.new1 K3 (by first | (right; omega) | (left; simp; done)); have Z3 := K3.1; have KL := KL.new1 K3 (.inr (by omega))
  refine rN ?_
  refine tr_reg ?_
  refine rM rfl rfl <| rF fa_keyspan_Key_0 rfl rfl <| rs_v (v_load one_uint64 rfl (by exact B2.cell _ rfl)) rfl ?_
  refine rF fa_keyspan_Key_1 rfl rfl <| rs_v (v_load one_sl_uint8 rfl (by exact B2.cell _ rfl)) rfl ?_
  refine rs_v (v_toStr u_sl_uint8 u_uint8 u_string rfl (RBytes.by (r1.stab (K.st hA)))) rfl ?_
  refine rF fa_keyspan_Key_2 rfl rfl <| rs_v (v_load one_sl_uint8 rfl (by exact B2.cell _ rfl)) rfl ?_
  refine rs_v (v_toStr u_sl_uint8 u_uint8 u_string rfl (RBytes.by (r2.stab (K.st hA)))) rfl ?_
  refine rs_v (v_build3 rfl rfl rfl (bld_impl_SpanKey_0_1_2 _ _ _)) rfl ?_
  refine rs_w (w_new1 u_sl_impl_SpanKey siz_impl_SpanKey zero_impl_SpanKey rfl rfl rfl rfl rfl) rfl ?_
  rintro _ h4 ⟨rfl, B4, K4, Z4⟩
  have B2 := K4.blk (by simp) B2
  have O := O.keep2 K4 (fun x hm => by have := hob x hm; simp; try omega)
  have S4 := K.1; have K := K.new0 K4; have KL := KL.new0 K4
  refine rs_w (w_app1 u_sl_impl_SpanKey info_impl_SpanKey rfl rfl rfl O rfl rfl B4 rfl (by omega) (by omega) (by omega)) rfl ?_
  rintro v5 h5 ⟨O5, K5, N5, F5⟩
  have K := K.newX K5 (fun x hm => .inr (by have := hob x hm; omega)); have Z5 := K5.1
  have B2 := K5.blk (fun hm => by first | (have := hob _ hm; omega) | exact absurd rfl (hnb _ hm)) B2
  have B4 := K5.blk (fun hm => by first | (have := hob _ hm; omega) | exact absurd rfl (hnb _ hm)) B4
  refine rA rfl rfl ?_
  refine rs_nil ?_
  refine q_blk_n ?_
  refine q_thn ?_
  refine tr_reg ?_
  refine rs_v (v_add rfl rfl (by omega) (by omega)) rfl ?_
  refine rM rfl rfl ?_
  refine rs_nil ?_
  refine q_lp (ks.length - (k + 1)) [(3, _), (6, _), (7, _), (8, _)] (by omega) ⟨rfl, rfl, rfl, rfl, trivial⟩ ⟨k + 1, v5, n + 1, by omega, rfl, rfl, K, ?_, ?_⟩
  · rw [take_snoc' hsk]; rw [List.length_append, ← hn]; rfl
  · rw [take_snoc' hsk]
    exact OutR.snoc cKey_st (n0low h) (by omega) hob hrow hF KL0 KL O5 K5 F5 rfl (show _ = _ from rfl)
theorem stab_skip {A : Nat → Prop} {h h2 ha h3 : Heap} {b0 : Nat} (hA : Low A h) (S0 : h.size ≤ h2.size) (Za : h2.size ≤ ha.size) (K3 : Keep [b0] ha h3) (h1 : h.size ≤ b0) (h2' : b0 < h2.size) : Stab (Up A h2 ha) ha h3 :=
  K3.stab fun b hb => ⟨(hA.mono S0).up Za b hb, by
    rcases hb with hb | hb
    · have := hA b hb; simp; omega
    · simp; omega⟩
theorem c_span (χ : Chi) (h : Heap) (A : Nat → Prop) (hA : Low A h) (s : SpanD) (kv : Value) (hks : RKeys A h kv s.ks) (hm : SpanD.small s) :
    Cl Tryz.prog χ 67 #[.agg #[.string s.s, .string s.e, kv]] h
      (fun r h' => (∃ sv ev kv', r = .agg #[sv, ev, kv', .int .i8 0] ∧ RBytes (Up N0 h h') h' sv s.s ∧ RBytes (Up N0 h h') h' ev s.e ∧ PKeys (Up N0 h h') h' kv' s.ks) ∧ Keep [] h h') := by
  obtain ⟨ka, kc, rfl⟩ := hks.form2
  refine cl_intro Tryz.func67 rfl rfl rfl ?_
  have K : Keep [] h h := Keep.refl _ _
  refine rG <| rs_w (w_newbox rfl) rfl ?_
  rintro _ h1 ⟨rfl, B1, K1, Z1⟩
  have S1 := K.1; have K := K.new0 K1
  refine rs_w (w_new zero_keyspan_Span) rfl ?_
  rintro _ h2 ⟨rfl, B2, K2, Z2⟩
  have B1 := K2.blk (by simp) B1
  have S2 := K.1; have K := K.new0 K2
  refine rN ?_
  refine tr_seq ?_
  have S0 : h.size ≤ h2.size := K.1
  have hA2 := hA.mono S0
  refine tr_draw [(true, 10), (false, 1)] _ (by kernel_rfl) (by kernel_rfl) (by kernel_rfl) ?_
  refine rx_any (Keep []) (keep_pre _) ?_
  refine rm_v (keep_pre _) (fun h' hk => v_fieldAddr fa_impl_Span_0 rfl) ?_
  refine rm_v (keep_pre _) (fun h' hk => v_load one_string rfl (Blk.cell (hk.blk (by simp) B1) _ rfl)) ?_
  refine rm_w (fun v h' => RBytes (Up N0 h2 h') h' v s.s) (fun v _ _ k1 k2 hr => upb (n0low _) k1.1 hr k2) (fun h' hk => OpW.mono (w_bytes u_string u_sl_uint8 u_uint8 rfl hm.1) (fun v h'' hv => by
    obtain ⟨c, e, K', r⟩ := hv
    exact ⟨K', r.mono (fun b hb => .inr ⟨by have := hk.1; omega, hb.2⟩)⟩)) ?_
  refine rm_v (keep_pre _) (fun h' hk => v_fieldAddr fa_impl_Span_1 rfl) ?_
  refine rm_v (keep_pre _) (fun h' hk => v_load one_string rfl (Blk.cell (hk.blk (by simp) B1) _ rfl)) ?_
  refine rm_w (fun v h' => RBytes (Up N0 h2 h') h' v s.e) (fun v _ _ k1 k2 hr => upb (n0low _) k1.1 hr k2) (fun h' hk => OpW.mono (w_bytes u_string u_sl_uint8 u_uint8 rfl hm.2.1) (fun v h'' hv => by
    obtain ⟨c, e, K', r⟩ := hv
    exact ⟨K', r.mono (fun b hb => .inr ⟨by have := hk.1; omega, hb.2⟩)⟩)) ?_
  refine rm_v (keep_pre _) (fun h' hk => v_fieldAddr fa_impl_Span_2 rfl) ?_
  refine rm_v (keep_pre _) (fun h' hk => v_load one_sl_impl_SpanKey rfl (Blk.cell (hk.blk (by simp) B1) _ rfl)) ?_
  refine rm_w (fun v h' => PKeys (Up N0 h2 h') h' v s.ks) (fun v _ _ k1 k2 hr => upp (n0low _) k1.1 hr k2) (fun h' hk => OpW.mono (w_call (vs := [_]) ok_impl_spanKeys rfl ⟨rfl, trivial⟩ (c_spanKeys χ h' A (hA.mono (K.new0 hk).1) _ s.ks (hks.stab ((K.new0 hk).st hA)) hm.2.2.1 hm.2.2.2)) (fun v h'' hv => ⟨hv.2, hv.1.mono (Up.trans2 hk.1 (Nat.le_refl _))⟩)) ?_
  refine rm_o3 5 8 11 (fun v h' => ∃ sv ev kv', v = .agg #[sv, ev, kv', .int .i8 0] ∧ RBytes (Up N0 h2 h') h' sv s.s ∧ RBytes (Up N0 h2 h') h' ev s.e ∧ PKeys (Up N0 h2 h') h' kv' s.ks) rfl rfl rfl rfl rfl rfl (by kernel_rfl) (by kernel_rfl) (by kernel_rfl)
    (fun v _ _ k1 k2 hr => by obtain ⟨a, b, c, e, r1, r2, r3⟩ := hr; exact ⟨a, b, c, e, upb (n0low _) k1.1 r1 k2, upb (n0low _) k1.1 r2 k2, upp (n0low _) k1.1 r3 k2⟩)
    (fun u u2 u3 h' hk hu hu2 hu3 => by
      obtain ⟨a1, n1, c1, rfl⟩ := hu.form2
      obtain ⟨a2, n2, c2, rfl⟩ := hu2.form2
      obtain ⟨a3, n3, c3, rfl⟩ := hu3.form2
      exact (v_build3 rfl rfl rfl (bld_keyspan_Span_0_1_2 _ _ _ _ _ _ _ _ _)).w.mono (fun _ _ e => by obtain ⟨e1, e2⟩ := e; subst e1; subst e2; exact ⟨Keep.refl _ _, _, _, _, rfl, hu, hu2, hu3⟩)) ?_
  refine rm_end ?_; intro ha Ka; simp only [endM, hypF, ofE, argE, List.nil_append]
  intro v12 hv12 v11 _ v8 _ v5 _
  obtain ⟨sv, ev, kv', rfl, r1, r2, r3⟩ := hv12
  obtain ⟨a1, n1, c1, rfl⟩ := r1.form2
  obtain ⟨a2, n2, c2, rfl⟩ := r2.form2
  obtain ⟨a3, n3, c3, rfl⟩ := r3.form2
  have B2 := Ka.blk (by simp) B2
  have K := K.new0 Ka; have Za := Ka.1
  refine rx_seq ?_
  refine rs_w0 (w_put siz_keyspan_Span rfl rfl rfl rfl B2 rfl) ?_
  rintro _ h3 ⟨B3, K3⟩
  have K := K.new1 K3 (.inr (by omega))
  refine rs_nil ?_
  refine q_con ?_
  refine rx_nil ?_
  refine q_thn ?_
  refine tr_ret <| q_ret (res_cell (vs := [_, _, _, _]) rfl rfl many_keyspan_Span (by exact B3.sub 0 4 rfl)) ?_
  have hs := stab_skip (n0low h) S0 Za K3 (by omega) (by omega)
  exact ⟨⟨_, _, _, rfl, (r1.stab hs).mono (Up.trans2 S0 K3.1), (r2.stab hs).mono (Up.trans2 S0 K3.1), (r3.stab hs).mono (Up.trans2 S0 K3.1)⟩, K⟩
theorem c_spans (χ : Chi) (h : Heap) (A : Nat → Prop) (hA : Low A h) (v : Value) (W : List SpanD) (hW : RSpans A h v W) (hn : W.length ≤ 100000) (hm : ∀ s, s ∈ W → SpanD.small s) :
    Cl Tryz.prog χ 65 #[v] h (fun r h' => PSpans (Up N0 h h') h' r W ∧ Keep [] h h') := by
  obtain ⟨hlen, a, c, rfl, hx⟩ := hW.form
  refine cl_intro Tryz.func65 rfl rfl rfl ?_
  have K : Keep [] h h := Keep.refl _ _
  refine rG <| rA rfl rfl <| rN <| rG <| rA rfl rfl <| rN ?_
  refine tr_seq ?_
  refine rG <| rM rfl rfl <| rs_v (v_len u_sl_impl_Span rfl) rfl ?_
  refine rM rfl rfl <| rN <| tr_block ?_
  refine tr_loop (fun m E h' => ∃ k v n, k ≤ W.length ∧ m = W.length - k ∧ E = [(3, v), (6, .slice a W.length c), (7, .int .i64 (W.length : Int)), (8, .int .i64 (k : Int))] ∧ Keep [] h h' ∧ n = (W.take k).length ∧ OutR N0 h h' h.size 89 4 cPSpan v n (W.take k)) W.length [(3, _), (6, _), (7, _), (8, _)] ⟨rfl, rfl, rfl, rfl, trivial⟩ ⟨0, _, 0, Nat.zero_le _, rfl, rfl, K, rfl, OutR.nil _ _ _ _ _ _ _⟩ ?_
  rintro m E hL1 ⟨k, v, n, hk, rfl, rfl, K, hn, hout⟩
  have hout0 := hout
  obtain ⟨xs, F, O, hrow, hF⟩ := hout
  have hob := own_ne O; have KL := Keep.refl [] hL1
  refine rG <| rs_v (v_lt rfl rfl) rfl ?_
  refine rN ?_
  refine tr_seq ?_
  refine tr_ifn rfl (fun hif => ?_) (fun hif => ?_)
  · -- no
    simp only [dT, dF] at hif
    have hkk : k = W.length := by omega
    subst hkk
    refine tr_exit <| q_thn_exit ?_
    refine q_lp_exit ?_
    refine q_blk_hit ?_
    refine q_thn ?_
    refine rG <| rM rfl rfl <| rA rfl rfl <| rN <| tr_ret <| q_ret (res_tmp rfl rfl) ?_
    rw [List.take_length] at hout0 hn
    exact ⟨hout0.fin cPSpan_st hn (Nat.le_refl _) cPSpan_r, K⟩
  -- yes
  simp only [dT, dF] at hif
  rcases hx with rfl | ⟨b, o, rfl, hAb, hR⟩
  · simp at hif; omega
  obtain ⟨x, hsk⟩ := ex_get (L := W) (k := k) (by omega)
  have hkl : k < W.length := (List.getElem?_eq_some_iff.1 hsk).1
  have KL0 := K.1
  obtain ⟨kv, hcc, hkx⟩ := hR k x hsk
  obtain ⟨ka, kc, rfl⟩ := hkx.form2
  have hcells := K.cells (by simp) hcc
  have hnk : n = k := by rw [hn, List.length_take]; omega
  refine tr_skip ?_
  refine q_thn ?_
  refine tr_seq ?_
  refine tr_block <| rG <| rs_v (v_indexAddrN u_sl_impl_Span siz_impl_Span rfl rfl (by omega)) rfl ?_
  refine rs_v (v_loadAgg (vs := [_, _, _]) many_impl_Span rfl (by exact hcells)) rfl ?_
  refine rs_w (w_new zero_impl_Span) rfl ?_
  rintro _ h2 ⟨rfl, B2, K2, Z2⟩
  have O := O.keep2 K2 (fun x hm => by have := hob x hm; simp; try omega)
  have S2 := K.1; have K := K.new0 K2; have KL := KL.new0 K2
  refine rs_w0 (w_put siz_impl_Span rfl rfl rfl rfl B2 rfl) ?_
  rintro _ h3 ⟨B3, K3⟩
  have O := O.keep2 K3 (fun x hm => by have := hob x hm; simp; try omega)
  have B2 := B3; have K := K.new1 K3 (by first | (right; omega) | (left; simp; done)); have Z3 := K3.1; have KL := KL.new1 K3 (.inr (by omega))
  refine rN ?_
  refine tr_reg ?_
  refine rM rfl rfl <| rs_v (v_loadAgg (vs := [_, _, _]) many_impl_Span rfl (by exact B2.sub _ 3 rfl)) rfl ?_
  refine rs_w (w_call (vs := [_]) ok_impl_Span_span rfl ⟨rfl, trivial⟩ (c_span χ _ A (hA.mono (by omega)) x _ (hkx.stab (K.st hA)) (hm x (List.mem_of_getElem? hsk)))) rfl ?_
  rintro _ h4 ⟨⟨sv, ev, kv4, rfl, r1, r2, r3⟩, K4⟩
  obtain ⟨a1, n1, c1, rfl⟩ := r1.form2
  obtain ⟨a2, n2, c2, rfl⟩ := r2.form2
  obtain ⟨a3, n3, c3, rfl⟩ := r3.form2
  have B2 := K4.blk (by simp) B2
  have O := O.keep2 K4 (fun x hm => by have := hob x hm; simp; try omega)
  have K := K.new0 K4; have Z4 := K4.1; have KL := KL.new0 K4
  refine rs_w (w_new1 u_sl_keyspan_Span siz_keyspan_Span zero_keyspan_Span rfl rfl rfl rfl rfl) rfl ?_
  rintro _ h5 ⟨rfl, B5, K5, Z5⟩
  have B2 := K5.blk (by simp) B2
  have O := O.keep2 K5 (fun x hm => by have := hob x hm; simp; try omega)
  have S5 := K.1; have K := K.new0 K5; have KL := KL.new0 K5
  refine rs_w (w_app1 u_sl_keyspan_Span info_keyspan_Span rfl rfl rfl O rfl rfl B5 rfl (by omega) (by omega) (by omega)) rfl ?_
  rintro v6 h6 ⟨O6, K6, N6, F6⟩
  have K := K.newX K6 (fun x hm => .inr (by have := hob x hm; omega)); have Z6 := K6.1
  have B2 := K6.blk (fun hm => by first | (have := hob _ hm; omega) | exact absurd rfl (hnb _ hm)) B2
  have B5 := K6.blk (fun hm => by first | (have := hob _ hm; omega) | exact absurd rfl (hnb _ hm)) B5
  refine rA rfl rfl ?_
  refine rs_nil ?_
  refine q_blk_n ?_
  refine q_thn ?_
  refine tr_reg ?_
  refine rs_v (v_add rfl rfl (by omega) (by omega)) rfl ?_
  refine rM rfl rfl ?_
  refine rs_nil ?_
  refine q_lp (W.length - (k + 1)) [(3, _), (6, _), (7, _), (8, _)] (by omega) ⟨rfl, rfl, rfl, rfl, trivial⟩ ⟨k + 1, v6, n + 1, by omega, rfl, rfl, K, ?_, ?_⟩
  · rw [take_snoc' hsk]; rw [List.length_append, ← hn]; rfl
  · rw [take_snoc' hsk]
    exact OutR.snoc cPSpan_st (n0low h) (by omega) hob hrow hF KL0 KL O6 K6 F6 rfl (⟨_, _, _, 0, rfl, (r1.stab (K5.st ((n0low _).up K4.1))).mono (Up.trans2 (by omega) K5.1), (r2.stab (K5.st ((n0low _).up K4.1))).mono (Up.trans2 (by omega) K5.1), (r3.stab (K5.st ((n0low _).up K4.1))).mono (Up.trans2 (by omega) K5.1)⟩)
theorem c_plainSpan (χ : Chi) (h : Heap) (A : Nat → Prop) (hA : Low A h) (s : SpanD) (sv ev kv : Value) (kk : Int) (r1 : RBytes A h sv s.s) (r2 : RBytes A h ev s.e) (r3 : PKeys A h kv s.ks) (hn : s.ks.length ≤ 100000) :
    Cl Tryz.prog χ 49 #[.agg #[sv, ev, kv, .int .i8 0]] h (fun r h' => (∃ kv', r = .agg #[.string s.s, .string s.e, kv'] ∧ RKeys (Up N0 h h') h' kv' s.ks) ∧ Keep [] h h') := by
  obtain ⟨a1, n1, c1, rfl⟩ := r1.form2
  obtain ⟨a2, n2, c2, rfl⟩ := r2.form2
  obtain ⟨a3, n3, c3, rfl⟩ := r3.form2
  refine cl_intro Tryz.func49 rfl rfl rfl ?_
  have K : Keep [] h h := Keep.refl _ _
  refine rG <| rs_w (w_newbox rfl) rfl ?_
  rintro _ h1 ⟨rfl, B1, K1, Z1⟩
  have S1 := K.1; have K := K.new0 K1
  refine rs_w (w_new zero_impl_Span) rfl ?_
  rintro _ h2 ⟨rfl, B2, K2, Z2⟩
  have B1 := K2.blk (by simp) B1
  have S2 := K.1; have K := K.new0 K2
  refine rN ?_
  refine tr_seq ?_
  have S0 : h.size ≤ h2.size := K.1
  have hA2 := hA.mono S0
  refine tr_draw [(true, 10), (false, 1)] _ (by kernel_rfl) (by kernel_rfl) (by kernel_rfl) ?_
  refine rx_any (Keep []) (keep_pre _) ?_
  refine rm_v (keep_pre _) (fun h' hk => v_fieldAddr fa_keyspan_Span_0 rfl) ?_
  refine rm_v (keep_pre _) (fun h' hk => v_load one_sl_uint8 rfl (Blk.cell (hk.blk (by simp) B1) _ rfl)) ?_
  refine rm_v (keep_pre _) (fun h' hk => v_toStr u_sl_uint8 u_uint8 u_string rfl (RBytes.by (r1.stab ((K.new0 hk).st hA)))) ?_
  refine rm_v (keep_pre _) (fun h' hk => v_fieldAddr fa_keyspan_Span_1 rfl) ?_
  refine rm_v (keep_pre _) (fun h' hk => v_load one_sl_uint8 rfl (Blk.cell (hk.blk (by simp) B1) _ rfl)) ?_
  refine rm_v (keep_pre _) (fun h' hk => v_toStr u_sl_uint8 u_uint8 u_string rfl (RBytes.by (r2.stab ((K.new0 hk).st hA)))) ?_
  refine rm_v (keep_pre _) (fun h' hk => v_fieldAddr fa_keyspan_Span_2 rfl) ?_
  refine rm_v (keep_pre _) (fun h' hk => v_load one_sl_keyspan_Key rfl (Blk.cell (hk.blk (by simp) B1) _ rfl)) ?_
  refine rm_w (fun v h' => RKeys (Up N0 h2 h') h' v s.ks) (fun v _ _ k1 k2 hr => upk (n0low _) k1.1 hr k2) (fun h' hk => OpW.mono (w_call (vs := [_]) ok_impl_plainKeys rfl ⟨rfl, trivial⟩ (c_plainKeys χ h' A (hA.mono (K.new0 hk).1) _ s.ks (r3.stab ((K.new0 hk).st hA)) hn)) (fun v h'' hv => ⟨hv.2, hv.1.mono (Up.trans2 hk.1 (Nat.le_refl _))⟩)) ?_
  refine rm_o 11 (fun v h' => ∃ kv', v = .agg #[.string s.s, .string s.e, kv'] ∧ RKeys (Up N0 h2 h') h' kv' s.ks) rfl (by kernel_rfl) (fun v _ _ k1 k2 hr => by obtain ⟨kv', e, hr⟩ := hr; exact ⟨kv', e, upk (n0low _) k1.1 hr k2⟩) (fun u h' hk hu => by
    obtain ⟨a, c, rfl⟩ := hu.form2
    exact (v_build3 rfl rfl rfl (bld_impl_Span_0_1_2 _ _ _ _ _)).w.mono (fun _ _ e => by obtain ⟨e1, e2⟩ := e; subst e1; subst e2; exact ⟨Keep.refl _ _, _, rfl, hu⟩)) ?_
  refine rm_end ?_; intro ha Ka; simp only [endM, hypF, ofE, argE, List.nil_append]
  intro v12 hv12 v11 _
  obtain ⟨kv', rfl, hkv⟩ := hv12
  obtain ⟨ka', kc', rfl⟩ := hkv.form2
  have B2 := Ka.blk (by simp) B2
  have K := K.new0 Ka; have Za := Ka.1
  refine rx_seq ?_
  refine rs_w0 (w_put siz_impl_Span rfl rfl rfl rfl B2 rfl) ?_
  rintro _ h3 ⟨B3, K3⟩
  have K := K.new1 K3 (.inr (by omega))
  refine rs_nil ?_
  refine q_con ?_
  refine rx_nil ?_
  refine q_thn ?_
  refine tr_ret <| q_ret (res_cell (vs := [_, _, _]) rfl rfl many_impl_Span (by exact B3.sub 0 3 rfl)) ?_
  have hs := stab_skip (n0low h) S0 Za K3 (by omega) (by omega)
  exact ⟨⟨_, rfl, (hkv.stab hs).mono (Up.trans2 S0 K3.1)⟩, K⟩
def cmpF : Value := .func (.func 79) #[] #[]
def itL (sv : Value) (x : Int) : List Value := [cmpF, sv, .int .i64 x]
theorem c_Compare (χ : Chi) (h : Heap) (a b : Value) (s u : ByteArray) (ha : RBy h a s) (hb : RBy h b u) :
    Cl Tryz.prog χ 79 #[a, b] h (fun r h' => r = .int .i64 (cmpB s u) ∧ h' = h) := by
  refine cl_intro Tryz.func79 rfl rfl rfl ?_
  have K : Keep [] h h := Keep.refl _ _
  refine rG <| rA rfl rfl <| rN <| rG <| rM rfl rfl <| rM rfl rfl <| rs_v (v_cmp (s := s) (u := u) Tryz.func112 (by kernel_rfl) (by kernel_rfl) (by kernel_rfl) (by kernel_rfl) rfl rfl rfl ha hb) rfl ?_
  refine rA rfl rfl <| rN <| tr_ret <| q_ret (res_tmp rfl rfl) ?_
  exact ⟨rfl, rfl⟩
theorem c_DefaultComparer (χ : Chi) (h : Heap) :
    Cl Tryz.prog χ 43 #[] h (fun r h' => r = .pointer (some ⟨h.size, 0, none⟩) ∧ (∃ rest, Blk h' h.size (cmpF :: rest) 136) ∧ Keep [] h h') := by
  refine cl_intro Tryz.func43 rfl rfl rfl ?_
  have K : Keep [] h h := Keep.refl _ _
  refine rG <| rA rfl rfl <| rN <| rG <| rs_v (v_buildN (us := [_, _, _, _, _, _, _]) ⟨rfl, rfl, rfl, rfl, rfl, rfl, rfl, trivial⟩ (bld_base_Comparer_0_1_2_4_6_7_8 _ _ _ _ _ _ _ _ _ _ _ _ _ _ _ _ _ _ _)) rfl ?_
  refine rs_w (w_newbox rfl) rfl ?_
  rintro _ h1 ⟨rfl, B1, K1, Z1⟩
  have S1 := K.1; have K := K.new0 K1
  refine rA rfl rfl <| rN <| tr_ret <| q_ret (res_tmp rfl rfl) ?_
  exact ⟨rfl, ⟨_, B1⟩, K⟩
theorem c_Init (χ : Chi) (h : Heap) (c : Nat) (a : Option Addr) (n cc : Nat) (f : Value) (T : TypeId) (s2 : Value) (x : Int) (Bc : Blk h c [f, s2, .int .i64 x] T) :
    Cl Tryz.prog χ 101 #[.pointer (some ⟨c, 0, none⟩), cmpF, .slice a n cc] h (fun r h' => r = .tuple #[] ∧ Blk h' c (itL (.slice a n cc) (-1)) T ∧ Keep [c] h h') := by
  unfold cmpF
  refine cl_intro Tryz.func101 rfl rfl rfl ?_
  have K : Keep [c] h h := Keep.refl _ _
  refine tr_reg ?_
  refine rM rfl rfl <| rM rfl rfl <| rM rfl rfl <| rs_v (v_build3 rfl rfl rfl (bld_keyspan_Iter_0_1_2 _ _ _ _ _ _ _)) rfl ?_
  refine rC rfl rfl <| rs_w0 (w_put siz_keyspan_Iter rfl rfl rfl rfl Bc rfl) ?_
  rintro _ h1 ⟨B1, K1⟩
  have Bc := B1; have K := K.new1 K1 (by first | (right; omega) | (left; simp; done)); have Z1 := K1.1
  refine rs_nil ?_
  refine q_end (res_none rfl) ?_
  exact ⟨rfl, Bc, K⟩
theorem c_NewIter (χ : Chi) (h : Heap) (a : Option Addr) (n cc : Nat) :
    Cl Tryz.prog χ 64 #[cmpF, .slice a n cc] h (fun r h' => r = .pointer (some ⟨h.size, 0, none⟩) ∧ Blk h' h.size (itL (.slice a n cc) (-1)) 208 ∧ Keep [] h h') := by
  refine cl_intro Tryz.func64 rfl rfl rfl ?_
  have K : Keep [] h h := Keep.refl _ _
  refine rG <| rA rfl rfl <| rN <| rG <| rs_v (v_build0 (bld_keyspan_Iter_)) rfl ?_
  refine rs_w (w_newbox rfl) rfl ?_
  rintro _ h1 ⟨rfl, B1, K1, Z1⟩
  have S1 := K.1; have K := K.new0 K1
  refine rA rfl rfl <| rN <| rG <| rM rfl rfl <| rM rfl rfl <| rM rfl rfl <| rs_w (w_call (vs := [_, _, _]) ok_keyspan_Iter_Init rfl ⟨rfl, rfl, rfl, trivial⟩ (c_Init χ _ _ a n cc _ _ _ _ B1)) rfl ?_
  rintro _ h2 ⟨rfl, Bc, K2⟩
  have K := K.new1 K2 (.inr (Nat.le_refl _)); have Z2 := K2.1
  refine rN <| rG <| rM rfl rfl <| rA rfl rfl <| rN <| tr_ret <| q_ret (res_tmp rfl rfl) ?_
  exact ⟨rfl, Bc, K⟩
def RetI (a : Option Addr) (p : Pos) (r : Value) : Prop := match p with
  | .pt j => ∃ b o, a = some ⟨b, o, none⟩ ∧ r = .pointer (some ⟨b, o + j * 4, none⟩)
  | _ => r = .pointer none
theorem RBytes.lowen {A : Nat → Prop} {h : Heap} {v : Value} {s : ByteArray} (hr : RBytes A h v s) : RBytes (fun b => A b ∧ b < h.size) h v s := by
  obtain ⟨hl, a, c, e, hx⟩ := hr
  exact ⟨hl, a, c, e, fun i x hi => by obtain ⟨b, o, e1, e2, e3⟩ := hx i x hi; exact ⟨b, o, e1, ⟨⟨e2.1, cellH_lt e3⟩, e2.2⟩, e3⟩⟩
theorem c_ItFirst (χ : Chi) (h : Heap) (c : Nat) (a : Option Addr) (cc : Nat) (W : List SpanD) (T : TypeId) (hn : W.length ≤ 100000) (x : Int) (ha : W = [] ∨ ∃ b o, a = some ⟨b, o, none⟩) (Bc : Blk h c (itL (.slice a W.length cc) x) T) :
    Cl Tryz.prog χ 189 #[.pointer (some ⟨c, 0, none⟩)] h (fun r h' => ∃ x', Blk h' c (itL (.slice a W.length cc) x') T ∧ posX W.length (pFirst W) x' ∧ Keep [c] h h' ∧ RetI a (pFirst W) r) := by
  refine cl_intro Tryz.func189 rfl rfl rfl ?_
  have K : Keep [c] h h := Keep.refl _ _
  refine rG <| rA rfl rfl <| rN ?_
  refine tr_seq ?_
  refine rG <| rM rfl rfl <| rC rfl rfl <| rF fa_keyspan_Iter_1 rfl rfl <| rs_v (v_load one_sl_keyspan_Span rfl (by exact Bc.cell _ rfl)) rfl ?_
  refine rs_v (v_len u_sl_keyspan_Span rfl) rfl ?_
  refine rs_v (v_eq rfl rfl) rfl ?_
  refine rN ?_
  refine tr_if rfl (fun hif => ?_) (fun hif => ?_)
  · -- yes
    simp only [dT, dF] at hif
    refine rG <| rA rfl rfl <| rN <| tr_ret <| q_thn_ret <| q_ret (res_tmp rfl rfl) ?_
    have hl : W.length = 0 := by omega
    refine ⟨x, Bc, ?_, K, ?_⟩ <;> simp [pFirst, hl, posX, RetI]
  -- no
  simp only [dT, dF] at hif
  have hlen : W.length ≠ 0 := by omega
  rcases ha with rfl | ⟨b, o, rfl⟩
  · simp at hlen
  refine tr_skip ?_
  refine q_thn ?_
  refine rG <| rM rfl rfl <| rC rfl rfl <| rF fa_keyspan_Iter_2 rfl rfl <| rs_w0 (w_put siz_int rfl rfl rfl rfl Bc rfl) ?_
  rintro _ h1 ⟨B1, K1⟩
  have Bc := B1; have K := K.new1 K1 (by first | (right; omega) | (left; simp; done)); have Z1 := K1.1
  refine rN ?_
  refine tr_seq ?_
  refine tr_quiet (by kernel_rfl) (by kernel_rfl) ?_
  refine rq_v (v_move rfl) <| rq_v (v_nilCheck_ptr rfl) <| rq_v (v_fieldAddr fa_keyspan_Iter_1 rfl) <| rq_v (v_load one_sl_keyspan_Span rfl (by exact Bc.cell _ rfl)) ?_
  refine rq_v (v_move rfl) <| rq_v (v_nilCheck_ptr rfl) <| rq_v (v_fieldAddr fa_keyspan_Iter_2 rfl) <| rq_v (v_load one_int rfl (by exact Bc.cell _ rfl)) ?_
  refine rq_v (v_indexAddrE u_sl_keyspan_Span siz_keyspan_Span rfl rfl (i := 0) (by omega) (by omega)) ?_
  refine rq_v (v_assign rfl) ?_
  refine rm_end ?_; simp only [endM, hypF, ofE, argE]
  refine q_thn ?_
  refine tr_ret <| q_ret (res_tmp rfl rfl) ?_
  refine ⟨0, Bc, ?_, K, ?_⟩
  · simp [pFirst, hlen, posX]; omega
  · simp only [pFirst, if_neg hlen, RetI]; exact ⟨b, o, rfl, rfl⟩
theorem c_ItLast (χ : Chi) (h : Heap) (c : Nat) (a : Option Addr) (cc : Nat) (W : List SpanD) (T : TypeId) (hn : W.length ≤ 100000) (x : Int) (ha : W = [] ∨ ∃ b o, a = some ⟨b, o, none⟩) (Bc : Blk h c (itL (.slice a W.length cc) x) T) :
    Cl Tryz.prog χ 190 #[.pointer (some ⟨c, 0, none⟩)] h (fun r h' => ∃ x', Blk h' c (itL (.slice a W.length cc) x') T ∧ posX W.length (pLast W) x' ∧ Keep [c] h h' ∧ RetI a (pLast W) r) := by
  refine cl_intro Tryz.func190 rfl rfl rfl ?_
  have K : Keep [c] h h := Keep.refl _ _
  refine rG <| rA rfl rfl <| rN ?_
  refine tr_seq ?_
  refine rG <| rM rfl rfl <| rC rfl rfl <| rF fa_keyspan_Iter_1 rfl rfl <| rs_v (v_load one_sl_keyspan_Span rfl (by exact Bc.cell _ rfl)) rfl ?_
  refine rs_v (v_len u_sl_keyspan_Span rfl) rfl ?_
  refine rs_v (v_eq rfl rfl) rfl ?_
  refine rN ?_
  refine tr_if rfl (fun hif => ?_) (fun hif => ?_)
  · -- yes
    simp only [dT, dF] at hif
    refine rG <| rA rfl rfl <| rN <| tr_ret <| q_thn_ret <| q_ret (res_tmp rfl rfl) ?_
    have hl : W.length = 0 := by omega
    refine ⟨x, Bc, ?_, K, ?_⟩ <;> simp [pLast, hl, posX, RetI]
  -- no
  simp only [dT, dF] at hif
  have hlen : W.length ≠ 0 := by omega
  rcases ha with rfl | ⟨b, o, rfl⟩
  · simp at hlen
  refine tr_skip ?_
  refine q_thn ?_
  refine rG <| rM rfl rfl <| rM rfl rfl <| rC rfl rfl <| rF fa_keyspan_Iter_1 rfl rfl <| rs_v (v_load one_sl_keyspan_Span rfl (by exact Bc.cell _ rfl)) rfl ?_
  refine rs_v (v_len u_sl_keyspan_Span rfl) rfl ?_
  refine rs_v (v_sub rfl rfl (by omega) (by omega)) rfl ?_
  refine rC rfl rfl <| rF fa_keyspan_Iter_2 rfl rfl <| rs_w0 (w_put siz_int rfl rfl rfl rfl Bc rfl) ?_
  rintro _ h1 ⟨B1, K1⟩
  have Bc := B1; have K := K.new1 K1 (by first | (right; omega) | (left; simp; done)); have Z1 := K1.1
  refine rN ?_
  refine tr_seq ?_
  refine tr_quiet (by kernel_rfl) (by kernel_rfl) ?_
  refine rq_v (v_move rfl) <| rq_v (v_nilCheck_ptr rfl) <| rq_v (v_fieldAddr fa_keyspan_Iter_1 rfl) <| rq_v (v_load one_sl_keyspan_Span rfl (by exact Bc.cell _ rfl)) ?_
  refine rq_v (v_move rfl) <| rq_v (v_nilCheck_ptr rfl) <| rq_v (v_fieldAddr fa_keyspan_Iter_2 rfl) <| rq_v (v_load one_int rfl (by exact Bc.cell _ rfl)) ?_
  refine rq_v (v_indexAddrE u_sl_keyspan_Span siz_keyspan_Span rfl rfl (i := W.length - 1) (by omega) (by omega)) ?_
  refine rq_v (v_assign rfl) ?_
  refine rm_end ?_; simp only [endM, hypF, ofE, argE]
  refine q_thn ?_
  refine tr_ret <| q_ret (res_tmp rfl rfl) ?_
  refine ⟨_, Bc, ?_, K, ?_⟩
  · simp [pLast, hlen, posX]; omega
  · simp only [pLast, if_neg hlen, RetI]; exact ⟨b, o, rfl, rfl⟩
theorem c_ItNext (χ : Chi) (h : Heap) (c : Nat) (a : Option Addr) (cc : Nat) (W : List SpanD) (T : TypeId) (hn : W.length ≤ 100000) (x : Int) (i : Nat) (hi : x + 1 = i) (hin : i ≤ W.length) (ha : W = [] ∨ ∃ b o, a = some ⟨b, o, none⟩) (Bc : Blk h c (itL (.slice a W.length cc) x) T) :
    Cl Tryz.prog χ 191 #[.pointer (some ⟨c, 0, none⟩)] h (fun r h' => ∃ x', Blk h' c (itL (.slice a W.length cc) x') T ∧ posX W.length (if i < W.length then Pos.pt i else .behind) x' ∧ Keep [c] h h' ∧ RetI a (if i < W.length then Pos.pt i else .behind) r) := by
  refine cl_intro Tryz.func191 rfl rfl rfl ?_
  have K : Keep [c] h h := Keep.refl _ _
  refine rG <| rA rfl rfl <| rN ?_
  refine tr_seq ?_
  refine tr_seq ?_
  refine tr_quiet (by kernel_rfl) (by kernel_rfl) ?_
  refine rq_v (v_move rfl) <| rq_v (v_nilCheck_ptr rfl) <| rq_v (v_fieldAddr fa_keyspan_Iter_2 rfl) <| rq_v (v_load one_int rfl (by exact Bc.cell _ rfl)) ?_
  refine rq_v (v_move rfl) <| rq_v (v_nilCheck_ptr rfl) <| rq_v (v_fieldAddr fa_keyspan_Iter_1 rfl) <| rq_v (v_load one_sl_keyspan_Span rfl (by exact Bc.cell _ rfl)) ?_
  refine rq_v (v_len u_sl_keyspan_Span rfl) ?_
  refine rq_v (v_ge rfl rfl) ?_
  refine rm_end ?_; simp only [endM, hypF, ofE, argE]
  refine q_thn ?_
  refine tr_if_f (lkb (decide_eq_false (by omega))) ?_
  refine tr_skip ?_
  refine q_thn ?_
  refine rG <| rM rfl rfl <| rC rfl rfl <| rF fa_keyspan_Iter_2 rfl rfl <| rs_v (v_load one_int rfl (by exact Bc.cell _ rfl)) rfl ?_
  refine rs_v (v_add rfl rfl (by omega) (by omega)) rfl ?_
  refine rC rfl rfl <| rF fa_keyspan_Iter_2 rfl rfl <| rs_w0 (w_put siz_int rfl rfl rfl rfl Bc rfl) ?_
  rintro _ h1 ⟨B1, K1⟩
  have Bc := B1; have K := K.new1 K1 (by first | (right; omega) | (left; simp; done)); have Z1 := K1.1
  refine rN ?_
  refine tr_seq ?_
  refine tr_seq ?_
  refine tr_quiet (by kernel_rfl) (by kernel_rfl) ?_
  refine rq_v (v_move rfl) <| rq_v (v_nilCheck_ptr rfl) <| rq_v (v_fieldAddr fa_keyspan_Iter_2 rfl) <| rq_v (v_load one_int rfl (by exact Bc.cell _ rfl)) ?_
  refine rq_v (v_move rfl) <| rq_v (v_nilCheck_ptr rfl) <| rq_v (v_fieldAddr fa_keyspan_Iter_1 rfl) <| rq_v (v_load one_sl_keyspan_Span rfl (by exact Bc.cell _ rfl)) ?_
  refine rq_v (v_len u_sl_keyspan_Span rfl) ?_
  refine rq_v (v_ge rfl rfl) ?_
  refine rm_end ?_; simp only [endM, hypF, ofE, argE]
  refine q_thn ?_
  refine tr_if rfl (fun hif => ?_) (fun hif => ?_)
  · -- yes
    simp only [dT, dF] at hif
    refine rG <| rA rfl rfl <| rN <| tr_ret <| q_thn_ret <| q_ret (res_tmp rfl rfl) ?_
    have hl : ¬ i < W.length := by omega
    refine ⟨_, Bc, ?_, K, ?_⟩
    · rw [if_neg hl]; show x + 1 = _; omega
    · rw [if_neg hl]; rfl
  -- no
  simp only [dT, dF] at hif
  have hlen : W.length ≠ 0 := by omega
  rcases ha with rfl | ⟨b, o, rfl⟩
  · simp at hlen
  refine tr_skip ?_
  refine q_thn ?_
  refine tr_seq ?_
  refine tr_quiet (by kernel_rfl) (by kernel_rfl) ?_
  refine rq_v (v_move rfl) <| rq_v (v_nilCheck_ptr rfl) <| rq_v (v_fieldAddr fa_keyspan_Iter_1 rfl) <| rq_v (v_load one_sl_keyspan_Span rfl (by exact Bc.cell _ rfl)) ?_
  refine rq_v (v_move rfl) <| rq_v (v_nilCheck_ptr rfl) <| rq_v (v_fieldAddr fa_keyspan_Iter_2 rfl) <| rq_v (v_load one_int rfl (by exact Bc.cell _ rfl)) ?_
  refine rq_v (v_indexAddrE u_sl_keyspan_Span siz_keyspan_Span rfl rfl (i := i) (by omega) (by omega)) ?_
  refine rq_v (v_assign rfl) ?_
  refine rm_end ?_; simp only [endM, hypF, ofE, argE]
  refine q_thn ?_
  refine tr_ret <| q_ret (res_tmp rfl rfl) ?_
  have hl : i < W.length := by omega
  refine ⟨_, Bc, ?_, K, ?_⟩
  · rw [if_pos hl]; exact ⟨hi, by omega⟩
  · rw [if_pos hl]; exact ⟨b, o, rfl, rfl⟩
theorem c_ItPrev (χ : Chi) (h : Heap) (c : Nat) (a : Option Addr) (cc : Nat) (W : List SpanD) (T : TypeId) (hn : W.length ≤ 100000) (i : Nat) (hin : i ≤ W.length) (ha : W = [] ∨ ∃ b o, a = some ⟨b, o, none⟩) (Bc : Blk h c (itL (.slice a W.length cc) (i : Int)) T) :
    Cl Tryz.prog χ 192 #[.pointer (some ⟨c, 0, none⟩)] h (fun r h' => ∃ x', Blk h' c (itL (.slice a W.length cc) x') T ∧ posX W.length (if i = 0 then Pos.ahead else .pt (i - 1)) x' ∧ Keep [c] h h' ∧ RetI a (if i = 0 then Pos.ahead else .pt (i - 1)) r) := by
  refine cl_intro Tryz.func192 rfl rfl rfl ?_
  have K : Keep [c] h h := Keep.refl _ _
  refine rG <| rA rfl rfl <| rN ?_
  refine tr_seq ?_
  refine rG <| rM rfl rfl <| rC rfl rfl <| rF fa_keyspan_Iter_2 rfl rfl <| rs_v (v_load one_int rfl (by exact Bc.cell _ rfl)) rfl ?_
  refine rs_v (v_lt rfl rfl) rfl ?_
  refine rN <| tr_if_f (lkb (decide_eq_false (by omega))) ?_
  refine tr_skip ?_
  refine q_thn ?_
  refine rG <| rM rfl rfl <| rC rfl rfl <| rF fa_keyspan_Iter_2 rfl rfl <| rs_v (v_load one_int rfl (by exact Bc.cell _ rfl)) rfl ?_
  refine rs_v (v_sub rfl rfl (by omega) (by omega)) rfl ?_
  refine rC rfl rfl <| rF fa_keyspan_Iter_2 rfl rfl <| rs_w0 (w_put siz_int rfl rfl rfl rfl Bc rfl) ?_
  rintro _ h1 ⟨B1, K1⟩
  have Bc := B1; have K := K.new1 K1 (by first | (right; omega) | (left; simp; done)); have Z1 := K1.1
  refine rN ?_
  refine tr_seq ?_
  refine rG <| rM rfl rfl <| rC rfl rfl <| rF fa_keyspan_Iter_2 rfl rfl <| rs_v (v_load one_int rfl (by exact Bc.cell _ rfl)) rfl ?_
  refine rs_v (v_lt rfl rfl) rfl ?_
  refine rN ?_
  refine tr_if rfl (fun hif => ?_) (fun hif => ?_)
  · -- yes
    simp only [dT, dF] at hif
    refine rG <| rA rfl rfl <| rN <| tr_ret <| q_thn_ret <| q_ret (res_tmp rfl rfl) ?_
    have hl : i = 0 := by omega
    refine ⟨_, Bc, ?_, K, ?_⟩
    · rw [if_pos hl]; show (i : Int) - 1 = _; omega
    · rw [if_pos hl]; rfl
  -- no
  simp only [dT, dF] at hif
  have hlen : W.length ≠ 0 := by omega
  rcases ha with rfl | ⟨b, o, rfl⟩
  · simp at hlen
  refine tr_skip ?_
  refine q_thn ?_
  refine tr_seq ?_
  refine tr_quiet (by kernel_rfl) (by kernel_rfl) ?_
  refine rq_v (v_move rfl) <| rq_v (v_nilCheck_ptr rfl) <| rq_v (v_fieldAddr fa_keyspan_Iter_1 rfl) <| rq_v (v_load one_sl_keyspan_Span rfl (by exact Bc.cell _ rfl)) ?_
  refine rq_v (v_move rfl) <| rq_v (v_nilCheck_ptr rfl) <| rq_v (v_fieldAddr fa_keyspan_Iter_2 rfl) <| rq_v (v_load one_int rfl (by exact Bc.cell _ rfl)) ?_
  refine rq_v (v_indexAddrE u_sl_keyspan_Span siz_keyspan_Span rfl rfl (i := i - 1) (by omega) (by omega)) ?_
  refine rq_v (v_assign rfl) ?_
  refine rm_end ?_; simp only [endM, hypF, ofE, argE]
  refine q_thn ?_
  refine tr_ret <| q_ret (res_tmp rfl rfl) ?_
  have hl : ¬ i = 0 := by omega
  refine ⟨_, Bc, ?_, K, ?_⟩
  · rw [if_neg hl]; exact ⟨by omega, by omega⟩
  · rw [if_neg hl]; exact ⟨b, o, rfl, rfl⟩
theorem PSpans.stabI {G : Nat → Prop} {h h' : Heap} {v : Value} {W : List SpanD} {c : Nat} (hW : PSpans G h v W) (hG : ∀ b, G b → b < h.size ∧ b ≠ c) (K : Keep [c] h h') : PSpans G h' v W :=
  hW.stab (K.stab fun b hb => ⟨(hG b hb).1, by simpa using (hG b hb).2⟩)
theorem c_ItSeekGE (χ : Chi) (h : Heap) (c : Nat) (a : Option Addr) (cc : Nat) (W : List SpanD) (T : TypeId) (hn : W.length ≤ 100000) (x : Int) (Bc : Blk h c (itL (.slice a W.length cc) x) T) (G : Nat → Prop) (hW : PSpans G h (.slice a W.length cc) W) (hG : ∀ b, G b → b < h.size ∧ b ≠ c) (hO : Ord W) (kv : Value) (key : ByteArray) (hkey : RBytes (fun b => b ≠ c) h kv key) :
    Cl Tryz.prog χ 193 #[.pointer (some ⟨c, 0, none⟩), kv] h (fun r h' => ∃ x', Blk h' c (itL (.slice a W.length cc) x') T ∧ posX W.length (pGE W key) x' ∧ Keep [c] h h' ∧ RetI a (pGE W key) r) := by
  obtain ⟨_, a', c', e', hxW⟩ := hW.form
  cases e'
  refine cl_intro Tryz.func193 rfl rfl rfl ?_
  have K : Keep [c] h h := Keep.refl _ _
  refine rG <| rA rfl rfl <| rN <| rG <| rM rfl rfl <| rC rfl rfl <| rF fa_keyspan_Iter_2 rfl rfl <| rs_w0 (w_put siz_int rfl rfl rfl rfl Bc rfl) ?_
  rintro _ h1 ⟨B1, K1⟩
  have Bc := B1; have K := K.new1 K1 (by first | (right; omega) | (left; simp; done)); have Z1 := K1.1
  refine rN <| rG <| rM rfl rfl <| rC rfl rfl <| rF fa_keyspan_Iter_1 rfl rfl <| rs_v (v_load one_sl_keyspan_Span rfl (by exact Bc.cell _ rfl)) rfl ?_
  refine rs_v (v_len u_sl_keyspan_Span rfl) rfl ?_
  refine rA rfl rfl <| rN ?_
  refine tr_seq ?_
  refine tr_block ?_
  refine tr_loop (fun m E h' => ∃ lo hi hiI, hiI = ((hi : Nat) : Int) ∧ lo ≤ hi ∧ hi ≤ W.length ∧ m = hi - lo ∧ E = [(0, .pointer (some ⟨c, 0, none⟩)), (1, kv), (5, .int .i64 hiI)] ∧ Keep [c] h h' ∧ Blk h' c (itL (.slice a W.length cc) (lo : Int)) T ∧ (∀ (j : Nat) s, j < lo → W[j]? = some s → sle s.e key = true) ∧ (hi = W.length ∨ ∃ s, W[hi]? = some s ∧ sle s.e key = false)) W.length [(0, _), (1, _), (5, _)] ⟨rfl, rfl, rfl, trivial⟩ ⟨0, W.length, _, rfl, Nat.zero_le _, Nat.le_refl _, by omega, rfl, K, Bc, fun j s hj => by omega, .inl rfl⟩ ?_
  rintro m E hL2 ⟨lo, hi, hiI, hiE, hlh, hhi, rfl, rfl, K, Bc, hbe0, hab⟩
  subst hiE
  refine tr_seq ?_
  refine rG <| rM rfl rfl <| rC rfl rfl <| rF fa_keyspan_Iter_2 rfl rfl <| rs_v (v_load one_int rfl (by exact Bc.cell _ rfl)) rfl ?_
  refine rM rfl rfl <| rs_v (v_lt rfl rfl) rfl ?_
  refine rN ?_
  refine tr_ifn rfl (fun hif => ?_) (fun hif => ?_)
  · -- no
    simp only [dT, dF] at hif
    have hll : lo = hi := by omega
    subst hll
    have hg := geI_spec W key lo hbe0 hab
    refine tr_exit <| q_thn_exit ?_
    refine q_lp_exit ?_
    refine q_blk_hit ?_
    refine q_thn ?_
    refine tr_seq ?_
    refine tr_seq ?_
    refine tr_quiet (by kernel_rfl) (by kernel_rfl) ?_
    refine rq_v (v_move rfl) <| rq_v (v_nilCheck_ptr rfl) <| rq_v (v_fieldAddr fa_keyspan_Iter_2 rfl) <| rq_v (v_load one_int rfl (by exact Bc.cell _ rfl)) ?_
    refine rq_v (v_move rfl) <| rq_v (v_nilCheck_ptr rfl) <| rq_v (v_fieldAddr fa_keyspan_Iter_1 rfl) <| rq_v (v_load one_sl_keyspan_Span rfl (by exact Bc.cell _ rfl)) ?_
    refine rq_v (v_len u_sl_keyspan_Span rfl) ?_
    refine rq_v (v_ge rfl rfl) ?_
    refine rm_end ?_; simp only [endM, hypF, ofE, argE]
    refine q_thn ?_
    refine tr_if rfl (fun hif => ?_) (fun hif => ?_)
    · -- yes
      simp only [dT, dF] at hif
      refine rG <| rA rfl rfl <| rN <| tr_ret <| q_thn_ret <| q_ret (res_tmp rfl rfl) ?_
      have e : lo = W.length := by omega
      subst e
      rw [show pGE W key = .behind from by simp [pGE, hg]]
      exact ⟨_, Bc, rfl, K, rfl⟩
    -- no
    simp only [dT, dF] at hif
    rcases hxW with rfl | ⟨b, o, rfl, hGb, hR⟩
    · exfalso; simp only [List.length_nil] at *; omega
    refine tr_skip ?_
    refine q_thn ?_
    refine tr_seq ?_
    refine tr_quiet (by kernel_rfl) (by kernel_rfl) ?_
    refine rq_v (v_move rfl) <| rq_v (v_nilCheck_ptr rfl) <| rq_v (v_fieldAddr fa_keyspan_Iter_1 rfl) <| rq_v (v_load one_sl_keyspan_Span rfl (by exact Bc.cell _ rfl)) ?_
    refine rq_v (v_move rfl) <| rq_v (v_nilCheck_ptr rfl) <| rq_v (v_fieldAddr fa_keyspan_Iter_2 rfl) <| rq_v (v_load one_int rfl (by exact Bc.cell _ rfl)) ?_
    refine rq_v (v_indexAddrE u_sl_keyspan_Span siz_keyspan_Span rfl rfl (i := lo) rfl (by omega)) ?_
    refine rq_v (v_assign rfl) ?_
    refine rm_end ?_; simp only [endM, hypF, ofE, argE]
    refine q_thn ?_
    refine tr_ret <| q_ret (res_tmp rfl rfl) ?_
    have hl : lo < W.length := by omega
    rw [show pGE W key = .pt lo from by simp [pGE, hg, hl]]
    exact ⟨_, Bc, ⟨rfl, by omega⟩, K, ⟨b, o, rfl, rfl⟩⟩
  -- yes
  simp only [dT, dF] at hif
  obtain ⟨y, hy⟩ := ex_get (L := W) (k := (lo + hi) / 2) (by omega)
  have hml : (lo + hi) / 2 < W.length := (List.getElem?_eq_some_iff.1 hy).1
  rcases hxW with rfl | ⟨b, o, rfl, hGb, hR⟩
  · simp at hml
  obtain ⟨sv, ev, kv2, kk, hcell, r1, r2, r3⟩ := hR _ y hy
  have hSt : Stab G h hL2 := K.stab fun b hb => ⟨(hG b hb).1, by simpa using (hG b hb).2⟩
  have hend := hSt.cells hGb hcell
  have hbe := RBytes.by (r2.stab hSt)
  have hke : RBy hL2 kv key := RBytes.by ((RBytes.lowen hkey).stab (K.stab fun b hb => ⟨hb.2, by simpa using hb.1⟩))
  refine tr_skip ?_
  refine q_thn ?_
  refine tr_block <| rG <| rM rfl rfl <| rC rfl rfl <| rF fa_keyspan_Iter_2 rfl rfl <| rs_v (v_load one_int rfl (by exact Bc.cell _ rfl)) rfl ?_
  refine rM rfl rfl <| rs_v (v_add rfl rfl (by omega) (by omega)) rfl ?_
  refine rs_v (v_conv_u64 u_int u_uint rfl (by omega) (by omega)) rfl ?_
  refine rs_v (v_shr1 (k := .u64) rfl rfl) rfl ?_
  refine rs_v (v_conv_i64 u_uint u_int rfl (by omega) (by omega)) rfl ?_
  refine rA rfl rfl <| rN ?_
  refine tr_seq ?_
  refine tr_quiet (by kernel_rfl) (by kernel_rfl) ?_
  refine rq_v (v_move rfl) <| rq_v (v_nilCheck_ptr rfl) <| rq_v (v_fieldAddr fa_keyspan_Iter_0 rfl) <| rq_v (v_load one_base_Compare rfl (by exact Bc.cell _ rfl)) ?_
  refine rq_v (v_move rfl) <| rq_v (v_move rfl) <| rq_v (v_nilCheck_ptr rfl) <| rq_v (v_fieldAddr fa_keyspan_Iter_1 rfl) <| rq_v (v_load one_sl_keyspan_Span rfl (by exact Bc.cell _ rfl)) ?_
  refine rq_v (v_move rfl) <| rq_v (v_indexAddrE u_sl_keyspan_Span siz_keyspan_Span rfl rfl (i := (lo + hi) / 2) (by omega) (by omega)) ?_
  refine rq_v (v_fieldAddr fa_keyspan_Span_1 rfl) <| rq_v (v_load one_sl_uint8 rfl (by exact hend.at 1 rfl)) ?_
  refine rq_w (w_callv (first := []) (cap := []) (vs := [_, _]) ok_bytes_Compare rfl ⟨rfl, rfl, trivial⟩ (c_Compare χ _ _ _ key y.e hke hbe)) ?_
  refine rq_v (v_ge rfl rfl) ?_
  refine rm_end ?_; simp only [endM, hypF, ofE, argE]
  refine q_thn ?_
  refine tr_if rfl (fun hif => ?_) (fun hif => ?_)
  · -- yes
    simp only [dT, dF] at hif
    refine tr_reg ?_
    refine rM rfl rfl <| rM rfl rfl <| rs_v (v_add rfl rfl (by omega) (by omega)) rfl ?_
    refine rC rfl rfl <| rF fa_keyspan_Iter_2 rfl rfl <| rs_w0 (w_put siz_int rfl rfl rfl rfl Bc rfl) ?_
    rintro _ h3 ⟨B3, K3⟩
    have Bc := B3; have K := K.new1 K3 (by first | (right; omega) | (left; simp; done)); have Z3 := K3.1
    refine rs_nil ?_
    refine q_blk_n ?_
    refine q_lp (hi - ((lo + hi) / 2 + 1)) [(0, _), (1, _), (5, _)] (by omega) ⟨rfl, rfl, rfl, trivial⟩ ⟨(lo + hi) / 2 + 1, hi, _, rfl, by omega, hhi, rfl, rfl, K, ?_, ?_, hab⟩
    · have e : ((lo : Int) + hi) / 2 + 1 = (((lo + hi) / 2 + 1 : Nat) : Int) := by omega
      rw [← e]; exact Bc
    · intro j s hj hs
      have h1 : sle y.e key = true := by rw [sle_iff, cmpB_anti key y.e]; omega
      exact sle_trans (hO.ends (by omega) hs hy) h1
  -- no
  simp only [dT, dF] at hif
  refine tr_reg ?_
  refine rM rfl rfl <| rA rfl rfl ?_
  refine rs_nil ?_
  refine q_blk_n ?_
  refine q_lp ((lo + hi) / 2 - lo) [(0, _), (1, _), (5, _)] (by omega) ⟨rfl, rfl, rfl, trivial⟩ ⟨lo, (lo + hi) / 2, _, by omega, by omega, by omega, rfl, rfl, K, Bc, hbe0, .inr ⟨y, hy, ?_⟩⟩
  rw [sle_no, cmpB_anti key y.e]; omega
theorem c_ItSeekLT (χ : Chi) (h : Heap) (c : Nat) (a : Option Addr) (cc : Nat) (W : List SpanD) (T : TypeId) (hn : W.length ≤ 100000) (x : Int) (Bc : Blk h c (itL (.slice a W.length cc) x) T) (G : Nat → Prop) (hW : PSpans G h (.slice a W.length cc) W) (hG : ∀ b, G b → b < h.size ∧ b ≠ c) (hO : Ord W) (kv : Value) (key : ByteArray) (hkey : RBytes (fun b => b ≠ c) h kv key) :
    Cl Tryz.prog χ 194 #[.pointer (some ⟨c, 0, none⟩), kv] h (fun r h' => ∃ x', Blk h' c (itL (.slice a W.length cc) x') T ∧ posX W.length (pLT W key) x' ∧ Keep [c] h h' ∧ RetI a (pLT W key) r) := by
  obtain ⟨_, a', c', e', hxW⟩ := hW.form
  cases e'
  refine cl_intro Tryz.func194 rfl rfl rfl ?_
  have K : Keep [c] h h := Keep.refl _ _
  refine rG <| rA rfl rfl <| rN <| rG <| rM rfl rfl <| rC rfl rfl <| rF fa_keyspan_Iter_2 rfl rfl <| rs_w0 (w_put siz_int rfl rfl rfl rfl Bc rfl) ?_
  rintro _ h1 ⟨B1, K1⟩
  have Bc := B1; have K := K.new1 K1 (by first | (right; omega) | (left; simp; done)); have Z1 := K1.1
  refine rN <| rG <| rM rfl rfl <| rC rfl rfl <| rF fa_keyspan_Iter_1 rfl rfl <| rs_v (v_load one_sl_keyspan_Span rfl (by exact Bc.cell _ rfl)) rfl ?_
  refine rs_v (v_len u_sl_keyspan_Span rfl) rfl ?_
  refine rA rfl rfl <| rN ?_
  refine tr_seq ?_
  refine tr_block ?_
  refine tr_loop (fun m E h' => ∃ lo hi hiI, hiI = ((hi : Nat) : Int) ∧ lo ≤ hi ∧ hi ≤ W.length ∧ m = hi - lo ∧ E = [(0, .pointer (some ⟨c, 0, none⟩)), (1, kv), (5, .int .i64 hiI)] ∧ Keep [c] h h' ∧ Blk h' c (itL (.slice a W.length cc) (lo : Int)) T ∧ (∀ (j : Nat) s, j < lo → W[j]? = some s → slt s.s key = true) ∧ (hi = W.length ∨ ∃ s, W[hi]? = some s ∧ slt s.s key = false)) W.length [(0, _), (1, _), (5, _)] ⟨rfl, rfl, rfl, trivial⟩ ⟨0, W.length, _, rfl, Nat.zero_le _, Nat.le_refl _, by omega, rfl, K, Bc, fun j s hj => by omega, .inl rfl⟩ ?_
  rintro m E hL2 ⟨lo, hi, hiI, hiE, hlh, hhi, rfl, rfl, K, Bc, hbe0, hab⟩
  subst hiE
  refine tr_seq ?_
  refine rG <| rM rfl rfl <| rC rfl rfl <| rF fa_keyspan_Iter_2 rfl rfl <| rs_v (v_load one_int rfl (by exact Bc.cell _ rfl)) rfl ?_
  refine rM rfl rfl <| rs_v (v_lt rfl rfl) rfl ?_
  refine rN ?_
  refine tr_ifn rfl (fun hif => ?_) (fun hif => ?_)
  · -- no
    simp only [dT, dF] at hif
    have hll : lo = hi := by omega
    subst hll
    have hg : ltI W key = lo := by
      refine ltI_spec W key lo (fun j s hj hs => ?_) ?_
      · rcases hab with he | ⟨t, ht, hts⟩
        · have := (List.getElem?_eq_some_iff.1 hs).1; omega
        · rw [not_slt] at hts ⊢
          exact sle_trans hts (hO.starts hj ht hs)
      · by_cases e : lo = 0
        · exact .inl e
        · obtain ⟨s, hs⟩ := ex_get (L := W) (k := lo - 1) (by omega)
          exact .inr ⟨s, hs, hbe0 _ s (by omega) hs⟩
    refine tr_exit <| q_thn_exit ?_
    refine q_lp_exit ?_
    refine q_blk_hit ?_
    refine q_thn ?_
    refine rG <| rM rfl rfl <| rC rfl rfl <| rF fa_keyspan_Iter_2 rfl rfl <| rs_v (v_load one_int rfl (by exact Bc.cell _ rfl)) rfl ?_
    refine rs_v (v_sub rfl rfl (by omega) (by omega)) rfl ?_
    refine rC rfl rfl <| rF fa_keyspan_Iter_2 rfl rfl <| rs_w0 (w_put siz_int rfl rfl rfl rfl Bc rfl) ?_
    rintro _ h3 ⟨B3, K3⟩
    have Bc := B3; have K := K.new1 K3 (by first | (right; omega) | (left; simp; done)); have Z3 := K3.1
    refine rN ?_
    refine tr_seq ?_
    refine rG <| rM rfl rfl <| rC rfl rfl <| rF fa_keyspan_Iter_2 rfl rfl <| rs_v (v_load one_int rfl (by exact Bc.cell _ rfl)) rfl ?_
    refine rs_v (v_lt rfl rfl) rfl ?_
    refine rN ?_
    refine tr_if rfl (fun hif => ?_) (fun hif => ?_)
    · -- yes
      simp only [dT, dF] at hif
      refine rG <| rA rfl rfl <| rN <| tr_ret <| q_thn_ret <| q_ret (res_tmp rfl rfl) ?_
      have e : lo = 0 := by omega
      subst e
      rw [show pLT W key = .ahead from by simp [pLT, hg]]
      exact ⟨_, Bc, rfl, K, rfl⟩
    -- no
    simp only [dT, dF] at hif
    rcases hxW with rfl | ⟨b, o, rfl, hGb, hR⟩
    · exfalso; simp only [List.length_nil] at *; omega
    refine tr_skip ?_
    refine q_thn ?_
    refine tr_seq ?_
    refine tr_quiet (by kernel_rfl) (by kernel_rfl) ?_
    refine rq_v (v_move rfl) <| rq_v (v_nilCheck_ptr rfl) <| rq_v (v_fieldAddr fa_keyspan_Iter_1 rfl) <| rq_v (v_load one_sl_keyspan_Span rfl (by exact Bc.cell _ rfl)) ?_
    refine rq_v (v_move rfl) <| rq_v (v_nilCheck_ptr rfl) <| rq_v (v_fieldAddr fa_keyspan_Iter_2 rfl) <| rq_v (v_load one_int rfl (by exact Bc.cell _ rfl)) ?_
    refine rq_v (v_indexAddrE u_sl_keyspan_Span siz_keyspan_Span rfl rfl (i := lo - 1) (by omega) (by omega)) ?_
    refine rq_v (v_assign rfl) ?_
    refine rm_end ?_; simp only [endM, hypF, ofE, argE]
    refine q_thn ?_
    refine tr_ret <| q_ret (res_tmp rfl rfl) ?_
    have hl : ¬ lo = 0 := by omega
    rw [show pLT W key = .pt (lo - 1) from by simp [pLT, hg, hl]]
    exact ⟨_, Bc, ⟨by omega, by omega⟩, K, ⟨b, o, rfl, rfl⟩⟩
  -- yes
  simp only [dT, dF] at hif
  obtain ⟨y, hy⟩ := ex_get (L := W) (k := (lo + hi) / 2) (by omega)
  have hml : (lo + hi) / 2 < W.length := (List.getElem?_eq_some_iff.1 hy).1
  rcases hxW with rfl | ⟨b, o, rfl, hGb, hR⟩
  · simp at hml
  obtain ⟨sv, ev, kv2, kk, hcell, r1, r2, r3⟩ := hR _ y hy
  have hSt : Stab G h hL2 := K.stab fun b hb => ⟨(hG b hb).1, by simpa using (hG b hb).2⟩
  have hend := hSt.cells hGb hcell
  have hbe := RBytes.by (r1.stab hSt)
  have hke : RBy hL2 kv key := RBytes.by ((RBytes.lowen hkey).stab (K.stab fun b hb => ⟨hb.2, by simpa using hb.1⟩))
  refine tr_skip ?_
  refine q_thn ?_
  refine tr_block <| rG <| rM rfl rfl <| rC rfl rfl <| rF fa_keyspan_Iter_2 rfl rfl <| rs_v (v_load one_int rfl (by exact Bc.cell _ rfl)) rfl ?_
  refine rM rfl rfl <| rs_v (v_add rfl rfl (by omega) (by omega)) rfl ?_
  refine rs_v (v_conv_u64 u_int u_uint rfl (by omega) (by omega)) rfl ?_
  refine rs_v (v_shr1 (k := .u64) rfl rfl) rfl ?_
  refine rs_v (v_conv_i64 u_uint u_int rfl (by omega) (by omega)) rfl ?_
  refine rA rfl rfl <| rN ?_
  refine tr_seq ?_
  refine tr_quiet (by kernel_rfl) (by kernel_rfl) ?_
  refine rq_v (v_move rfl) <| rq_v (v_nilCheck_ptr rfl) <| rq_v (v_fieldAddr fa_keyspan_Iter_0 rfl) <| rq_v (v_load one_base_Compare rfl (by exact Bc.cell _ rfl)) ?_
  refine rq_v (v_move rfl) <| rq_v (v_move rfl) <| rq_v (v_nilCheck_ptr rfl) <| rq_v (v_fieldAddr fa_keyspan_Iter_1 rfl) <| rq_v (v_load one_sl_keyspan_Span rfl (by exact Bc.cell _ rfl)) ?_
  refine rq_v (v_move rfl) <| rq_v (v_indexAddrE u_sl_keyspan_Span siz_keyspan_Span rfl rfl (i := (lo + hi) / 2) (by omega) (by omega)) ?_
  refine rq_v (v_fieldAddr fa_keyspan_Span_0 rfl) <| rq_v (v_load one_sl_uint8 rfl (by exact hend.at 0 rfl)) ?_
  refine rq_w (w_callv (first := []) (cap := []) (vs := [_, _]) ok_bytes_Compare rfl ⟨rfl, rfl, trivial⟩ (c_Compare χ _ _ _ key y.s hke hbe)) ?_
  refine rq_v (v_gt rfl rfl) ?_
  refine rm_end ?_; simp only [endM, hypF, ofE, argE]
  refine q_thn ?_
  refine tr_if rfl (fun hif => ?_) (fun hif => ?_)
  · -- yes
    simp only [dT, dF] at hif
    refine tr_reg ?_
    refine rM rfl rfl <| rM rfl rfl <| rs_v (v_add rfl rfl (by omega) (by omega)) rfl ?_
    refine rC rfl rfl <| rF fa_keyspan_Iter_2 rfl rfl <| rs_w0 (w_put siz_int rfl rfl rfl rfl Bc rfl) ?_
    rintro _ h4 ⟨B4, K4⟩
    have Bc := B4; have K := K.new1 K4 (by first | (right; omega) | (left; simp; done)); have Z4 := K4.1
    refine rs_nil ?_
    refine q_blk_n ?_
    refine q_lp (hi - ((lo + hi) / 2 + 1)) [(0, _), (1, _), (5, _)] (by omega) ⟨rfl, rfl, rfl, trivial⟩ ⟨(lo + hi) / 2 + 1, hi, _, rfl, by omega, hhi, rfl, rfl, K, ?_, ?_, hab⟩
    · have e : ((lo : Int) + hi) / 2 + 1 = (((lo + hi) / 2 + 1 : Nat) : Int) := by omega
      rw [← e]; exact Bc
    · intro j s hj hs
      have h1 : slt y.s key = true := by rw [slt_iff, cmpB_anti key y.s]; omega
      exact slt_of_sle_slt (hO.starts (by omega) hs hy) h1
  -- no
  simp only [dT, dF] at hif
  refine tr_reg ?_
  refine rM rfl rfl <| rA rfl rfl ?_
  refine rs_nil ?_
  refine q_blk_n ?_
  refine q_lp ((lo + hi) / 2 - lo) [(0, _), (1, _), (5, _)] (by omega) ⟨rfl, rfl, rfl, trivial⟩ ⟨lo, (lo + hi) / 2, _, by omega, by omega, by omega, rfl, rfl, K, Bc, hbe0, .inr ⟨y, hy, ?_⟩⟩
  rw [slt_no, cmpB_anti key y.s]; omega
theorem m_ItFirst (v : Value) : Meth Tryz.prog 171 v "First" 189 v := fun _ => by kernel_rfl
theorem m_ItLast (v : Value) : Meth Tryz.prog 171 v "Last" 190 v := fun _ => by kernel_rfl
theorem m_ItNext (v : Value) : Meth Tryz.prog 171 v "Next" 191 v := fun _ => by kernel_rfl
theorem m_ItPrev (v : Value) : Meth Tryz.prog 171 v "Prev" 192 v := fun _ => by kernel_rfl
theorem m_ItSeekGE (v : Value) : Meth Tryz.prog 171 v "SeekGE" 193 v := fun _ => by kernel_rfl
theorem m_ItSeekLT (v : Value) : Meth Tryz.prog 171 v "SeekLT" 194 v := fun _ => by kernel_rfl
theorem m_ItError (v : Value) : Meth Tryz.prog 171 v "Error" 188 v := fun _ => by kernel_rfl
theorem c_ItError (χ : Chi) (h : Heap) (v : Value) : Cl Tryz.prog χ 188 #[v] h (fun r h' => r = .nilIface ∧ h' = h) := by
  refine cl_intro Tryz.func188 rfl rfl rfl ?_
  have K : Keep [] h h := Keep.refl _ _
  refine rG <| rA rfl rfl <| rN <| rG <| rA rfl rfl <| rN <| tr_ret <| q_ret (res_tmp rfl rfl) ?_
  exact ⟨rfl, rfl⟩

def ItB (c : Nat) (a : Option Addr) (cc : Nat) (W : List SpanD) (T : TypeId) : ItI := fun p F h =>
  ∃ (x : Int) (G : Nat → Prop), Blk h c (itL (.slice a W.length cc) x) T ∧ posX W.length p x ∧ PSpans G h (.slice a W.length cc) W ∧ (∀ b, G b → F b ∧ b ≠ c) ∧ F c ∧ Low F h
theorem itB_post {c : Nat} {a : Option Addr} {cc : Nat} {W : List SpanD} {T : TypeId} {p : Pos} {F G : Nat → Prop} {h : Heap} (hW : PSpans G h (.slice a W.length cc) W) (hG : ∀ b, G b → F b ∧ b ≠ c) (hF : F c) (hl : Low F h) (r : Value) (h' : Heap)
    (hr : ∃ x', Blk h' c (itL (.slice a W.length cc) x') T ∧ posX W.length p x' ∧ Keep [c] h h' ∧ RetI a p r) : ItPost W (ItB c a cc W T) F h p r h' := by
  obtain ⟨x', B, hp, K, hret⟩ := hr
  have hG' : ∀ b, G b → b < h.size ∧ b ≠ c := fun b hb => ⟨hl b (hG b hb).1, (hG b hb).2⟩
  have hW' : PSpans G h' (.slice a W.length cc) W := PSpans.stabI hW hG' K
  refine ⟨F, ⟨x', G, B, hp, hW', hG, hF, hl.mono K.1⟩, fun b hb => .inl hb, K.kp (by simpa using hF), ?_⟩
  unfold Ret
  cases p with
  | pt j =>
    have hj : j < W.length := by obtain ⟨h1, h2⟩ := hp; omega
    simp only [cur, List.getElem?_eq_getElem hj]
    obtain ⟨b, o, ha, rfl⟩ := hret
    obtain ⟨_, a', c', e', hx⟩ := hW'.form
    cases e'
    rcases hx with e | ⟨b', o', e2, hGb, hR⟩
    · rw [e] at hj; simp at hj
    · rw [ha] at e2; cases e2
      exact ⟨b, _, rfl, (hG b hGb).1, (hR j _ (List.getElem?_eq_getElem hj)).mono (fun b hb => (hG b hb).1)⟩
  | behind => exact hret
  | ahead => exact hret
  | nowhere => exact hret
theorem ItB.some {c : Nat} {a : Option Addr} {cc : Nat} {W : List SpanD} {G : Nat → Prop} {h : Heap} (hW : PSpans G h (.slice a W.length cc) W) : W = [] ∨ ∃ b o, a = some ⟨b, o, none⟩ := by
  obtain ⟨_, a', c', e', hx⟩ := hW.form
  cases e'
  rcases hx with e | ⟨b, o, e, _⟩
  · exact .inl e
  · exact .inr ⟨b, o, e⟩
theorem itB_ok (χ : Chi) (c : Nat) (a : Option Addr) (cc : Nat) (W : List SpanD) (T : TypeId) (hn : W.length ≤ 100000) (hO : Ord W) :
    IterOK Tryz.prog χ W 171 (.pointer (some ⟨c, 0, none⟩)) (ItB c a cc W T) where
  low := fun hI => by obtain ⟨x, G, Bc, hp, hW, hG, hF, hl⟩ := hI; exact hl
  stab := fun hI hs hz => by
    obtain ⟨x, G, Bc, hp, hW, hG, hF, hl⟩ := hI
    exact ⟨x, G, (hs c hF).trans Bc, hp, hW.stab (fun b hb => hs b (hG b hb).1), hG, hF, hl.mono hz⟩
  first := fun hI => by
    obtain ⟨x, G, Bc, hp, hW, hG, hF, hl⟩ := hI
    exact ⟨_, _, ok_keyspan_Iter_First, m_ItFirst _, (c_ItFirst χ _ c a cc W T hn x (ItB.some (c := c) hW) Bc).mono (itB_post hW hG hF hl)⟩
  last := fun hI => by
    obtain ⟨x, G, Bc, hp, hW, hG, hF, hl⟩ := hI
    exact ⟨_, _, ok_keyspan_Iter_Last, m_ItLast _, (c_ItLast χ _ c a cc W T hn x (ItB.some (c := c) hW) Bc).mono (itB_post hW hG hF hl)⟩
  next := fun {p F h} hI hc => by
    obtain ⟨x, G, Bc, hp, hW, hG, hF, hl⟩ := hI
    cases p with
    | pt j =>
      obtain ⟨h1, h2⟩ := hp
      exact ⟨_, _, ok_keyspan_Iter_Next, m_ItNext _, (c_ItNext χ _ c a cc W T hn x (j + 1) (by omega) (by omega) (ItB.some (c := c) hW) Bc).mono (itB_post (p := pNext W (.pt j)) hW hG hF hl)⟩
    | ahead =>
      have h1 : x = -1 := hp
      exact ⟨_, _, ok_keyspan_Iter_Next, m_ItNext _, (c_ItNext χ _ c a cc W T hn x 0 (by omega) (by omega) (ItB.some (c := c) hW) Bc).mono (itB_post (p := pNext W .ahead) hW hG hF hl)⟩
    | behind => simp [canNext] at hc
    | nowhere => simp [canNext] at hc
  prev := fun {p F h} hI hc => by
    obtain ⟨x, G, Bc, hp, hW, hG, hF, hl⟩ := hI
    cases p with
    | pt j =>
      obtain ⟨h1, h2⟩ := hp
      subst h1
      exact ⟨_, _, ok_keyspan_Iter_Prev, m_ItPrev _, (c_ItPrev χ _ c a cc W T hn j (by omega) (ItB.some (c := c) hW) Bc).mono (itB_post (p := pPrev W (.pt j)) hW hG hF hl)⟩
    | behind =>
      have h1 : x = W.length := hp
      subst h1
      exact ⟨_, _, ok_keyspan_Iter_Prev, m_ItPrev _, (c_ItPrev χ _ c a cc W T hn W.length (by omega) (ItB.some (c := c) hW) Bc).mono (itB_post (p := pPrev W .behind) hW hG hF hl)⟩
    | ahead => simp [canPrev] at hc
    | nowhere => simp [canPrev] at hc
  ge := fun {p F h kv key} hI hk => by
    obtain ⟨x, G, Bc, hp, hW, hG, hF, hl⟩ := hI
    exact ⟨_, _, ok_keyspan_Iter_SeekGE, m_ItSeekGE _, (c_ItSeekGE χ _ c a cc W T hn x Bc G hW (fun b hb => ⟨hl b (hG b hb).1, (hG b hb).2⟩) hO kv key (hk.mono (fun b hb e => hb (by rw [e]; exact hF)))).mono (itB_post hW hG hF hl)⟩
  lt := fun {p F h kv key} hI hk => by
    obtain ⟨x, G, Bc, hp, hW, hG, hF, hl⟩ := hI
    exact ⟨_, _, ok_keyspan_Iter_SeekLT, m_ItSeekLT _, (c_ItSeekLT χ _ c a cc W T hn x Bc G hW (fun b hb => ⟨hl b (hG b hb).1, (hG b hb).2⟩) hO kv key (hk.mono (fun b hb e => hb (by rw [e]; exact hF)))).mono (itB_post hW hG hF hl)⟩
  err := fun hI => ⟨_, _, ok_keyspan_Iter_Error, m_ItError _, c_ItError χ _ _⟩
theorem c_taken_0 (χ : Chi) (h : Heap) (ok : Bool) (last : Int)  :
    Cl Tryz.prog χ 98 #[.int .u8 0, .bool ok, .int .u8 last] h (fun r h' => r = .bool true ∧ h' = h) := by
  refine cl_intro Tryz.func98 rfl rfl rfl ?_
  have K : Keep [] h h := Keep.refl _ _
  refine rG <| rA rfl rfl <| rN ?_
  refine tr_seq ?_
  refine rG <| rM rfl rfl <| rN <| tr_block ?_
  refine tr_seq ?_
  refine rG <| rs_v (v_eq rfl rfl) rfl ?_
  refine rA rfl rfl <| rN <| tr_if_t rfl ?_
  refine tr_skip ?_
  refine q_thn ?_
  refine tr_if_t rfl ?_
  refine rG <| rA rfl rfl <| rN <| tr_ret <| q_blk_ret <| q_thn_ret <| q_ret (res_tmp rfl rfl) ?_
  exact ⟨rfl, rfl⟩
theorem c_taken_1 (χ : Chi) (h : Heap) (ok : Bool) (last : Int)  :
    Cl Tryz.prog χ 98 #[.int .u8 1, .bool ok, .int .u8 last] h (fun r h' => r = .bool true ∧ h' = h) := by
  refine cl_intro Tryz.func98 rfl rfl rfl ?_
  have K : Keep [] h h := Keep.refl _ _
  refine rG <| rA rfl rfl <| rN ?_
  refine tr_seq ?_
  refine rG <| rM rfl rfl <| rN <| tr_block ?_
  refine tr_seq ?_
  refine rG <| rs_v (v_eq rfl rfl) rfl ?_
  refine rA rfl rfl <| rN <| tr_if_f rfl ?_
  refine rG <| rs_v (v_eq rfl rfl) rfl ?_
  refine rA rfl rfl <| rN <| tr_if_t rfl ?_
  refine tr_skip ?_
  refine q_thn ?_
  refine tr_if_t rfl ?_
  refine rG <| rA rfl rfl <| rN <| tr_ret <| q_blk_ret <| q_thn_ret <| q_ret (res_tmp rfl rfl) ?_
  exact ⟨rfl, rfl⟩
theorem c_taken_4 (χ : Chi) (h : Heap) (ok : Bool) (last : Int)  :
    Cl Tryz.prog χ 98 #[.int .u8 4, .bool ok, .int .u8 last] h (fun r h' => r = .bool true ∧ h' = h) := by
  refine cl_intro Tryz.func98 rfl rfl rfl ?_
  have K : Keep [] h h := Keep.refl _ _
  refine rG <| rA rfl rfl <| rN ?_
  refine tr_seq ?_
  refine rG <| rM rfl rfl <| rN <| tr_block ?_
  refine tr_seq ?_
  refine rG <| rs_v (v_eq rfl rfl) rfl ?_
  refine rA rfl rfl <| rN <| tr_if_f rfl ?_
  refine rG <| rs_v (v_eq rfl rfl) rfl ?_
  refine rA rfl rfl <| rN <| tr_if_f rfl ?_
  refine rG <| rs_v (v_eq rfl rfl) rfl ?_
  refine rA rfl rfl <| rN <| tr_if_t rfl ?_
  refine tr_skip ?_
  refine q_thn ?_
  refine tr_if_t rfl ?_
  refine rG <| rA rfl rfl <| rN <| tr_ret <| q_blk_ret <| q_thn_ret <| q_ret (res_tmp rfl rfl) ?_
  exact ⟨rfl, rfl⟩
theorem c_taken_5 (χ : Chi) (h : Heap) (ok : Bool) (last : Int)  :
    Cl Tryz.prog χ 98 #[.int .u8 5, .bool ok, .int .u8 last] h (fun r h' => r = .bool true ∧ h' = h) := by
  refine cl_intro Tryz.func98 rfl rfl rfl ?_
  have K : Keep [] h h := Keep.refl _ _
  refine rG <| rA rfl rfl <| rN ?_
  refine tr_seq ?_
  refine rG <| rM rfl rfl <| rN <| tr_block ?_
  refine tr_seq ?_
  refine rG <| rs_v (v_eq rfl rfl) rfl ?_
  refine rA rfl rfl <| rN <| tr_if_f rfl ?_
  refine rG <| rs_v (v_eq rfl rfl) rfl ?_
  refine rA rfl rfl <| rN <| tr_if_f rfl ?_
  refine rG <| rs_v (v_eq rfl rfl) rfl ?_
  refine rA rfl rfl <| rN <| tr_if_f rfl ?_
  refine tr_reg ?_
  refine rs_v (v_eq rfl rfl) rfl ?_
  refine rA rfl rfl <| rN <| tr_if_t rfl ?_
  refine rG <| rA rfl rfl <| rN <| tr_ret <| q_blk_ret <| q_thn_ret <| q_ret (res_tmp rfl rfl) ?_
  exact ⟨rfl, rfl⟩
theorem c_taken_2t (χ : Chi) (h : Heap) (last : Int)  :
    Cl Tryz.prog χ 98 #[.int .u8 2, .bool true, .int .u8 last] h (fun r h' => r = .bool true ∧ h' = h) := by
  refine cl_intro Tryz.func98 rfl rfl rfl ?_
  have K : Keep [] h h := Keep.refl _ _
  refine rG <| rA rfl rfl <| rN ?_
  refine tr_seq ?_
  refine rG <| rM rfl rfl <| rN <| tr_block ?_
  refine tr_seq ?_
  refine rG <| rs_v (v_eq rfl rfl) rfl ?_
  refine rA rfl rfl <| rN <| tr_if_f rfl ?_
  refine rG <| rs_v (v_eq rfl rfl) rfl ?_
  refine rA rfl rfl <| rN <| tr_if_f rfl ?_
  refine rG <| rs_v (v_eq rfl rfl) rfl ?_
  refine rA rfl rfl <| rN <| tr_if_f rfl ?_
  refine tr_reg ?_
  refine rs_v (v_eq rfl rfl) rfl ?_
  refine rA rfl rfl <| rN <| tr_if_f rfl ?_
  refine rG <| rs_v (v_eq rfl rfl) rfl ?_
  refine rA rfl rfl <| rN <| tr_if_t rfl ?_
  refine rG <| rM rfl rfl <| rM rfl rfl <| rs_gs rfl rfl rfl rfl <| rs_gs rfl rfl rfl rfl <| rs_v (v_pick_t rfl rfl) rfl ?_
  refine rM rfl rfl <| rs_gs rfl rfl rfl rfl <| rs_gs rfl rfl rfl rfl <| rs_v (v_pick_t rfl rfl) rfl ?_
  refine rA rfl rfl <| rN <| tr_ret <| q_blk_ret <| q_thn_ret <| q_ret (res_tmp rfl rfl) ?_
  exact ⟨rfl, rfl⟩
theorem c_taken_2f0 (χ : Chi) (h : Heap)  :
    Cl Tryz.prog χ 98 #[.int .u8 2, .bool false, .int .u8 0] h (fun r h' => r = .bool false ∧ h' = h) := by
  refine cl_intro Tryz.func98 rfl rfl rfl ?_
  have K : Keep [] h h := Keep.refl _ _
  refine rG <| rA rfl rfl <| rN ?_
  refine tr_seq ?_
  refine rG <| rM rfl rfl <| rN <| tr_block ?_
  refine tr_seq ?_
  refine rG <| rs_v (v_eq rfl rfl) rfl ?_
  refine rA rfl rfl <| rN <| tr_if_f rfl ?_
  refine rG <| rs_v (v_eq rfl rfl) rfl ?_
  refine rA rfl rfl <| rN <| tr_if_f rfl ?_
  refine rG <| rs_v (v_eq rfl rfl) rfl ?_
  refine rA rfl rfl <| rN <| tr_if_f rfl ?_
  refine tr_reg ?_
  refine rs_v (v_eq rfl rfl) rfl ?_
  refine rA rfl rfl <| rN <| tr_if_f rfl ?_
  refine rG <| rs_v (v_eq rfl rfl) rfl ?_
  refine rA rfl rfl <| rN <| tr_if_t rfl ?_
  refine rG <| rM rfl rfl <| rM rfl rfl <| rs_gv rfl rfl (v_move rfl) rfl <| rs_gv rfl rfl (v_eq rfl rfl) rfl ?_
  refine rs_v (v_pick_f rfl rfl) rfl ?_
  refine rM rfl rfl <| rs_gv rfl rfl (v_move rfl) rfl <| rs_gv rfl rfl (v_eq rfl rfl) rfl ?_
  refine rs_v (v_pick_f rfl rfl) rfl ?_
  refine rA rfl rfl <| rN <| tr_ret <| q_blk_ret <| q_thn_ret <| q_ret (res_tmp rfl rfl) ?_
  exact ⟨rfl, rfl⟩
theorem c_taken_2f1 (χ : Chi) (h : Heap)  :
    Cl Tryz.prog χ 98 #[.int .u8 2, .bool false, .int .u8 1] h (fun r h' => r = .bool false ∧ h' = h) := by
  refine cl_intro Tryz.func98 rfl rfl rfl ?_
  have K : Keep [] h h := Keep.refl _ _
  refine rG <| rA rfl rfl <| rN ?_
  refine tr_seq ?_
  refine rG <| rM rfl rfl <| rN <| tr_block ?_
  refine tr_seq ?_
  refine rG <| rs_v (v_eq rfl rfl) rfl ?_
  refine rA rfl rfl <| rN <| tr_if_f rfl ?_
  refine rG <| rs_v (v_eq rfl rfl) rfl ?_
  refine rA rfl rfl <| rN <| tr_if_f rfl ?_
  refine rG <| rs_v (v_eq rfl rfl) rfl ?_
  refine rA rfl rfl <| rN <| tr_if_f rfl ?_
  refine tr_reg ?_
  refine rs_v (v_eq rfl rfl) rfl ?_
  refine rA rfl rfl <| rN <| tr_if_f rfl ?_
  refine rG <| rs_v (v_eq rfl rfl) rfl ?_
  refine rA rfl rfl <| rN <| tr_if_t rfl ?_
  refine rG <| rM rfl rfl <| rM rfl rfl <| rs_gv rfl rfl (v_move rfl) rfl <| rs_gv rfl rfl (v_eq rfl rfl) rfl ?_
  refine rs_v (v_pick_f rfl rfl) rfl ?_
  refine rM rfl rfl <| rs_gv rfl rfl (v_move rfl) rfl <| rs_gv rfl rfl (v_eq rfl rfl) rfl ?_
  refine rs_v (v_pick_f rfl rfl) rfl ?_
  refine rA rfl rfl <| rN <| tr_ret <| q_blk_ret <| q_thn_ret <| q_ret (res_tmp rfl rfl) ?_
  exact ⟨rfl, rfl⟩
theorem c_taken_2f2 (χ : Chi) (h : Heap)  :
    Cl Tryz.prog χ 98 #[.int .u8 2, .bool false, .int .u8 2] h (fun r h' => r = .bool false ∧ h' = h) := by
  refine cl_intro Tryz.func98 rfl rfl rfl ?_
  have K : Keep [] h h := Keep.refl _ _
  refine rG <| rA rfl rfl <| rN ?_
  refine tr_seq ?_
  refine rG <| rM rfl rfl <| rN <| tr_block ?_
  refine tr_seq ?_
  refine rG <| rs_v (v_eq rfl rfl) rfl ?_
  refine rA rfl rfl <| rN <| tr_if_f rfl ?_
  refine rG <| rs_v (v_eq rfl rfl) rfl ?_
  refine rA rfl rfl <| rN <| tr_if_f rfl ?_
  refine rG <| rs_v (v_eq rfl rfl) rfl ?_
  refine rA rfl rfl <| rN <| tr_if_f rfl ?_
  refine tr_reg ?_
  refine rs_v (v_eq rfl rfl) rfl ?_
  refine rA rfl rfl <| rN <| tr_if_f rfl ?_
  refine rG <| rs_v (v_eq rfl rfl) rfl ?_
  refine rA rfl rfl <| rN <| tr_if_t rfl ?_
  refine rG <| rM rfl rfl <| rM rfl rfl <| rs_gv rfl rfl (v_move rfl) rfl <| rs_gv rfl rfl (v_eq rfl rfl) rfl ?_
  refine rs_v (v_pick_f rfl rfl) rfl ?_
  refine rM rfl rfl <| rs_gv rfl rfl (v_move rfl) rfl <| rs_gv rfl rfl (v_eq rfl rfl) rfl ?_
  refine rs_v (v_pick_f rfl rfl) rfl ?_
  refine rA rfl rfl <| rN <| tr_ret <| q_blk_ret <| q_thn_ret <| q_ret (res_tmp rfl rfl) ?_
  exact ⟨rfl, rfl⟩
theorem c_taken_2f3 (χ : Chi) (h : Heap)  :
    Cl Tryz.prog χ 98 #[.int .u8 2, .bool false, .int .u8 3] h (fun r h' => r = .bool true ∧ h' = h) := by
  refine cl_intro Tryz.func98 rfl rfl rfl ?_
  have K : Keep [] h h := Keep.refl _ _
  refine rG <| rA rfl rfl <| rN ?_
  refine tr_seq ?_
  refine rG <| rM rfl rfl <| rN <| tr_block ?_
  refine tr_seq ?_
  refine rG <| rs_v (v_eq rfl rfl) rfl ?_
  refine rA rfl rfl <| rN <| tr_if_f rfl ?_
  refine rG <| rs_v (v_eq rfl rfl) rfl ?_
  refine rA rfl rfl <| rN <| tr_if_f rfl ?_
  refine rG <| rs_v (v_eq rfl rfl) rfl ?_
  refine rA rfl rfl <| rN <| tr_if_f rfl ?_
  refine tr_reg ?_
  refine rs_v (v_eq rfl rfl) rfl ?_
  refine rA rfl rfl <| rN <| tr_if_f rfl ?_
  refine rG <| rs_v (v_eq rfl rfl) rfl ?_
  refine rA rfl rfl <| rN <| tr_if_t rfl ?_
  refine rG <| rM rfl rfl <| rM rfl rfl <| rs_gv rfl rfl (v_move rfl) rfl <| rs_gv rfl rfl (v_eq rfl rfl) rfl ?_
  refine rs_v (v_pick_f rfl rfl) rfl ?_
  refine rM rfl rfl <| rs_gv rfl rfl (v_move rfl) rfl <| rs_gv rfl rfl (v_eq rfl rfl) rfl ?_
  refine rs_v (v_pick_f rfl rfl) rfl ?_
  refine rA rfl rfl <| rN <| tr_ret <| q_blk_ret <| q_thn_ret <| q_ret (res_tmp rfl rfl) ?_
  exact ⟨rfl, rfl⟩
theorem c_taken_2f4 (χ : Chi) (h : Heap)  :
    Cl Tryz.prog χ 98 #[.int .u8 2, .bool false, .int .u8 4] h (fun r h' => r = .bool false ∧ h' = h) := by
  refine cl_intro Tryz.func98 rfl rfl rfl ?_
  have K : Keep [] h h := Keep.refl _ _
  refine rG <| rA rfl rfl <| rN ?_
  refine tr_seq ?_
  refine rG <| rM rfl rfl <| rN <| tr_block ?_
  refine tr_seq ?_
  refine rG <| rs_v (v_eq rfl rfl) rfl ?_
  refine rA rfl rfl <| rN <| tr_if_f rfl ?_
  refine rG <| rs_v (v_eq rfl rfl) rfl ?_
  refine rA rfl rfl <| rN <| tr_if_f rfl ?_
  refine rG <| rs_v (v_eq rfl rfl) rfl ?_
  refine rA rfl rfl <| rN <| tr_if_f rfl ?_
  refine tr_reg ?_
  refine rs_v (v_eq rfl rfl) rfl ?_
  refine rA rfl rfl <| rN <| tr_if_f rfl ?_
  refine rG <| rs_v (v_eq rfl rfl) rfl ?_
  refine rA rfl rfl <| rN <| tr_if_t rfl ?_
  refine rG <| rM rfl rfl <| rM rfl rfl <| rs_gv rfl rfl (v_move rfl) rfl <| rs_gv rfl rfl (v_eq rfl rfl) rfl ?_
  refine rs_v (v_pick_f rfl rfl) rfl ?_
  refine rM rfl rfl <| rs_gv rfl rfl (v_move rfl) rfl <| rs_gv rfl rfl (v_eq rfl rfl) rfl ?_
  refine rs_v (v_pick_f rfl rfl) rfl ?_
  refine rA rfl rfl <| rN <| tr_ret <| q_blk_ret <| q_thn_ret <| q_ret (res_tmp rfl rfl) ?_
  exact ⟨rfl, rfl⟩
theorem c_taken_2f5 (χ : Chi) (h : Heap)  :
    Cl Tryz.prog χ 98 #[.int .u8 2, .bool false, .int .u8 5] h (fun r h' => r = .bool true ∧ h' = h) := by
  refine cl_intro Tryz.func98 rfl rfl rfl ?_
  have K : Keep [] h h := Keep.refl _ _
  refine rG <| rA rfl rfl <| rN ?_
  refine tr_seq ?_
  refine rG <| rM rfl rfl <| rN <| tr_block ?_
  refine tr_seq ?_
  refine rG <| rs_v (v_eq rfl rfl) rfl ?_
  refine rA rfl rfl <| rN <| tr_if_f rfl ?_
  refine rG <| rs_v (v_eq rfl rfl) rfl ?_
  refine rA rfl rfl <| rN <| tr_if_f rfl ?_
  refine rG <| rs_v (v_eq rfl rfl) rfl ?_
  refine rA rfl rfl <| rN <| tr_if_f rfl ?_
  refine tr_reg ?_
  refine rs_v (v_eq rfl rfl) rfl ?_
  refine rA rfl rfl <| rN <| tr_if_f rfl ?_
  refine rG <| rs_v (v_eq rfl rfl) rfl ?_
  refine rA rfl rfl <| rN <| tr_if_t rfl ?_
  refine rG <| rM rfl rfl <| rM rfl rfl <| rs_gv rfl rfl (v_move rfl) rfl <| rs_gv rfl rfl (v_eq rfl rfl) rfl ?_
  refine rs_v (v_pick_f rfl rfl) rfl ?_
  refine rM rfl rfl <| rs_gs rfl rfl rfl rfl <| rs_gs rfl rfl rfl rfl <| rs_v (v_pick_t rfl rfl) rfl ?_
  refine rA rfl rfl <| rN <| tr_ret <| q_blk_ret <| q_thn_ret <| q_ret (res_tmp rfl rfl) ?_
  exact ⟨rfl, rfl⟩
theorem c_taken_3t (χ : Chi) (h : Heap) (last : Int)  :
    Cl Tryz.prog χ 98 #[.int .u8 3, .bool true, .int .u8 last] h (fun r h' => r = .bool true ∧ h' = h) := by
  refine cl_intro Tryz.func98 rfl rfl rfl ?_
  have K : Keep [] h h := Keep.refl _ _
  refine rG <| rA rfl rfl <| rN ?_
  refine tr_seq ?_
  refine rG <| rM rfl rfl <| rN <| tr_block ?_
  refine tr_seq ?_
  refine rG <| rs_v (v_eq rfl rfl) rfl ?_
  refine rA rfl rfl <| rN <| tr_if_f rfl ?_
  refine rG <| rs_v (v_eq rfl rfl) rfl ?_
  refine rA rfl rfl <| rN <| tr_if_f rfl ?_
  refine rG <| rs_v (v_eq rfl rfl) rfl ?_
  refine rA rfl rfl <| rN <| tr_if_f rfl ?_
  refine tr_reg ?_
  refine rs_v (v_eq rfl rfl) rfl ?_
  refine rA rfl rfl <| rN <| tr_if_f rfl ?_
  refine rG <| rs_v (v_eq rfl rfl) rfl ?_
  refine rA rfl rfl <| rN <| tr_if_f rfl ?_
  refine rG <| rs_v (v_eq rfl rfl) rfl ?_
  refine rA rfl rfl <| rN <| tr_if_t rfl ?_
  refine rG <| rM rfl rfl <| rM rfl rfl <| rs_gs rfl rfl rfl rfl <| rs_gs rfl rfl rfl rfl <| rs_v (v_pick_t rfl rfl) rfl ?_
  refine rM rfl rfl <| rs_gs rfl rfl rfl rfl <| rs_gs rfl rfl rfl rfl <| rs_v (v_pick_t rfl rfl) rfl ?_
  refine rA rfl rfl <| rN <| tr_ret <| q_blk_ret <| q_thn_ret <| q_ret (res_tmp rfl rfl) ?_
  exact ⟨rfl, rfl⟩
theorem c_taken_3f0 (χ : Chi) (h : Heap)  :
    Cl Tryz.prog χ 98 #[.int .u8 3, .bool false, .int .u8 0] h (fun r h' => r = .bool false ∧ h' = h) := by
  refine cl_intro Tryz.func98 rfl rfl rfl ?_
  have K : Keep [] h h := Keep.refl _ _
  refine rG <| rA rfl rfl <| rN ?_
  refine tr_seq ?_
  refine rG <| rM rfl rfl <| rN <| tr_block ?_
  refine tr_seq ?_
  refine rG <| rs_v (v_eq rfl rfl) rfl ?_
  refine rA rfl rfl <| rN <| tr_if_f rfl ?_
  refine rG <| rs_v (v_eq rfl rfl) rfl ?_
  refine rA rfl rfl <| rN <| tr_if_f rfl ?_
  refine rG <| rs_v (v_eq rfl rfl) rfl ?_
  refine rA rfl rfl <| rN <| tr_if_f rfl ?_
  refine tr_reg ?_
  refine rs_v (v_eq rfl rfl) rfl ?_
  refine rA rfl rfl <| rN <| tr_if_f rfl ?_
  refine rG <| rs_v (v_eq rfl rfl) rfl ?_
  refine rA rfl rfl <| rN <| tr_if_f rfl ?_
  refine rG <| rs_v (v_eq rfl rfl) rfl ?_
  refine rA rfl rfl <| rN <| tr_if_t rfl ?_
  refine rG <| rM rfl rfl <| rM rfl rfl <| rs_gv rfl rfl (v_move rfl) rfl <| rs_gv rfl rfl (v_eq rfl rfl) rfl ?_
  refine rs_v (v_pick_f rfl rfl) rfl ?_
  refine rM rfl rfl <| rs_gv rfl rfl (v_move rfl) rfl <| rs_gv rfl rfl (v_eq rfl rfl) rfl ?_
  refine rs_v (v_pick_f rfl rfl) rfl ?_
  refine rA rfl rfl <| rN <| tr_ret <| q_blk_ret <| q_thn_ret <| q_ret (res_tmp rfl rfl) ?_
  exact ⟨rfl, rfl⟩
theorem c_taken_3f1 (χ : Chi) (h : Heap)  :
    Cl Tryz.prog χ 98 #[.int .u8 3, .bool false, .int .u8 1] h (fun r h' => r = .bool false ∧ h' = h) := by
  refine cl_intro Tryz.func98 rfl rfl rfl ?_
  have K : Keep [] h h := Keep.refl _ _
  refine rG <| rA rfl rfl <| rN ?_
  refine tr_seq ?_
  refine rG <| rM rfl rfl <| rN <| tr_block ?_
  refine tr_seq ?_
  refine rG <| rs_v (v_eq rfl rfl) rfl ?_
  refine rA rfl rfl <| rN <| tr_if_f rfl ?_
  refine rG <| rs_v (v_eq rfl rfl) rfl ?_
  refine rA rfl rfl <| rN <| tr_if_f rfl ?_
  refine rG <| rs_v (v_eq rfl rfl) rfl ?_
  refine rA rfl rfl <| rN <| tr_if_f rfl ?_
  refine tr_reg ?_
  refine rs_v (v_eq rfl rfl) rfl ?_
  refine rA rfl rfl <| rN <| tr_if_f rfl ?_
  refine rG <| rs_v (v_eq rfl rfl) rfl ?_
  refine rA rfl rfl <| rN <| tr_if_f rfl ?_
  refine rG <| rs_v (v_eq rfl rfl) rfl ?_
  refine rA rfl rfl <| rN <| tr_if_t rfl ?_
  refine rG <| rM rfl rfl <| rM rfl rfl <| rs_gv rfl rfl (v_move rfl) rfl <| rs_gv rfl rfl (v_eq rfl rfl) rfl ?_
  refine rs_v (v_pick_f rfl rfl) rfl ?_
  refine rM rfl rfl <| rs_gv rfl rfl (v_move rfl) rfl <| rs_gv rfl rfl (v_eq rfl rfl) rfl ?_
  refine rs_v (v_pick_f rfl rfl) rfl ?_
  refine rA rfl rfl <| rN <| tr_ret <| q_blk_ret <| q_thn_ret <| q_ret (res_tmp rfl rfl) ?_
  exact ⟨rfl, rfl⟩
theorem c_taken_3f2 (χ : Chi) (h : Heap)  :
    Cl Tryz.prog χ 98 #[.int .u8 3, .bool false, .int .u8 2] h (fun r h' => r = .bool true ∧ h' = h) := by
  refine cl_intro Tryz.func98 rfl rfl rfl ?_
  have K : Keep [] h h := Keep.refl _ _
  refine rG <| rA rfl rfl <| rN ?_
  refine tr_seq ?_
  refine rG <| rM rfl rfl <| rN <| tr_block ?_
  refine tr_seq ?_
  refine rG <| rs_v (v_eq rfl rfl) rfl ?_
  refine rA rfl rfl <| rN <| tr_if_f rfl ?_
  refine rG <| rs_v (v_eq rfl rfl) rfl ?_
  refine rA rfl rfl <| rN <| tr_if_f rfl ?_
  refine rG <| rs_v (v_eq rfl rfl) rfl ?_
  refine rA rfl rfl <| rN <| tr_if_f rfl ?_
  refine tr_reg ?_
  refine rs_v (v_eq rfl rfl) rfl ?_
  refine rA rfl rfl <| rN <| tr_if_f rfl ?_
  refine rG <| rs_v (v_eq rfl rfl) rfl ?_
  refine rA rfl rfl <| rN <| tr_if_f rfl ?_
  refine rG <| rs_v (v_eq rfl rfl) rfl ?_
  refine rA rfl rfl <| rN <| tr_if_t rfl ?_
  refine rG <| rM rfl rfl <| rM rfl rfl <| rs_gv rfl rfl (v_move rfl) rfl <| rs_gv rfl rfl (v_eq rfl rfl) rfl ?_
  refine rs_v (v_pick_f rfl rfl) rfl ?_
  refine rM rfl rfl <| rs_gv rfl rfl (v_move rfl) rfl <| rs_gv rfl rfl (v_eq rfl rfl) rfl ?_
  refine rs_v (v_pick_f rfl rfl) rfl ?_
  refine rA rfl rfl <| rN <| tr_ret <| q_blk_ret <| q_thn_ret <| q_ret (res_tmp rfl rfl) ?_
  exact ⟨rfl, rfl⟩
theorem c_taken_3f3 (χ : Chi) (h : Heap)  :
    Cl Tryz.prog χ 98 #[.int .u8 3, .bool false, .int .u8 3] h (fun r h' => r = .bool false ∧ h' = h) := by
  refine cl_intro Tryz.func98 rfl rfl rfl ?_
  have K : Keep [] h h := Keep.refl _ _
  refine rG <| rA rfl rfl <| rN ?_
  refine tr_seq ?_
  refine rG <| rM rfl rfl <| rN <| tr_block ?_
  refine tr_seq ?_
  refine rG <| rs_v (v_eq rfl rfl) rfl ?_
  refine rA rfl rfl <| rN <| tr_if_f rfl ?_
  refine rG <| rs_v (v_eq rfl rfl) rfl ?_
  refine rA rfl rfl <| rN <| tr_if_f rfl ?_
  refine rG <| rs_v (v_eq rfl rfl) rfl ?_
  refine rA rfl rfl <| rN <| tr_if_f rfl ?_
  refine tr_reg ?_
  refine rs_v (v_eq rfl rfl) rfl ?_
  refine rA rfl rfl <| rN <| tr_if_f rfl ?_
  refine rG <| rs_v (v_eq rfl rfl) rfl ?_
  refine rA rfl rfl <| rN <| tr_if_f rfl ?_
  refine rG <| rs_v (v_eq rfl rfl) rfl ?_
  refine rA rfl rfl <| rN <| tr_if_t rfl ?_
  refine rG <| rM rfl rfl <| rM rfl rfl <| rs_gv rfl rfl (v_move rfl) rfl <| rs_gv rfl rfl (v_eq rfl rfl) rfl ?_
  refine rs_v (v_pick_f rfl rfl) rfl ?_
  refine rM rfl rfl <| rs_gv rfl rfl (v_move rfl) rfl <| rs_gv rfl rfl (v_eq rfl rfl) rfl ?_
  refine rs_v (v_pick_f rfl rfl) rfl ?_
  refine rA rfl rfl <| rN <| tr_ret <| q_blk_ret <| q_thn_ret <| q_ret (res_tmp rfl rfl) ?_
  exact ⟨rfl, rfl⟩
theorem c_taken_3f4 (χ : Chi) (h : Heap)  :
    Cl Tryz.prog χ 98 #[.int .u8 3, .bool false, .int .u8 4] h (fun r h' => r = .bool true ∧ h' = h) := by
  refine cl_intro Tryz.func98 rfl rfl rfl ?_
  have K : Keep [] h h := Keep.refl _ _
  refine rG <| rA rfl rfl <| rN ?_
  refine tr_seq ?_
  refine rG <| rM rfl rfl <| rN <| tr_block ?_
  refine tr_seq ?_
  refine rG <| rs_v (v_eq rfl rfl) rfl ?_
  refine rA rfl rfl <| rN <| tr_if_f rfl ?_
  refine rG <| rs_v (v_eq rfl rfl) rfl ?_
  refine rA rfl rfl <| rN <| tr_if_f rfl ?_
  refine rG <| rs_v (v_eq rfl rfl) rfl ?_
  refine rA rfl rfl <| rN <| tr_if_f rfl ?_
  refine tr_reg ?_
  refine rs_v (v_eq rfl rfl) rfl ?_
  refine rA rfl rfl <| rN <| tr_if_f rfl ?_
  refine rG <| rs_v (v_eq rfl rfl) rfl ?_
  refine rA rfl rfl <| rN <| tr_if_f rfl ?_
  refine rG <| rs_v (v_eq rfl rfl) rfl ?_
  refine rA rfl rfl <| rN <| tr_if_t rfl ?_
  refine rG <| rM rfl rfl <| rM rfl rfl <| rs_gv rfl rfl (v_move rfl) rfl <| rs_gv rfl rfl (v_eq rfl rfl) rfl ?_
  refine rs_v (v_pick_f rfl rfl) rfl ?_
  refine rM rfl rfl <| rs_gs rfl rfl rfl rfl <| rs_gs rfl rfl rfl rfl <| rs_v (v_pick_t rfl rfl) rfl ?_
  refine rA rfl rfl <| rN <| tr_ret <| q_blk_ret <| q_thn_ret <| q_ret (res_tmp rfl rfl) ?_
  exact ⟨rfl, rfl⟩
theorem c_taken_3f5 (χ : Chi) (h : Heap)  :
    Cl Tryz.prog χ 98 #[.int .u8 3, .bool false, .int .u8 5] h (fun r h' => r = .bool false ∧ h' = h) := by
  refine cl_intro Tryz.func98 rfl rfl rfl ?_
  have K : Keep [] h h := Keep.refl _ _
  refine rG <| rA rfl rfl <| rN ?_
  refine tr_seq ?_
  refine rG <| rM rfl rfl <| rN <| tr_block ?_
  refine tr_seq ?_
  refine rG <| rs_v (v_eq rfl rfl) rfl ?_
  refine rA rfl rfl <| rN <| tr_if_f rfl ?_
  refine rG <| rs_v (v_eq rfl rfl) rfl ?_
  refine rA rfl rfl <| rN <| tr_if_f rfl ?_
  refine rG <| rs_v (v_eq rfl rfl) rfl ?_
  refine rA rfl rfl <| rN <| tr_if_f rfl ?_
  refine tr_reg ?_
  refine rs_v (v_eq rfl rfl) rfl ?_
  refine rA rfl rfl <| rN <| tr_if_f rfl ?_
  refine rG <| rs_v (v_eq rfl rfl) rfl ?_
  refine rA rfl rfl <| rN <| tr_if_f rfl ?_
  refine rG <| rs_v (v_eq rfl rfl) rfl ?_
  refine rA rfl rfl <| rN <| tr_if_t rfl ?_
  refine rG <| rM rfl rfl <| rM rfl rfl <| rs_gv rfl rfl (v_move rfl) rfl <| rs_gv rfl rfl (v_eq rfl rfl) rfl ?_
  refine rs_v (v_pick_f rfl rfl) rfl ?_
  refine rM rfl rfl <| rs_gv rfl rfl (v_move rfl) rfl <| rs_gv rfl rfl (v_eq rfl rfl) rfl ?_
  refine rs_v (v_pick_f rfl rfl) rfl ?_
  refine rA rfl rfl <| rN <| tr_ret <| q_blk_ret <| q_thn_ret <| q_ret (res_tmp rfl rfl) ?_
  exact ⟨rfl, rfl⟩
theorem c_taken_x (χ : Chi) (h : Heap) (op : Int) (ok : Bool) (last : Int) (o0 : decide (op = 0) = false) (o1 : decide (op = 1) = false) (o2 : decide (op = 2) = false) (o3 : decide (op = 3) = false) (o4 : decide (op = 4) = false) (o5 : decide (op = 5) = false) :
    Cl Tryz.prog χ 98 #[.int .u8 op, .bool ok, .int .u8 last] h (fun r h' => r = .bool false ∧ h' = h) := by
  refine cl_intro Tryz.func98 rfl rfl rfl ?_
  have K : Keep [] h h := Keep.refl _ _
  refine rG <| rA rfl rfl <| rN ?_
  refine tr_seq ?_
  refine rG <| rM rfl rfl <| rN <| tr_block ?_
  refine tr_seq ?_
  refine rG <| rs_v (v_eq rfl rfl) rfl ?_
  refine rA rfl rfl <| rN <| tr_if_f (lkb o0) ?_
  refine rG <| rs_v (v_eq rfl rfl) rfl ?_
  refine rA rfl rfl <| rN <| tr_if_f (lkb o1) ?_
  refine rG <| rs_v (v_eq rfl rfl) rfl ?_
  refine rA rfl rfl <| rN <| tr_if_f (lkb o4) ?_
  refine tr_reg ?_
  refine rs_v (v_eq rfl rfl) rfl ?_
  refine rA rfl rfl <| rN <| tr_if_f (lkb o5) ?_
  refine rG <| rs_v (v_eq rfl rfl) rfl ?_
  refine rA rfl rfl <| rN <| tr_if_f (lkb o2) ?_
  refine rG <| rs_v (v_eq rfl rfl) rfl ?_
  refine rA rfl rfl <| rN <| tr_if_f (lkb o3) ?_
  refine tr_skip <| q_blk_n ?_
  refine q_thn ?_
  refine rG <| rA rfl rfl <| rN <| tr_ret <| q_ret (res_tmp rfl rfl) ?_
  exact ⟨rfl, rfl⟩
theorem c_taken (χ : Chi) (h : Heap) (W : List SpanD) (p : Pos) (s : StepD) (ok : Bool) (last : Int) (hk : okl W p ok last) :
    Cl Tryz.prog χ 98 #[.int .u8 s.op, .bool ok, .int .u8 last] h (fun r h' => r = .bool (stepP W p s).isSome ∧ h' = h) := by
  obtain ⟨op, key⟩ := s
  by_cases o0 : op = 0
  · subst o0; exact c_taken_0 χ h ok last
  by_cases o1 : op = 1
  · subst o1; exact c_taken_1 χ h ok last
  by_cases o4 : op = 4
  · subst o4; exact c_taken_4 χ h ok last
  by_cases o5 : op = 5
  · subst o5; exact c_taken_5 χ h ok last
  by_cases o2 : op = 2
  · subst o2
    rcases hk with ⟨rfl, j, rfl, _⟩ | ⟨rfl, ⟨rfl, rfl | rfl⟩ | ⟨rfl, rfl | rfl⟩ | ⟨rfl, rfl | rfl⟩⟩
    · exact c_taken_2t χ h last
    · exact c_taken_2f5 χ h
    · exact c_taken_2f3 χ h
    · exact c_taken_2f4 χ h
    · exact c_taken_2f2 χ h
    · exact c_taken_2f0 χ h
    · exact c_taken_2f1 χ h
  by_cases o3 : op = 3
  · subst o3
    rcases hk with ⟨rfl, j, rfl, _⟩ | ⟨rfl, ⟨rfl, rfl | rfl⟩ | ⟨rfl, rfl | rfl⟩ | ⟨rfl, rfl | rfl⟩⟩
    · exact c_taken_3t χ h last
    · exact c_taken_3f5 χ h
    · exact c_taken_3f3 χ h
    · exact c_taken_3f4 χ h
    · exact c_taken_3f2 χ h
    · exact c_taken_3f0 χ h
    · exact c_taken_3f1 χ h
  · have e : (stepP W p ⟨op, key⟩) = none := by simp [stepP, o0, o1, o2, o3, o4, o5]
    rw [e]
    exact c_taken_x χ h op ok last (decide_eq_false o0) (decide_eq_false o1) (decide_eq_false o2) (decide_eq_false o3) (decide_eq_false o4) (decide_eq_false o5)
set_option maxHeartbeats 1000000
theorem rk_skip {h1 h2 h3 : Heap} {v : Value} {ks : List KeyD} {c : Nat} (hr : RKeys (Up N0 h1 h2) h2 v ks) (k0 : h1.size ≤ h2.size) (K : Keep [c] h2 h3) (hc : c < h1.size) : RKeys (Up N0 h1 h3) h3 v ks :=
  (hr.stab (K.stab fun b hb => ⟨(n0low h1).up k0 b hb, by
    rcases hb with hb | hb
    · exact hb.elim
    · simp; omega⟩)).mono (Up.grow K.1)
theorem c_walkSpans (χ : Chi) (h : Heap) (A : Nat → Prop) (hA : Low A h) (W : List SpanD) (t : TypeId) (v0 : Value) (I : ItI) (hit : IterOK Tryz.prog χ W t v0 I) (F0 : Nat → Prop) (hI0 : I .nowhere F0 h)
    (hAF : ∀ b, A b → ¬ F0 b) (sv : Value) (steps : List StepD) (hS : RSteps A h sv steps) (hsn : steps.length ≤ 1000) (hz : ∀ s, s ∈ steps → s.key.size ≤ 9223372036854775807) (hWn : ∀ s, s ∈ W → s.ks.length ≤ 100000) :
    Cl Tryz.prog χ 61 #[.iface t v0, sv] h (fun r h' => RAnss (Up N0 h h') h' r (walkP W .nowhere steps) ∧ KeepP F0 h h') := by
  obtain ⟨hlen, a, c, rfl, hx⟩ := hS.form
  refine cl_intro Tryz.func61 rfl rfl rfl ?_
  have K : Keep [] h h := Keep.refl _ _
  refine rG <| rA rfl rfl <| rN <| rG <| rA rfl rfl <| rN <| rG <| rA rfl rfl <| rA rfl rfl <| rN ?_
  refine tr_seq ?_
  refine rG <| rM rfl rfl <| rs_v (v_len u_sl_impl_Step rfl) rfl ?_
  refine rM rfl rfl <| rN <| tr_block ?_
  refine tr_loop (fun m E h' => ∃ k v n ok last F, k ≤ steps.length ∧ m = steps.length - k ∧ E = [(0, .iface t v0), (5, v), (6, .bool ok), (7, .int .u8 last), (12, .slice a steps.length c), (13, .int .i64 (steps.length : Int)), (14, .int .i64 (k : Int))] ∧ I (endP W .nowhere (steps.take k)) F h' ∧ (∀ b, F b → F0 b ∨ h.size ≤ b) ∧ KeepP F0 h h' ∧ n = (walkP W .nowhere (steps.take k)).length ∧ OutD F h h' h.size 66 5 cAns v n (walkP W .nowhere (steps.take k)) ∧ okl W (endP W .nowhere (steps.take k)) ok last) steps.length [(0, _), (5, _), (6, _), (7, _), (12, _), (13, _), (14, _)] ⟨rfl, rfl, rfl, rfl, rfl, rfl, rfl, trivial⟩ ⟨0, _, 0, false, 0, F0, Nat.zero_le _, rfl, rfl, hI0, fun b hb => .inl hb, KeepP.refl _ _, rfl, OutD.nil _ _ _ _ _ _ _, .inr ⟨rfl, .inr (.inr ⟨rfl, .inl rfl⟩)⟩⟩ ?_
  rintro m E hL1 ⟨k, v, n, ok, last, F, hk, rfl, rfl, hI, hFF, KP, hn, hout, hok⟩
  have K := Keep.refl [] hL1
  have hout0 := hout
  have hlow := hit.low hI
  have hz0 := KP.1
  obtain ⟨xs, G, O, hOD, hrow, hG⟩ := hout
  have hob := own_ne O; have KL := Keep.refl [] hL1
  refine rG <| rs_v (v_lt rfl rfl) rfl ?_
  refine rN ?_
  refine tr_seq ?_
  refine tr_ifn rfl (fun hif => ?_) (fun hif => ?_)
  · -- no
    simp only [dT, dF] at hif
    have hkk : k = steps.length := by omega
    subst hkk
    refine tr_exit <| q_thn_exit ?_
    refine q_lp_exit ?_
    refine q_blk_hit ?_
    refine q_thn ?_
    refine rG <| rM rfl rfl <| rA rfl rfl <| rN <| tr_ret <| q_ret (res_tmp rfl rfl) ?_
    rw [List.take_length] at hout0 hn
    exact ⟨hout0.fin cAns_st hn (Nat.le_refl _) cAns_r, KP⟩
  -- yes
  simp only [dT, dF] at hif
  rcases hx with rfl | ⟨b, o, rfl, hAb, hR⟩
  · simp at hif; omega
  obtain ⟨s, hsk⟩ := ex_get (L := steps) (k := k) (by omega)
  have hkl : k < steps.length := (List.getElem?_eq_some_iff.1 hsk).1
  have hcells : CellsAt hL1 b (o + k * 2) s.cells := (KP.stab hA hAF).cells hAb (hR k s hsk)
  have hkz := hz s (List.mem_of_getElem? hsk)
  have hnk : n = k := by rw [hn, walkP_len, List.length_take]; omega
  generalize hp : endP W .nowhere (steps.take k) = p at *
  refine tr_skip ?_
  refine q_thn ?_
  refine tr_seq ?_
  refine tr_block <| rG <| rs_v (v_indexAddrN u_sl_impl_Step siz_impl_Step rfl rfl (by omega)) rfl ?_
  refine rs_v (v_loadAgg (vs := [_, _]) many_impl_Step rfl (by exact hcells)) rfl ?_
  refine rs_w (w_new zero_impl_Step) rfl ?_
  rintro _ h2 ⟨rfl, B2, K2, Z2⟩
  have O := O.keep2 K2 (fun x hm => by have := hob x hm; simp; try omega)
  have S2 := K.1; have K := K.new0 K2; have KL := KL.new0 K2
  refine rs_w0 (w_put siz_impl_Step rfl rfl rfl rfl B2 rfl) ?_
  rintro _ h3 ⟨B3, K3⟩
  have O := O.keep2 K3 (fun x hm => by have := hob x hm; simp; try omega)
  have B2 := B3; have K := K.new1 K3 (by first | (right; omega) | (left; simp; done)); have Z3 := K3.1; have KL := KL.new1 K3 (.inr (by omega))
  refine rN ?_
  refine tr_seq ?_
  refine rG <| rF fa_impl_Step_0 rfl rfl <| rs_v (v_load one_uint8 rfl (by exact B2.cell _ rfl)) rfl ?_
  refine rM rfl rfl <| rM rfl rfl <| rs_w (w_call (vs := [_, _, _]) ok_impl_taken rfl ⟨rfl, rfl, rfl, trivial⟩ (c_taken χ _ W p s ok last hok)) rfl ?_
  rintro _ h4 ⟨rfl, hsame⟩; have hsame := hsame.symm; subst hsame
  refine rs_v (v_not rfl) rfl ?_
  refine rN ?_
  refine tr_if rfl (fun hif => ?_) (fun hif => ?_)
  · -- yes
    have hst : stepP W p s = none := by simpa using hif
    refine rG <| rM rfl rfl <| rs_v (v_build0 (bld_impl_SpanAnswer_)) rfl ?_
    refine rs_w (w_new1 u_sl_impl_SpanAnswer siz_impl_SpanAnswer zero_impl_SpanAnswer rfl rfl rfl rfl rfl) rfl ?_
    rintro _ h5 ⟨rfl, B5, K5, Z5⟩
    have B2 := K5.blk (by simp) B2
    have O := O.keep2 K5 (fun x hm => by have := hob x hm; simp; try omega)
    have S5 := K.1; have K := K.new0 K5; have KL := KL.new0 K5
    refine rs_w (w_app1 u_sl_impl_SpanAnswer info_impl_SpanAnswer rfl rfl rfl O rfl rfl B5 rfl (by omega) (by omega) (by omega)) rfl ?_
    rintro v6 h6 ⟨O6, K6, N6, F6⟩
    have Ka := K6; have Oa := O6; have Fa := F6; have Z6 := K6.1
    have B2 := K6.blk (fun hm => by first | (have := hob _ hm; omega) | exact absurd rfl (hnb _ hm)) B2
    have B5 := K6.blk (fun hm => by first | (have := hob _ hm; omega) | exact absurd rfl (hnb _ hm)) B5
    refine rA rfl rfl <| rN <| tr_exit <| q_thn_exit <| q_blk_hit ?_
    refine q_thn ?_
    refine tr_reg ?_
    refine rs_v (v_add rfl rfl (by omega) (by omega)) rfl ?_
    refine rM rfl rfl ?_
    refine rs_nil ?_
    refine q_lp (steps.length - (k + 1)) [(0, _), (5, _), (6, _), (7, _), (12, _), (13, _), (14, _)] (by omega) ⟨rfl, rfl, rfl, rfl, rfl, rfl, rfl, trivial⟩ ⟨k + 1, _, n + 1, _, _, F, by omega, rfl, rfl, ?_, hFF, ?_, ?_, ?_, ?_⟩
    · rw [take_snoc' hsk, endP_snoc, hp, hst]; exact hit.after hI KL Ka hOD
    · exact (KP.trans (KL.kp0 (F := fun _ => False)) (by simp)).trans (Ka.kp (F := fun x => h.size ≤ x) (fun x hx => (hob x hx).1)) (fun x hx => .inr hx)
    · rw [take_snoc' hsk, walkP_snoc, List.length_append, ← hn]; rfl
    · rw [take_snoc' hsk, walkP_snoc, hp, hst]
      exact OutD.snoc cAns_st (fun x hx => ⟨(hob x hx).1, by have := (hob x hx).2; omega⟩) hOD hrow hG hlow (by omega) KL Oa Ka Fa rfl (⟨_, rfl, SlR.nil _ _ _ _⟩)
    · rw [take_snoc' hsk, endP_snoc, hp, hst]; exact hok
  -- no
  have hst : ∃ pn, stepP W p s = some pn := by
    cases hs : stepP W p s with
    | none => rw [hs] at hif; simp at hif
    | some pn => exact ⟨pn, rfl⟩
  obtain ⟨pn, hst⟩ := hst
  refine tr_skip ?_
  refine q_thn ?_
  refine rG <| rA rfl rfl <| rN ?_
  refine tr_cut (fun E h' => ∃ r F', E = [(0, .iface t v0), (5, v), (9, .pointer (some ⟨hL1.size, 0, none⟩)), (12, .slice (some ⟨b, o, none⟩) steps.length c), (13, .int .i64 (steps.length : Int)), (14, .int .i64 (k : Int)), (10, r)] ∧ I pn F' h' ∧ (∀ b, F' b → F b ∨ h3.size ≤ b) ∧ KeepP F h3 h' ∧ Ret W pn F' h' r) ?_ ?_
  ·
    refine rG <| rF fa_impl_Step_0 rfl rfl <| rs_v (v_load one_uint8 rfl (by exact B2.cell _ rfl)) rfl ?_
    refine rN <| tr_block <| rG <| rs_v (v_eq rfl rfl) rfl ?_
    refine rA rfl rfl <| rN ?_
    refine tr_if rfl (fun hif => ?_) (fun hif => ?_)
    · -- yes
      simp only [dT, dF] at hif
      have hpn : pFirst W = pn := by simpa [stepP, hif] using hst
      refine tr_reg ?_
      refine rM rfl rfl <| rs_w (w_mcall (vs := []) (hit.first (hit.stab hI (KL.st hlow) KL.1)) rfl trivial) rfl ?_
      rintro r7 h7 ⟨F', hI', hF', KPm, hret⟩
      refine rA rfl rfl ?_
      refine rs_nil ?_
      refine q_blk_n ?_
      refine q_cut [(0, _), (5, _), (9, _), (12, _), (13, _), (14, _), (10, _)] ⟨rfl, rfl, rfl, rfl, rfl, rfl, rfl, trivial⟩ ⟨_, F', rfl, (by rw [← hpn]; exact hI'), hF', KPm, (by rw [← hpn]; exact hret)⟩
    -- no
    simp only [dT, dF] at hif
    have hno0 := hif
    refine rG <| rs_v (v_eq rfl rfl) rfl ?_
    refine rA rfl rfl <| rN ?_
    refine tr_if rfl (fun hif => ?_) (fun hif => ?_)
    · -- yes
      simp only [dT, dF] at hif
      have hpn : pLast W = pn := by simpa [stepP, hif] using hst
      refine tr_reg ?_
      refine rM rfl rfl <| rs_w (w_mcall (vs := []) (hit.last (hit.stab hI (KL.st hlow) KL.1)) rfl trivial) rfl ?_
      rintro r8 h8 ⟨F', hI', hF', KPm, hret⟩
      refine rA rfl rfl ?_
      refine rs_nil ?_
      refine q_blk_n ?_
      refine q_cut [(0, _), (5, _), (9, _), (12, _), (13, _), (14, _), (10, _)] ⟨rfl, rfl, rfl, rfl, rfl, rfl, rfl, trivial⟩ ⟨_, F', rfl, (by rw [← hpn]; exact hI'), hF', KPm, (by rw [← hpn]; exact hret)⟩
    -- no
    simp only [dT, dF] at hif
    have hno1 := hif
    refine rG <| rs_v (v_eq rfl rfl) rfl ?_
    refine rA rfl rfl <| rN ?_
    refine tr_if rfl (fun hif => ?_) (fun hif => ?_)
    · -- yes
      simp only [dT, dF] at hif
      have hcan : canNext p = true ∧ pNext W p = pn := by simpa [stepP, hif] using hst
      have hpn := hcan.2
      refine tr_reg ?_
      refine rM rfl rfl <| rs_w (w_mcall (vs := []) (hit.next (hit.stab hI (KL.st hlow) KL.1) hcan.1) rfl trivial) rfl ?_
      rintro r9 h9 ⟨F', hI', hF', KPm, hret⟩
      refine rA rfl rfl ?_
      refine rs_nil ?_
      refine q_blk_n ?_
      refine q_cut [(0, _), (5, _), (9, _), (12, _), (13, _), (14, _), (10, _)] ⟨rfl, rfl, rfl, rfl, rfl, rfl, rfl, trivial⟩ ⟨_, F', rfl, (by rw [← hpn]; exact hI'), hF', KPm, (by rw [← hpn]; exact hret)⟩
    -- no
    simp only [dT, dF] at hif
    have hno2 := hif
    refine rG <| rs_v (v_eq rfl rfl) rfl ?_
    refine rA rfl rfl <| rN ?_
    refine tr_if rfl (fun hif => ?_) (fun hif => ?_)
    · -- yes
      simp only [dT, dF] at hif
      have hcan : canPrev p = true ∧ pPrev W p = pn := by simpa [stepP, hif] using hst
      have hpn := hcan.2
      refine tr_reg ?_
      refine rM rfl rfl <| rs_w (w_mcall (vs := []) (hit.prev (hit.stab hI (KL.st hlow) KL.1) hcan.1) rfl trivial) rfl ?_
      rintro r10 h10 ⟨F', hI', hF', KPm, hret⟩
      refine rA rfl rfl ?_
      refine rs_nil ?_
      refine q_blk_n ?_
      refine q_cut [(0, _), (5, _), (9, _), (12, _), (13, _), (14, _), (10, _)] ⟨rfl, rfl, rfl, rfl, rfl, rfl, rfl, trivial⟩ ⟨_, F', rfl, (by rw [← hpn]; exact hI'), hF', KPm, (by rw [← hpn]; exact hret)⟩
    -- no
    simp only [dT, dF] at hif
    have hno3 := hif
    refine rG <| rs_v (v_eq rfl rfl) rfl ?_
    refine rA rfl rfl <| rN ?_
    refine tr_if rfl (fun hif => ?_) (fun hif => ?_)
    · -- yes
      simp only [dT, dF] at hif
      have hpn : pGE W s.key = pn := by simpa [stepP, hif] using hst
      refine tr_reg ?_
      refine rM rfl rfl <| rF fa_impl_Step_1 rfl rfl <| rs_v (v_load one_string rfl (by exact B2.cell _ rfl)) rfl ?_
      refine rs_w (w_bytes u_string u_sl_uint8 u_uint8 rfl (by omega)) rfl ?_
      rintro _ h11 ⟨c11, rfl, K11, hbk⟩
      have Kv := K11
      have B2 := K11.blk (by simp) B2
      have O := O.keep2 K11 (fun x hm => by have := hob x hm; simp; try omega)
      have K := K.new0 K11; have Z11 := K11.1; have KL := KL.new0 K11
      refine rs_w (w_mcall (vs := [_]) (hit.ge (key := s.key) (hit.stab hI (KL.st hlow) KL.1) (hbk.mono (fun b hb hf => by have := hlow b hf; omega))) rfl ⟨rfl, trivial⟩) rfl ?_
      rintro r12 h12 ⟨F', hI', hF', KPm, hret⟩
      refine rA rfl rfl ?_
      refine rs_nil ?_
      refine q_blk_n ?_
      refine q_cut [(0, _), (5, _), (9, _), (12, _), (13, _), (14, _), (10, _)] ⟨rfl, rfl, rfl, rfl, rfl, rfl, rfl, trivial⟩ ⟨_, F', rfl, (by rw [← hpn]; exact hI'), (fun b hb => (hF' b hb).imp id (fun h9 => by have := Kv.1; omega)), ((Kv.kp0).trans KPm (fun b hb => .inl hb)), (by rw [← hpn]; exact hret)⟩
    -- no
    simp only [dT, dF] at hif
    have hno4 := hif
    refine rG <| rs_v (v_eq rfl rfl) rfl ?_
    refine rA rfl rfl <| rN ?_
    refine tr_if rfl (fun hif => ?_) (fun hif => ?_)
    · -- yes
      simp only [dT, dF] at hif
      have hpn : pLT W s.key = pn := by simpa [stepP, hif] using hst
      refine tr_reg ?_
      refine rM rfl rfl <| rF fa_impl_Step_1 rfl rfl <| rs_v (v_load one_string rfl (by exact B2.cell _ rfl)) rfl ?_
      refine rs_w (w_bytes u_string u_sl_uint8 u_uint8 rfl (by omega)) rfl ?_
      rintro _ h13 ⟨c13, rfl, K13, hbk⟩
      have Kv := K13
      have B2 := K13.blk (by simp) B2
      have O := O.keep2 K13 (fun x hm => by have := hob x hm; simp; try omega)
      have K := K.new0 K13; have Z13 := K13.1; have KL := KL.new0 K13
      refine rs_w (w_mcall (vs := [_]) (hit.lt (key := s.key) (hit.stab hI (KL.st hlow) KL.1) (hbk.mono (fun b hb hf => by have := hlow b hf; omega))) rfl ⟨rfl, trivial⟩) rfl ?_
      rintro r14 h14 ⟨F', hI', hF', KPm, hret⟩
      refine rA rfl rfl ?_
      refine rs_nil ?_
      refine q_blk_n ?_
      refine q_cut [(0, _), (5, _), (9, _), (12, _), (13, _), (14, _), (10, _)] ⟨rfl, rfl, rfl, rfl, rfl, rfl, rfl, trivial⟩ ⟨_, F', rfl, (by rw [← hpn]; exact hI'), (fun b hb => (hF' b hb).imp id (fun h9 => by have := Kv.1; omega)), ((Kv.kp0).trans KPm (fun b hb => .inl hb)), (by rw [← hpn]; exact hret)⟩
    -- no
    simp only [dT, dF] at hif
    have hno5 := hif
    refine tr_skip <| q_blk_n ?_
    exact absurd hst (by simp [stepP, hno0, hno1, hno2, hno3, hno4, hno5])
  rintro E hc ⟨r, F', rfl, hI', hF', KP', hret⟩
  have hlow' := hit.low hI'
  have hB2 : ¬ F hL1.size := fun hf => by have := hlow _ hf; omega
  have B2 := KP'.blk hB2 B2
  have hcz := KP'.1
  have hKL := KL.1
  have KP3 := (KP.trans (KL.kp0 (F := fun _ => False)) (by simp)).trans KP' hFF
  have hcz3 := KP3.1
  have hFF' : ∀ b, F' b → F0 b ∨ h.size ≤ b := fun b hb => (hF' b hb).elim (hFF b) (fun h9 => .inr (by omega))
  have hout4 := (hout0.move cAns_st KL.kp0 (fun b hb => Or.inl hb)).move cAns_st KP' hF'
  obtain ⟨xs, G, O, hOD, hrow, hG⟩ := hout4
  have K := Keep.refl [] hc
  have KL := Keep.refl [] hc
  obtain ⟨q, rfl, hq⟩ := hret.form
  have hst' : endP W .nowhere (steps.take (k + 1)) = pn := by rw [take_snoc' hsk, endP_snoc, hp, hst]; rfl
  have hwk : walkP W .nowhere (steps.take (k + 1)) = walkP W .nowhere (steps.take k) ++ [⟨true, (cur W pn).isSome, (cur W pn).getD zeroSpan⟩] := by rw [take_snoc' hsk, walkP_snoc, hp, hst]; rfl
  have hok' := okl_step hok hst
  refine rG <| rs_v (v_build1 rfl (bld_impl_SpanAnswer_0 _)) rfl ?_
  refine rs_w (w_new zero_impl_SpanAnswer) rfl ?_
  rintro _ h16 ⟨rfl, B16, K16, Z16⟩
  have B2 := K16.blk (by simp) B2
  have O := O.keep2 K16 (fun x hm => by have := hob x hm; simp; try omega)
  have S16 := K.1; have K := K.new0 K16; have KL := KL.new0 K16
  refine rs_w0 (w_put siz_impl_SpanAnswer rfl rfl rfl rfl B16 rfl) ?_
  rintro _ h17 ⟨B17, K17⟩
  have B2 := K17.blk (by simp; omega) B2
  have O := O.keep2 K17 (fun x hm => by have := hob x hm; simp; try omega)
  have B16 := B17; have K := K.new1 K17 (by first | (right; omega) | (left; simp; done)); have Z17 := K17.1; have KL := KL.new1 K17 (.inr (by omega))
  refine rN ?_
  refine tr_seq ?_
  refine rG <| rM rfl rfl <| rs_v (v_pne u_p_keyspan_Span rfl rfl) rfl ?_
  refine rN ?_
  refine tr_if rfl (fun hif => ?_) (fun hif => ?_)
  · -- yes
    rcases hq with ⟨rfl, _⟩ | ⟨sp, pb, po, rfl, hcur, hFp, hps⟩
    · simp at hif
    obtain ⟨sv, ev, kv, kk, hcell, r1, r2, r3⟩ := hps
    obtain ⟨a1, n1, c1, rfl⟩ := r1.form2
    obtain ⟨a2, n2, c2, rfl⟩ := r2.form2
    obtain ⟨a3, n3, c3, rfl⟩ := r3.form2
    refine tr_reg ?_
    refine rM rfl rfl <| rC rfl rfl <| rs_v (v_loadAgg (vs := [_, _, _, _]) many_keyspan_Span rfl (by exact K.cells (by simp) hcell)) rfl ?_
    refine rs_w (w_call (vs := [_]) ok_impl_plainSpan rfl ⟨rfl, trivial⟩ (c_plainSpan χ _ F' (hlow'.mono (by omega)) sp _ _ _ kk (r1.stab (K.st hlow')) (r2.stab (K.st hlow')) (r3.stab (K.st hlow')) (hWn sp (cur_mem hcur)))) rfl ?_
    rintro _ h18 ⟨⟨kv', rfl, hkv⟩, K18⟩
    obtain ⟨a4, c4, rfl⟩ := hkv.form2
    have Kp := K18
    have B2 := K18.blk (by simp) B2
    have B16 := K18.blk (by simp) B16
    have O := O.keep2 K18 (fun x hm => by have := hob x hm; simp; try omega)
    have K := K.new0 K18; have Z18 := K18.1; have KL := KL.new0 K18
    refine rF fa_impl_SpanAnswer_1 rfl rfl <| rs_w0 (w_put siz_bool rfl rfl rfl rfl B16 rfl) ?_
    rintro _ h19 ⟨B19, K19⟩
    have B2 := K19.blk (by simp; omega) B2
    have O := O.keep2 K19 (fun x hm => by have := hob x hm; simp; try omega)
    have B16 := B19; have K := K.new1 K19 (by first | (right; omega) | (left; simp; done)); have Z19 := K19.1; have KL := KL.new1 K19 (.inr (by omega))
    refine rF fa_impl_SpanAnswer_2 rfl rfl <| rs_w0 (w_put siz_impl_Span rfl rfl rfl rfl B16 rfl) ?_
    rintro _ h20 ⟨B20, K20⟩
    have B2 := K20.blk (by simp; omega) B2
    have O := O.keep2 K20 (fun x hm => by have := hob x hm; simp; try omega)
    have B16 := B20; have K := K.new1 K20 (by first | (right; omega) | (left; simp; done)); have Z20 := K20.1; have KL := KL.new1 K20 (.inr (by omega))
    refine rN ?_
    refine tr_seq ?_
    refine tr_quiet (by kernel_rfl) (by kernel_rfl) ?_
    refine rq_v (v_move rfl) <| rq_v (v_pne u_p_keyspan_Span rfl rfl) ?_
    refine rq_v (v_fieldAddr fa_impl_Step_0 rfl) <| rq_v (v_load one_uint8 rfl (by exact B2.cell _ rfl)) ?_
    refine rq_v (v_assign rfl) <| rq_v (v_assign rfl) ?_
    refine rm_end ?_; simp only [endM, hypF, ofE, argE]
    refine q_thn ?_
    refine tr_reg ?_
    refine rM rfl rfl <| rs_v (v_loadAgg (vs := [_, _, _, _, _]) many_impl_SpanAnswer rfl (by exact B16.sub _ 5 rfl)) rfl ?_
    refine rs_w (w_new1 u_sl_impl_SpanAnswer siz_impl_SpanAnswer zero_impl_SpanAnswer rfl rfl rfl rfl rfl) rfl ?_
    rintro _ h21 ⟨rfl, B21, K21, Z21⟩
    have B2 := K21.blk (by simp) B2
    have B16 := K21.blk (by simp) B16
    have O := O.keep2 K21 (fun x hm => by have := hob x hm; simp; try omega)
    have S21 := K.1; have K := K.new0 K21; have KL := KL.new0 K21
    refine rs_w (w_app1 u_sl_impl_SpanAnswer info_impl_SpanAnswer rfl rfl rfl O rfl rfl B21 rfl (by omega) (by omega) (by omega)) rfl ?_
    rintro v22 h22 ⟨O22, K22, N22, F22⟩
    have Ka := K22; have Oa := O22; have Fa := F22; have Z22 := K22.1
    have B2 := K22.blk (fun hm => by first | (have := hob _ hm; omega) | exact absurd rfl (hnb _ hm)) B2
    have B16 := K22.blk (fun hm => by first | (have := hob _ hm; omega) | exact absurd rfl (hnb _ hm)) B16
    have B21 := K22.blk (fun hm => by first | (have := hob _ hm; omega) | exact absurd rfl (hnb _ hm)) B21
    refine rA rfl rfl ?_
    refine rs_nil ?_
    refine q_blk_n ?_
    refine q_thn ?_
    refine tr_reg ?_
    refine rs_v (v_add rfl rfl (by omega) (by omega)) rfl ?_
    refine rM rfl rfl ?_
    refine rs_nil ?_
    refine q_lp (steps.length - (k + 1)) [(0, _), (5, _), (6, _), (7, _), (12, _), (13, _), (14, _)] (by omega) ⟨rfl, rfl, rfl, rfl, rfl, rfl, rfl, trivial⟩ ⟨k + 1, _, n + 1, _, _, F', by omega, rfl, rfl, ?_, hFF', ?_, ?_, ?_, ?_⟩
    · rw [hst']; exact hit.after hI' KL Ka hOD
    · exact (KP3.trans (KL.kp0 (F := fun _ => False)) (by simp)).trans (Ka.kp (F := fun x => h.size ≤ x) (fun x hx => (hob x hx).1)) (fun x hx => .inr hx)
    · rw [hwk, List.length_append, ← hn]; rfl
    · rw [hwk, hcur]
      exact OutD.snoc cAns_st (fun x hx => ⟨(hob x hx).1, by have := (hob x hx).2; omega⟩) hOD hrow hG hlow' (by omega) KL Oa Ka Fa rfl (⟨_, rfl, (upk (n0low _) (by omega) (rk_skip (rk_skip hkv Kp.1 K19 (by omega)) (by omega) K20 (by omega)) K21).mono (fun b hb => hb.elim (fun e => e.elim) (fun e => ⟨by omega, e.2⟩))⟩)
    · rw [hst']; rw [hcur] at hok'; exact hok'
  -- no
  rcases hq with ⟨rfl, hcur⟩ | ⟨sp, pb, po, rfl, _⟩
  rotate_left
  · simp at hif
  refine tr_skip ?_
  refine q_thn ?_
  refine tr_seq ?_
  refine tr_quiet (by kernel_rfl) (by kernel_rfl) ?_
  refine rq_v (v_move rfl) <| rq_v (v_pne u_p_keyspan_Span rfl rfl) ?_
  refine rq_v (v_fieldAddr fa_impl_Step_0 rfl) <| rq_v (v_load one_uint8 rfl (by exact B2.cell _ rfl)) ?_
  refine rq_v (v_assign rfl) <| rq_v (v_assign rfl) ?_
  refine rm_end ?_; simp only [endM, hypF, ofE, argE]
  refine q_thn ?_
  refine tr_reg ?_
  refine rM rfl rfl <| rs_v (v_loadAgg (vs := [_, _, _, _, _]) many_impl_SpanAnswer rfl (by exact B16.sub _ 5 rfl)) rfl ?_
  refine rs_w (w_new1 u_sl_impl_SpanAnswer siz_impl_SpanAnswer zero_impl_SpanAnswer rfl rfl rfl rfl rfl) rfl ?_
  rintro _ h23 ⟨rfl, B23, K23, Z23⟩
  have B2 := K23.blk (by simp) B2
  have B16 := K23.blk (by simp) B16
  have O := O.keep2 K23 (fun x hm => by have := hob x hm; simp; try omega)
  have S23 := K.1; have K := K.new0 K23; have KL := KL.new0 K23
  refine rs_w (w_app1 u_sl_impl_SpanAnswer info_impl_SpanAnswer rfl rfl rfl O rfl rfl B23 rfl (by omega) (by omega) (by omega)) rfl ?_
  rintro v24 h24 ⟨O24, K24, N24, F24⟩
  have Ka := K24; have Oa := O24; have Fa := F24; have Z24 := K24.1
  have B2 := K24.blk (fun hm => by first | (have := hob _ hm; omega) | exact absurd rfl (hnb _ hm)) B2
  have B16 := K24.blk (fun hm => by first | (have := hob _ hm; omega) | exact absurd rfl (hnb _ hm)) B16
  have B23 := K24.blk (fun hm => by first | (have := hob _ hm; omega) | exact absurd rfl (hnb _ hm)) B23
  refine rA rfl rfl ?_
  refine rs_nil ?_
  refine q_blk_n ?_
  refine q_thn ?_
  refine tr_reg ?_
  refine rs_v (v_add rfl rfl (by omega) (by omega)) rfl ?_
  refine rM rfl rfl ?_
  refine rs_nil ?_
  refine q_lp (steps.length - (k + 1)) [(0, _), (5, _), (6, _), (7, _), (12, _), (13, _), (14, _)] (by omega) ⟨rfl, rfl, rfl, rfl, rfl, rfl, rfl, trivial⟩ ⟨k + 1, _, n + 1, _, _, F', by omega, rfl, rfl, ?_, hFF', ?_, ?_, ?_, ?_⟩
  · rw [hst']; exact hit.after hI' KL Ka hOD
  · exact (KP3.trans (KL.kp0 (F := fun _ => False)) (by simp)).trans (Ka.kp (F := fun x => h.size ≤ x) (fun x hx => (hob x hx).1)) (fun x hx => .inr hx)
  · rw [hwk, List.length_append, ← hn]; rfl
  · rw [hwk, hcur]
    exact OutD.snoc cAns_st (fun x hx => ⟨(hob x hx).1, by have := (hob x hx).2; omega⟩) hOD hrow hG hlow' (by omega) KL Oa Ka Fa rfl (⟨_, rfl, SlR.nil _ _ _ _⟩)
  · rw [hst']; rw [hcur] at hok'; exact hok'
set_option maxHeartbeats 1000000
theorem Own.cut0 {h : Heap} {base : Nat} {e : TypeId} {sz : Nat} {a : Option Addr} {m c n : Nat} {xs : List Value} (ho : Own h base e sz (.slice a m c) n xs) : Own h base e sz (.slice a 0 c) 0 [] := by
  refine ⟨by simp, ?_⟩
  rcases ho.2 with ⟨hv, hn⟩ | ⟨g, cap, cur, hv, hb, hg, hn, hc, hs, _⟩
  · cases hv; exact .inl ⟨rfl, rfl⟩
  · cases hv; exact .inr ⟨g, _, cur, rfl, hb, hg, by omega, hc, hs, by simp⟩
theorem Own.form3 {h : Heap} {base : Nat} {e : TypeId} {sz : Nat} {v : Value} {n : Nat} {xs : List Value} (ho : Own h base e sz v n xs) : ∃ a c, v = .slice a n c := by
  rcases ho.form with ⟨rfl, rfl, _⟩ | ⟨g, cap, rfl, _⟩
  · exact ⟨none, 0, rfl⟩
  · exact ⟨_, _, rfl⟩
theorem own_block0 {a : Option Addr} {m c m2 c2 : Nat} : (Value.slice a m c).ownBlock = (Value.slice a m2 c2).ownBlock := by cases a <;> rfl
theorem filter_snoc {α : Type} {f : α → Bool} {l : List α} {x : α} : (l ++ [x]).filter f = if f x then l.filter f ++ [x] else l.filter f := by
  rw [List.filter_append]
  by_cases h : f x = true
  · simp [h]
  · simp [h]
def FnPost (ff : SpanD → Option SpanD) (s : SpanD) (G : Nat → Prop) (c : Nat) (x0 x1 x2 : Value) (kk : Int) (X : List Nat) (h : Heap) (r : Value) (h' : Heap) : Prop :=
  r = .bool (ff s).isSome ∧ ∃ sv ev kv n xs, Blk h' c [x0, x1, x2, sv, ev, kv, .int .i8 0] 228 ∧ Own h' 0 194 3 kv n xs ∧ Keep (c :: X) h h' ∧
    (∀ x, x ∈ kv.ownBlock.toList → (x ∈ X ∨ h.size ≤ x) ∧ x ≠ c) ∧ ∀ s', ff s = some s' → RBytes G h' sv s'.s ∧ RBytes G h' ev s'.e ∧ n = s'.ks.length ∧ RowsR 3 (cPKey G h') xs s'.ks
set_option maxHeartbeats 1000000
structure FnOK (χ : Chi) (W : List SpanD) (ff : SpanD → Option SpanD) (fv : Value) (G0 : Nat → Prop) (Env : Heap → Prop) : Prop where
  form : ∃ f cap, fv = .func (.func f) #[] (List.toArray cap) ∧ callOk Tryz.prog f = true ∧ ∀ (h : Heap) (Fin : Nat → Prop) (s : SpanD) (bi oi c : Nat) (x0 x1 x2 sv0 ev0 kv0 : Value) (kk : Int) (n0 : Nat) (xs0 : List Value),
    Low Fin h → PSpan Fin h bi oi s → Fin bi → Blk h c [x0, x1, x2, sv0, ev0, kv0, .int .i8 0] 228 → ¬ Fin c → Own h 0 194 3 kv0 n0 xs0 → (∀ x, x ∈ kv0.ownBlock.toList → x ≠ c ∧ ¬ Fin x ∧ ¬ G0 x) → Env h → ¬ G0 c → s ∈ W →
    Cl Tryz.prog χ f (([] : List Value) ++ ([Value.pointer (some ⟨bi, oi, none⟩), Value.pointer (some ⟨c, 3, none⟩)] : List Value) ++ cap).toArray h (FnPost ff s (fun b => Fin b ∨ G0 b) c x0 x1 x2 kk kv0.ownBlock.toList h)
  low : ∀ {h}, Env h → Low G0 h
  stab : ∀ {h h'}, Env h → Stab G0 h h' → h.size ≤ h'.size → Env h'
def FSt (I : ItI) (t : TypeId) (v0 fv : Value) (c : Nat) (G0 : Nat → Prop) (Env : Heap → Prop) (q : Pos) (Fin F : Nat → Prop) (h : Heap) (sv ev kv : Value) (kk : Int) (n : Nat) (xs : List Value) : Prop :=
  I q Fin h ∧ Blk h c [.iface t v0, fv, cmpF, sv, ev, kv, .int .i8 0] 228 ∧ Own h 0 194 3 kv n xs ∧ Env h ∧ (∀ x, x ∈ kv.ownBlock.toList → x ≠ c ∧ ¬ Fin x ∧ ¬ G0 x) ∧ ¬ Fin c ∧ ¬ G0 c ∧
    (∀ b, Fin b → ¬ G0 b) ∧ (∀ b, Fin b → F b) ∧ F c ∧ (∀ x, x ∈ kv.ownBlock.toList → F x) ∧ (∀ b, G0 b → F b) ∧ Low F h
def FIt (ff : SpanD → Option SpanD) (W : List SpanD) (I : ItI) (t : TypeId) (v0 fv : Value) (c : Nat) (G0 : Nat → Prop) (Env : Heap → Prop) : ItI := fun p F h =>
  ∃ q Fin sv ev kv kk n xs, FSt I t v0 fv c G0 Env q Fin F h sv ev kv kk n xs ∧ relP ff W p q
section
variable {χ : Chi} {ff : SpanD → Option SpanD} {fv : Value} {G0 : Nat → Prop} {Env : Heap → Prop} {W : List SpanD} {t : TypeId} {v0 : Value} {I : ItI} {c : Nat} {q q' : Pos} {Fin F : Nat → Prop} {h h' : Heap} {sv ev kv : Value} {kk : Int} {n : Nat} {xs : List Value}
theorem fst_inner (hit : IterOK Tryz.prog χ W t v0 I) (hfn : FnOK χ W ff fv G0 Env) (hs : FSt I t v0 fv c G0 Env q Fin F h sv ev kv kk n xs) {r : Value} (hp : ItPost W I Fin h q' r h') :
    ∃ Fin', FSt I t v0 fv c G0 Env q' Fin' (fun b => F b ∨ Fin' b) h' sv ev kv kk n xs ∧ (∀ b, Fin' b → Fin b ∨ h.size ≤ b) ∧ KeepP F h h' ∧ Ret W q' Fin' h' r := by
  obtain ⟨Fin', hI', hF', KP, hret⟩ := hp
  obtain ⟨hI, B, O, hE, hx, hc, hg, hd, hs1, hs2, hs3, hs4, hl⟩ := hs
  have hg0 := hfn.low hE
  have hcl := B.lt
  have hob := own_ne O
  have hl' := hit.low hI'
  refine ⟨Fin', ⟨hI', KP.blk hc B, KP.own O (fun b hb => (hx b (by rw [hb]; simp)).2.1), hfn.stab hE (KP.stab hg0 (fun b hb hf => hd b hf hb)) KP.1, fun x hm => ⟨(hx x hm).1, fun hf => ?_, (hx x hm).2.2⟩, fun hf => ?_, hg, fun b hb hg' => ?_,
    fun b hb => .inr hb, .inl hs2, fun x hm => .inl (hs3 x hm), fun b hb => .inl (hs4 b hb), fun b hb => ?_⟩, hF', ⟨KP.1, fun b hb hF => KP.2 b hb (fun hf => hF (hs1 b hf))⟩, hret⟩
  · rcases hF' x hf with h1 | h1
    · exact (hx x hm).2.1 h1
    · have := (hob x hm).2; omega
  · rcases hF' c hf with h1 | h1
    · exact hc h1
    · omega
  · rcases hF' b hb with h1 | h1
    · exact hd b h1 hg'
    · have := hg0 b hg'; omega
  · rcases hb with hb | hb
    · have := hl b hb; have := KP.1; omega
    · exact hl' b hb
theorem fst_fn (hit : IterOK Tryz.prog χ W t v0 I) (hfn : FnOK χ W ff fv G0 Env) (hs : FSt I t v0 fv c G0 Env q Fin F h sv ev kv kk n xs) {s : SpanD} {r : Value} (hp : FnPost ff s (fun b => Fin b ∨ G0 b) c (.iface t v0) fv cmpF kk kv.ownBlock.toList h r h') :
    r = .bool (ff s).isSome ∧ ∃ sv' ev' kv' n' xs', FSt I t v0 fv c G0 Env q Fin (fun b => F b ∨ b ∈ kv'.ownBlock.toList) h' sv' ev' kv' kk n' xs' ∧ KeepP F h h' ∧ Stab Fin h h' ∧ (∀ x, x ∈ kv'.ownBlock.toList → F x ∨ h.size ≤ x) ∧
      ∀ s', ff s = some s' → RBytes (fun b => Fin b ∨ G0 b) h' sv' s'.s ∧ RBytes (fun b => Fin b ∨ G0 b) h' ev' s'.e ∧ n' = s'.ks.length ∧ RowsR 3 (cPKey (fun b => Fin b ∨ G0 b) h') xs' s'.ks := by
  obtain ⟨e, sv', ev', kv', n', xs', B', O', K, hm', hr⟩ := hp
  obtain ⟨hI, B, O, hE, hx, hc, hg, hd, hs1, hs2, hs3, hs4, hl⟩ := hs
  have hlF := hit.low hI
  have hg0 := hfn.low hE
  have hsF : Stab Fin h h' := K.stab fun b hb => ⟨hlF b hb, fun hm => by
    rcases List.mem_cons.1 hm with e | e
    · subst e; exact hc hb
    · exact (hx b e).2.1 hb⟩
  have hsG : Stab G0 h h' := K.stab fun b hb => ⟨hg0 b hb, fun hm => by
    rcases List.mem_cons.1 hm with e | e
    · subst e; exact hg hb
    · exact (hx b e).2.2 hb⟩
  have hob' := own_ne O'
  refine ⟨e, sv', ev', kv', n', xs', ⟨hit.stab hI hsF K.1, B', O', hfn.stab hE hsG K.1, fun x hm => ⟨(hm' x hm).2, fun hf => ?_, fun hf => ?_⟩, hc, hg, hd, fun b hb => .inl (hs1 b hb), .inl hs2, fun x hm => .inr hm, fun b hb => .inl (hs4 b hb), fun b hb => ?_⟩, K.kp fun x hm => ?_, hsF, fun x hm => ?_, hr⟩
  · rcases (hm' x hm).1 with h1 | h1
    · exact (hx x h1).2.1 hf
    · have := hlF x hf; omega
  · rcases (hm' x hm).1 with h1 | h1
    · exact (hx x h1).2.2 hf
    · have := hg0 x hf; omega
  · rcases hb with hb | hb
    · have := hl b hb; have := K.1; omega
    · exact (hob' b hb).2
  · rcases List.mem_cons.1 hm with e | e
    · subst e; exact hs2
    · exact hs3 x e
  · rcases (hm' x hm).1 with h1 | h1
    · exact .inl (hs3 x h1)
    · exact .inr h1
theorem SlR.of_rows2 {α : Type} {h : Heap} {base : Nat} {e : TypeId} {sz : Nat} {v : Value} {n : Nat} {cs : List Value} {A : Nat → Prop} {R0 : List Value → α → Prop} {R : Heap → Nat → Nat → α → Prop} {xs : List α}
    (ho : Own h base e sz v n cs) (hn : n = xs.length) (hrow : RowsR sz R0 cs xs) (hA : ∀ b, b ∈ v.ownBlock.toList → A b)
    (hR : ∀ b o c a, CellsAt h b o c → R0 c a → R h b o a) : SlR h A sz R v xs := by
  rcases ho.form with ⟨rfl, rfl, rfl⟩ | ⟨g, cap, rfl, h0, h1, h2, h3, h4, h5⟩
  · have : xs = [] := List.eq_nil_of_length_eq_zero hn.symm
    subst this
    exact SlR.nil h A sz R
  · subst hn
    refine ⟨by unfold maxLen at h4; omega, _, _, rfl, fun i x hi => ⟨g, 0, rfl, hA g (by rw [h0]; simp), ?_⟩⟩
    obtain ⟨c, _, h6, h7⟩ := hrow.at h5 hi
    exact hR _ _ _ _ h6 h7
end
theorem c_FiError {W : List SpanD} {t : TypeId} {v0 : Value} {I : ItI} (χ : Chi) (hit : IterOK Tryz.prog χ W t v0 I) (h : Heap) (c : Nat) (q : Pos) (Fin : Nat → Prop) (rest : List Value) (hI : I q Fin h) (Bc : Blk h c (.iface t v0 :: rest) 228) :
    Cl Tryz.prog χ 211 #[.pointer (some ⟨c, 0, none⟩)] h (fun r h' => r = .nilIface ∧ h' = h) := by
  refine cl_intro Tryz.func211 rfl rfl rfl ?_
  have K : Keep [] h h := Keep.refl _ _
  refine rG <| rA rfl rfl <| rN <| rG <| rM rfl rfl <| rC rfl rfl <| rF fa_keyspan_filteringIter_0 rfl rfl <| rs_v (v_load one_keyspan_FragmentIterator rfl (by exact Bc.cell _ rfl)) rfl ?_
  refine rs_w (w_mcall (vs := []) (hit.err hI) rfl trivial) rfl ?_
  rintro _ h1 ⟨rfl, hsame⟩; have hsame := hsame.symm; subst hsame
  refine rA rfl rfl <| rN <| tr_ret <| q_ret (res_tmp rfl rfl) ?_
  exact ⟨rfl, rfl⟩
set_option maxHeartbeats 1000000
def mF (W : List SpanD) : Pos → Nat
  | .pt i => W.length - i
  | _ => 0
def mB : Pos → Nat
  | .pt i => i + 1
  | _ => 0
theorem mF_next {W : List SpanD} {i : Nat} (hi : i < W.length) : mF W (pNext W (.pt i)) < mF W (.pt i) := by
  simp only [pNext]
  by_cases e : i + 1 < W.length
  · rw [if_pos e]; simp only [mF]; omega
  · rw [if_neg e]; simp only [mF]; omega
theorem mB_prev {W : List SpanD} {i : Nat} : mB (pPrev W (.pt i)) < mB (.pt i) := by
  simp only [pPrev]
  by_cases e : i = 0
  · rw [if_pos e]; simp only [mB]; omega
  · rw [if_neg e]; simp only [mB]; omega
theorem in_next {W : List SpanD} {i : Nat} : ∀ j, pNext W (.pt i) = .pt j → j < W.length := by
  intro j h
  simp only [pNext] at h
  by_cases e : i + 1 < W.length
  · rw [if_pos e] at h; cases h; exact e
  · rw [if_neg e] at h; cases h
theorem in_prev {W : List SpanD} {i : Nat} (hi : i < W.length) : ∀ j, pPrev W (.pt i) = .pt j → j < W.length := by
  intro j h
  simp only [pPrev] at h
  by_cases e : i = 0
  · rw [if_pos e] at h; cases h
  · rw [if_neg e] at h; cases h; omega
theorem cur_some {W : List SpanD} {q : Pos} {s : SpanD} (h : cur W q = some s) : ∃ i, q = .pt i ∧ W[i]? = some s := by
  cases q with
  | pt i => exact ⟨i, rfl, h⟩
  | _ => simp [cur] at h
theorem c_filterF {χ : Chi} {ff : SpanD → Option SpanD} {fv : Value} {G0 : Nat → Prop} {Env : Heap → Prop} {W : List SpanD} {t : TypeId} {v0 : Value} {I : ItI} {c : Nat} {q : Pos} {Fin F : Nat → Prop} {h : Heap} {sv ev kv : Value} {kk : Int} {n : Nat} {xs : List Value} {r0 : Value}
    (hit : IterOK Tryz.prog χ W t v0 I) (hfn : FnOK χ W ff fv G0 Env) (hWn : ∀ s, s ∈ W → s.ks.length ≤ 100000) (hin : ∀ i, q = .pt i → i < W.length) (hs0 : FSt I t v0 fv c G0 Env q Fin F h sv ev kv kk n xs) (hret0 : Ret W q Fin h r0) :
    Cl Tryz.prog χ 218 #[.pointer (some ⟨c, 0, none⟩), r0, .int .i8 1] h (ItPost (W.filterMap ff) (FIt ff W I t v0 fv c G0 Env) F h (fwdP ff W q)) := by
  have hfn0 := hfn
  obtain ⟨f, cap, rfl, hokf, hcl⟩ := hfn0.form
  have Bc := hs0.2.1
  obtain ⟨q0, rfl, _⟩ := hret0.form
  refine cl_intro Tryz.func218 rfl rfl rfl ?_
  have K : Keep [] h h := Keep.refl _ _
  refine rG <| rA rfl rfl <| rN ?_
  refine tr_seq ?_
  refine rG <| rM rfl rfl <| rC rfl rfl <| rF fa_keyspan_filteringIter_1 rfl rfl <| rs_v (v_load one_keyspan_FilterFunc rfl (by exact Bc.cell _ rfl)) rfl ?_
  refine rs_v (v_feq isf_keyspan_FilterFunc rfl rfl) rfl ?_
  refine rN <| tr_if_f rfl ?_
  refine tr_skip ?_
  refine q_thn ?_
  refine tr_seq ?_
  refine tr_block ?_
  refine tr_loop (fun m E h' => ∃ q1 Fin1 F1 sv1 ev1 kv1 n1 xs1 qv, (∀ i, q1 = .pt i → i < W.length) ∧ m = mF W q1 ∧ E = [(0, .pointer (some ⟨c, 0, none⟩)), (1, .pointer qv), (2, .int .i8 1)] ∧ FSt I t v0 (.func (.func f) #[] (List.toArray cap)) c G0 Env q1 Fin1 F1 h' sv1 ev1 kv1 kk n1 xs1 ∧ KeepP F h h' ∧ (∀ b, F1 b → F b ∨ h.size ≤ b) ∧ Ret W q1 Fin1 h' (.pointer qv) ∧ fwdP ff W q1 = fwdP ff W q) (mF W q) [(0, _), (1, _), (2, _)] ⟨rfl, rfl, rfl, trivial⟩ ⟨q, Fin, F, sv, ev, kv, n, xs, q0, hin, rfl, rfl, hs0, KeepP.refl _ _, fun b hb => .inl hb, hret0, rfl⟩ ?_
  rintro m E hL1 ⟨q1, Fin1, F1, sv1, ev1, kv1, n1, xs1, qv, hin1, rfl, rfl, hs, KP, hF1, hret, hfw⟩
  have Bc := hs.2.1
  obtain ⟨qv', e', hq⟩ := hret.form
  cases e'
  refine tr_seq ?_
  refine rG <| rM rfl rfl <| rs_w (w_call (vs := [_]) ok_keyspan_filteringIter_Error rfl ⟨rfl, trivial⟩ (c_FiError χ hit _ c q1 Fin1 _ hs.1 Bc)) rfl ?_
  rintro _ h2 ⟨rfl, hsame⟩; have hsame := hsame.symm; subst hsame
  refine rs_v (v_ieq_nil isi_error rfl rfl) rfl ?_
  refine rM rfl rfl <| rs_gv rfl rfl (v_move rfl) rfl <| rs_gv rfl rfl (v_pne u_p_keyspan_Span rfl rfl) rfl ?_
  refine rs_v (v_pick_t rfl rfl) rfl ?_
  refine rN ?_
  refine tr_ifn rfl (fun hif => ?_) (fun hif => ?_)
  · -- no
    skip
    refine tr_exit <| q_thn_exit ?_
    refine q_lp_exit ?_
    refine q_blk_hit ?_
    refine q_thn ?_
    refine rG <| rM rfl rfl <| rA rfl rfl <| rN <| tr_ret <| q_ret (res_tmp rfl rfl) ?_
    rcases hq with ⟨rfl, hcur⟩ | ⟨s, b, o, rfl, _⟩
    rotate_left
    · simp at hif
    have hq1 : fwdP ff W q1 = q1 ∧ relP ff W q1 q1 ∧ cur (W.filterMap ff) q1 = none := by
      cases q1 with
      | pt i =>
        have h9 := hin1 i rfl
        simp only [cur, List.getElem?_eq_getElem h9] at hcur
        cases hcur
      | behind => exact ⟨rfl, trivial, rfl⟩
      | ahead => exact ⟨rfl, trivial, rfl⟩
      | nowhere => exact ⟨rfl, trivial, rfl⟩
    refine ⟨F1, ⟨q1, Fin1, _, _, _, _, _, _, hs, by rw [← hfw, hq1.1]; exact hq1.2.1⟩, hF1, KP, ?_⟩
    rw [← hfw, hq1.1]; unfold Ret; rw [hq1.2.2]
  -- yes
  rcases hq with ⟨rfl, hcur⟩ | ⟨s, bi, oi, rfl, hcur, hFb, hps⟩
  · simp at hif
  obtain ⟨i, rfl, hsi⟩ := cur_some hcur
  refine tr_skip ?_
  refine q_thn ?_
  refine tr_block ?_
  refine tr_seq ?_
  refine tr_seq ?_
  obtain ⟨hI1, B1, O1, hE1, hx1, hc1, hg1, hd1, hs1, hs2, hs3, hs4, hl1⟩ := hs
  have hs : FSt I t v0 (.func (.func f) #[] (List.toArray cap)) c G0 Env (.pt i) Fin1 F1 hL1 sv1 ev1 kv1 kk n1 xs1 := ⟨hI1, B1, O1, hE1, hx1, hc1, hg1, hd1, hs1, hs2, hs3, hs4, hl1⟩
  refine tr_draw [(true, 8), (false, 2)] _ (by kernel_rfl) (by kernel_rfl) (by kernel_rfl) ?_
  refine rx_any Same same_pre ?_
  refine rq_v (v_move rfl) <| rq_v (v_nilCheck_ptr rfl) <| rq_v (v_fieldAddr fa_keyspan_filteringIter_1 rfl) <| rq_v (v_load one_keyspan_FilterFunc rfl (Bc.cell _ rfl)) ?_
  refine rq_v (v_move rfl) <| rq_v (v_move rfl) <| rq_v (v_nilCheck_ptr rfl) <| rq_v (v_fieldAddr fa_keyspan_filteringIter_3 rfl) ?_
  refine rm_end ?_; intro ha Ka; simp only [endM, hypF, ofE, argE, List.nil_append]
  have Ka : hL1 = ha := Eq.symm Ka
  subst Ka
  refine rx_seq ?_
  refine rs_w (w_callv (first := []) (cap := cap) (vs := [_, _]) hokf rfl ⟨rfl, rfl, trivial⟩ (hcl _ Fin1 s bi oi c _ _ _ _ _ _ kk _ _ (hit.low hI1) hps hFb Bc hc1 O1 hx1 hE1 hg1 (cur_mem hcur))) rfl ?_
  rintro r3 h3 hp3
  obtain ⟨rfl, sv2, ev2, kv2, n2, xs2, hs', KP', hsF, hkv, hout⟩ := fst_fn hit hfn hs hp3
  have Bc := hs'.2.1
  refine rA rfl rfl ?_
  refine rs_nil ?_
  refine q_con ?_
  refine rx_nil ?_
  refine q_thn ?_
  refine rG <| rM rfl rfl <| rN ?_
  refine tr_if rfl (fun hif => ?_) (fun hif => ?_)
  · -- yes
    skip
    refine rG <| rM rfl rfl <| rC rfl rfl <| rF fa_keyspan_filteringIter_3 rfl rfl <| rA rfl rfl <| rN <| tr_ret <| q_thn_ret <| q_blk_ret ?_
    refine q_lp_ret ?_
    refine q_blk_ret <| q_thn_ret <| q_ret (res_tmp rfl rfl) ?_
    obtain ⟨s', hs9⟩ := Option.isSome_iff_exists.1 hif
    obtain ⟨g1, g2, g3, g4⟩ := hout s' hs9
    have hsub : ∀ b, (Fin1 b ∨ G0 b) → (F1 b ∨ b ∈ kv2.ownBlock.toList) := fun b hb => hb.elim (fun e => .inl (hs1 b e)) (fun e => .inl (hs4 b e))
    rw [← hfw, fwd_hit hsi hs9]
    refine ⟨_, ⟨.pt i, Fin1, _, _, _, _, _, _, hs', s, s', hsi, hs9, rfl⟩, fun b hb => ?_, KP.trans KP' hF1, ?_⟩
    · rcases hb with hb | hb
      · exact hF1 b hb
      · rcases hkv b hb with h9 | h9
        · exact hF1 b h9
        · exact .inr (by have := KP.1; omega)
    · unfold Ret; rw [show cur (W.filterMap ff) (.pt ((W.take i).filterMap ff).length) = some s' from fm_at hsi hs9]
      exact ⟨c, 3, rfl, .inl hs2, _, _, _, kk, hs'.2.1.sub 3 4 rfl, g1.mono hsub, g2.mono hsub, SlR.of_rows2 hs'.2.2.1 g3 g4 (fun b hb => .inr hb) (fun b o c a hc hr => cPKey_r _ _ _ _ _ _ hc (cPKey_st.mono _ _ _ _ _ hsub hr))⟩
  -- no
  skip
  refine tr_skip ?_
  refine q_thn ?_
  refine rG <| rM rfl rfl <| rs_v (v_eq rfl rfl) rfl ?_
  refine rN <| tr_if_t rfl ?_
  refine tr_reg ?_
  refine rM rfl rfl <| rC rfl rfl <| rF fa_keyspan_filteringIter_0 rfl rfl <| rs_v (v_load one_keyspan_FragmentIterator rfl (by exact Bc.cell _ rfl)) rfl ?_
  refine rs_w (w_mcall (vs := []) (hit.next hs'.1 rfl) rfl trivial) rfl ?_
  rintro r3 h4 hp3
  refine rA rfl rfl ?_
  refine rs_nil ?_
  refine q_blk_n ?_
  have hfm : ff s = none := by
    cases hq9 : ff s with
    | none => rfl
    | some y => rw [hq9] at hif; simp at hif
  obtain ⟨Fin3, hs3', hF3, KP3, hret3⟩ := fst_inner hit hfn hs' hp3
  obtain ⟨qv3, rfl, _⟩ := hret3.form
  have hFk : ∀ x, (F1 x ∨ x ∈ kv2.ownBlock.toList) → F x ∨ h.size ≤ x := fun b hb => by
    rcases hb with hb | hb
    · exact hF1 b hb
    · rcases hkv b hb with h9 | h9
      · exact hF1 b h9
      · exact .inr (by have := KP.1; omega)
  refine q_lp (mF W (pNext W (.pt i))) [(0, _), (1, _), (2, _)] (mF_next (List.getElem?_eq_some_iff.1 hsi).1) ⟨rfl, rfl, rfl, trivial⟩ ⟨_, Fin3, _, _, _, _, _, _, qv3, in_next, rfl, rfl, hs3', (KP.trans KP' hF1).trans KP3 hFk, fun b hb => ?_, hret3, ?_⟩
  · rcases hb with hb | hb
    · exact hFk b hb
    · rcases hF3 b hb with h9 | h9
      · exact hFk b (.inl (hs1 b h9))
      · exact .inr (by have := (KP.trans KP' hF1).1; omega)
  · rw [← fwd_miss hsi hfm]; exact hfw
theorem c_filterB {χ : Chi} {ff : SpanD → Option SpanD} {fv : Value} {G0 : Nat → Prop} {Env : Heap → Prop} {W : List SpanD} {t : TypeId} {v0 : Value} {I : ItI} {c : Nat} {q : Pos} {Fin F : Nat → Prop} {h : Heap} {sv ev kv : Value} {kk : Int} {n : Nat} {xs : List Value} {r0 : Value}
    (hit : IterOK Tryz.prog χ W t v0 I) (hfn : FnOK χ W ff fv G0 Env) (hWn : ∀ s, s ∈ W → s.ks.length ≤ 100000) (hin : ∀ i, q = .pt i → i < W.length) (hs0 : FSt I t v0 fv c G0 Env q Fin F h sv ev kv kk n xs) (hret0 : Ret W q Fin h r0) :
    Cl Tryz.prog χ 218 #[.pointer (some ⟨c, 0, none⟩), r0, .int .i8 (-1)] h (ItPost (W.filterMap ff) (FIt ff W I t v0 fv c G0 Env) F h (bwdP ff W q)) := by
  have hfn0 := hfn
  obtain ⟨f, cap, rfl, hokf, hcl⟩ := hfn0.form
  have Bc := hs0.2.1
  obtain ⟨q0, rfl, _⟩ := hret0.form
  refine cl_intro Tryz.func218 rfl rfl rfl ?_
  have K : Keep [] h h := Keep.refl _ _
  refine rG <| rA rfl rfl <| rN ?_
  refine tr_seq ?_
  refine rG <| rM rfl rfl <| rC rfl rfl <| rF fa_keyspan_filteringIter_1 rfl rfl <| rs_v (v_load one_keyspan_FilterFunc rfl (by exact Bc.cell _ rfl)) rfl ?_
  refine rs_v (v_feq isf_keyspan_FilterFunc rfl rfl) rfl ?_
  refine rN <| tr_if_f rfl ?_
  refine tr_skip ?_
  refine q_thn ?_
  refine tr_seq ?_
  refine tr_block ?_
  refine tr_loop (fun m E h' => ∃ q1 Fin1 F1 sv1 ev1 kv1 n1 xs1 qv, (∀ i, q1 = .pt i → i < W.length) ∧ m = mB q1 ∧ E = [(0, .pointer (some ⟨c, 0, none⟩)), (1, .pointer qv), (2, .int .i8 (-1))] ∧ FSt I t v0 (.func (.func f) #[] (List.toArray cap)) c G0 Env q1 Fin1 F1 h' sv1 ev1 kv1 kk n1 xs1 ∧ KeepP F h h' ∧ (∀ b, F1 b → F b ∨ h.size ≤ b) ∧ Ret W q1 Fin1 h' (.pointer qv) ∧ bwdP ff W q1 = bwdP ff W q) (mB q) [(0, _), (1, _), (2, _)] ⟨rfl, rfl, rfl, trivial⟩ ⟨q, Fin, F, sv, ev, kv, n, xs, q0, hin, rfl, rfl, hs0, KeepP.refl _ _, fun b hb => .inl hb, hret0, rfl⟩ ?_
  rintro m E hL1 ⟨q1, Fin1, F1, sv1, ev1, kv1, n1, xs1, qv, hin1, rfl, rfl, hs, KP, hF1, hret, hfw⟩
  have Bc := hs.2.1
  obtain ⟨qv', e', hq⟩ := hret.form
  cases e'
  refine tr_seq ?_
  refine rG <| rM rfl rfl <| rs_w (w_call (vs := [_]) ok_keyspan_filteringIter_Error rfl ⟨rfl, trivial⟩ (c_FiError χ hit _ c q1 Fin1 _ hs.1 Bc)) rfl ?_
  rintro _ h2 ⟨rfl, hsame⟩; have hsame := hsame.symm; subst hsame
  refine rs_v (v_ieq_nil isi_error rfl rfl) rfl ?_
  refine rM rfl rfl <| rs_gv rfl rfl (v_move rfl) rfl <| rs_gv rfl rfl (v_pne u_p_keyspan_Span rfl rfl) rfl ?_
  refine rs_v (v_pick_t rfl rfl) rfl ?_
  refine rN ?_
  refine tr_ifn rfl (fun hif => ?_) (fun hif => ?_)
  · -- no
    skip
    refine tr_exit <| q_thn_exit ?_
    refine q_lp_exit ?_
    refine q_blk_hit ?_
    refine q_thn ?_
    refine rG <| rM rfl rfl <| rA rfl rfl <| rN <| tr_ret <| q_ret (res_tmp rfl rfl) ?_
    rcases hq with ⟨rfl, hcur⟩ | ⟨s, b, o, rfl, _⟩
    rotate_left
    · simp at hif
    have hq1 : bwdP ff W q1 = q1 ∧ relP ff W q1 q1 ∧ cur (W.filterMap ff) q1 = none := by
      cases q1 with
      | pt i =>
        have h9 := hin1 i rfl
        simp only [cur, List.getElem?_eq_getElem h9] at hcur
        cases hcur
      | behind => exact ⟨rfl, trivial, rfl⟩
      | ahead => exact ⟨rfl, trivial, rfl⟩
      | nowhere => exact ⟨rfl, trivial, rfl⟩
    refine ⟨F1, ⟨q1, Fin1, _, _, _, _, _, _, hs, by rw [← hfw, hq1.1]; exact hq1.2.1⟩, hF1, KP, ?_⟩
    rw [← hfw, hq1.1]; unfold Ret; rw [hq1.2.2]
  -- yes
  rcases hq with ⟨rfl, hcur⟩ | ⟨s, bi, oi, rfl, hcur, hFb, hps⟩
  · simp at hif
  obtain ⟨i, rfl, hsi⟩ := cur_some hcur
  refine tr_skip ?_
  refine q_thn ?_
  refine tr_block ?_
  refine tr_seq ?_
  refine tr_seq ?_
  obtain ⟨hI1, B1, O1, hE1, hx1, hc1, hg1, hd1, hs1, hs2, hs3, hs4, hl1⟩ := hs
  have hs : FSt I t v0 (.func (.func f) #[] (List.toArray cap)) c G0 Env (.pt i) Fin1 F1 hL1 sv1 ev1 kv1 kk n1 xs1 := ⟨hI1, B1, O1, hE1, hx1, hc1, hg1, hd1, hs1, hs2, hs3, hs4, hl1⟩
  refine tr_draw [(true, 8), (false, 2)] _ (by kernel_rfl) (by kernel_rfl) (by kernel_rfl) ?_
  refine rx_any Same same_pre ?_
  refine rq_v (v_move rfl) <| rq_v (v_nilCheck_ptr rfl) <| rq_v (v_fieldAddr fa_keyspan_filteringIter_1 rfl) <| rq_v (v_load one_keyspan_FilterFunc rfl (Bc.cell _ rfl)) ?_
  refine rq_v (v_move rfl) <| rq_v (v_move rfl) <| rq_v (v_nilCheck_ptr rfl) <| rq_v (v_fieldAddr fa_keyspan_filteringIter_3 rfl) ?_
  refine rm_end ?_; intro ha Ka; simp only [endM, hypF, ofE, argE, List.nil_append]
  have Ka : hL1 = ha := Eq.symm Ka
  subst Ka
  refine rx_seq ?_
  refine rs_w (w_callv (first := []) (cap := cap) (vs := [_, _]) hokf rfl ⟨rfl, rfl, trivial⟩ (hcl _ Fin1 s bi oi c _ _ _ _ _ _ kk _ _ (hit.low hI1) hps hFb Bc hc1 O1 hx1 hE1 hg1 (cur_mem hcur))) rfl ?_
  rintro r3 h3 hp3
  obtain ⟨rfl, sv2, ev2, kv2, n2, xs2, hs', KP', hsF, hkv, hout⟩ := fst_fn hit hfn hs hp3
  have Bc := hs'.2.1
  refine rA rfl rfl ?_
  refine rs_nil ?_
  refine q_con ?_
  refine rx_nil ?_
  refine q_thn ?_
  refine rG <| rM rfl rfl <| rN ?_
  refine tr_if rfl (fun hif => ?_) (fun hif => ?_)
  · -- yes
    skip
    refine rG <| rM rfl rfl <| rC rfl rfl <| rF fa_keyspan_filteringIter_3 rfl rfl <| rA rfl rfl <| rN <| tr_ret <| q_thn_ret <| q_blk_ret ?_
    refine q_lp_ret ?_
    refine q_blk_ret <| q_thn_ret <| q_ret (res_tmp rfl rfl) ?_
    obtain ⟨s', hs9⟩ := Option.isSome_iff_exists.1 hif
    obtain ⟨g1, g2, g3, g4⟩ := hout s' hs9
    have hsub : ∀ b, (Fin1 b ∨ G0 b) → (F1 b ∨ b ∈ kv2.ownBlock.toList) := fun b hb => hb.elim (fun e => .inl (hs1 b e)) (fun e => .inl (hs4 b e))
    rw [← hfw, bwd_hit hsi hs9]
    refine ⟨_, ⟨.pt i, Fin1, _, _, _, _, _, _, hs', s, s', hsi, hs9, rfl⟩, fun b hb => ?_, KP.trans KP' hF1, ?_⟩
    · rcases hb with hb | hb
      · exact hF1 b hb
      · rcases hkv b hb with h9 | h9
        · exact hF1 b h9
        · exact .inr (by have := KP.1; omega)
    · unfold Ret; rw [show cur (W.filterMap ff) (.pt ((W.take i).filterMap ff).length) = some s' from fm_at hsi hs9]
      exact ⟨c, 3, rfl, .inl hs2, _, _, _, kk, hs'.2.1.sub 3 4 rfl, g1.mono hsub, g2.mono hsub, SlR.of_rows2 hs'.2.2.1 g3 g4 (fun b hb => .inr hb) (fun b o c a hc hr => cPKey_r _ _ _ _ _ _ hc (cPKey_st.mono _ _ _ _ _ hsub hr))⟩
  -- no
  skip
  refine tr_skip ?_
  refine q_thn ?_
  refine rG <| rM rfl rfl <| rs_v (v_eq rfl rfl) rfl ?_
  refine rN <| tr_if_f rfl ?_
  refine tr_reg ?_
  refine rM rfl rfl <| rC rfl rfl <| rF fa_keyspan_filteringIter_0 rfl rfl <| rs_v (v_load one_keyspan_FragmentIterator rfl (by exact Bc.cell _ rfl)) rfl ?_
  refine rs_w (w_mcall (vs := []) (hit.prev hs'.1 rfl) rfl trivial) rfl ?_
  rintro r3 h4 hp3
  refine rA rfl rfl ?_
  refine rs_nil ?_
  refine q_blk_n ?_
  have hfm : ff s = none := by
    cases hq9 : ff s with
    | none => rfl
    | some y => rw [hq9] at hif; simp at hif
  obtain ⟨Fin3, hs3', hF3, KP3, hret3⟩ := fst_inner hit hfn hs' hp3
  obtain ⟨qv3, rfl, _⟩ := hret3.form
  have hFk : ∀ x, (F1 x ∨ x ∈ kv2.ownBlock.toList) → F x ∨ h.size ≤ x := fun b hb => by
    rcases hb with hb | hb
    · exact hF1 b hb
    · rcases hkv b hb with h9 | h9
      · exact hF1 b h9
      · exact .inr (by have := KP.1; omega)
  refine q_lp (mB (pPrev W (.pt i))) [(0, _), (1, _), (2, _)] (mB_prev) ⟨rfl, rfl, rfl, trivial⟩ ⟨_, Fin3, _, _, _, _, _, _, qv3, in_prev (List.getElem?_eq_some_iff.1 hsi).1, rfl, rfl, hs3', (KP.trans KP' hF1).trans KP3 hFk, fun b hb => ?_, hret3, ?_⟩
  · rcases hb with hb | hb
    · exact hFk b hb
    · rcases hF3 b hb with h9 | h9
      · exact hFk b (.inl (hs1 b h9))
      · exact .inr (by have := (KP.trans KP' hF1).1; omega)
  · rw [← bwd_miss hsi hfm]; exact hfw
set_option maxHeartbeats 1000000
theorem itpost_trans {W : List SpanD} {I : ItI} {F F' : Nat → Prop} {h h1 h' : Heap} {p : Pos} {r : Value} (K : KeepP F h h1) (hF : ∀ b, F' b → F b ∨ h.size ≤ b) (hp : ItPost W I F' h1 p r h') : ItPost W I F h p r h' := by
  obtain ⟨F2, h2, h3, h4, h5⟩ := hp
  refine ⟨F2, h2, fun b hb => ?_, K.trans h4 hF, h5⟩
  rcases h3 b hb with h9 | h9
  · exact hF b h9
  · exact .inr (by have := K.1; omega)
theorem itpost_weak {ff : SpanD → Option SpanD} {W : List SpanD} {I : ItI} {t : TypeId} {v0 fv : Value} {c : Nat} {G0 : Nat → Prop} {Env : Heap → Prop} {F : Nat → Prop} {h h' : Heap} {p p' : Pos} {r : Value}
    (hp : ItPost (W.filterMap ff) (FIt ff W I t v0 fv c G0 Env) F h p r h') (he : p = p' ∨ (p' = .nowhere ∧ cur (W.filterMap ff) p = none)) : ItPost (W.filterMap ff) (FIt ff W I t v0 fv c G0 Env) F h p' r h' := by
  rcases he with rfl | ⟨rfl, hc⟩
  · exact hp
  · obtain ⟨F', ⟨q, Fin, sv, ev, kv, kk, n, xs, hs, _⟩, h3, h4, h5⟩ := hp
    refine ⟨F', ⟨q, Fin, sv, ev, kv, kk, n, xs, hs, trivial⟩, h3, h4, ?_⟩
    unfold Ret at h5 ⊢
    rw [hc] at h5
    exact h5
theorem in_first {W : List SpanD} : ∀ j, pFirst W = .pt j → j < W.length := by
  intro j h; simp only [pFirst] at h; split at h
  · cases h
  · cases h; omega
theorem in_last {W : List SpanD} : ∀ j, pLast W = .pt j → j < W.length := by
  intro j h; simp only [pLast] at h; split at h
  · cases h
  · cases h; omega
theorem in_nextq {W : List SpanD} {q : Pos} (hc : canNext q = true) : ∀ j, pNext W q = .pt j → j < W.length := by
  cases q with
  | pt i => exact in_next
  | ahead => intro j h; simp only [pNext] at h; split at h; · cases h; assumption
             · cases h
  | _ => simp [canNext] at hc
theorem in_prevq {W : List SpanD} {q : Pos} (hq : ∀ i, q = .pt i → i < W.length) (hc : canPrev q = true) : ∀ j, pPrev W q = .pt j → j < W.length := by
  cases q with
  | pt i => exact in_prev (hq i rfl)
  | behind => intro j h; simp only [pPrev] at h; split at h
              · cases h
              · cases h; omega
  | _ => simp [canPrev] at hc
theorem in_ge {W : List SpanD} {k : ByteArray} : ∀ j, pGE W k = .pt j → j < W.length := by
  intro j h; simp only [pGE] at h; split at h
  · cases h; assumption
  · cases h
theorem in_lt {W : List SpanD} {k : ByteArray} : ∀ j, pLT W k = .pt j → j < W.length := by
  intro j h; simp only [pLT] at h; have := ltI_le W k; split at h
  · cases h
  · cases h; omega
theorem rel_in {ff : SpanD → Option SpanD} {W : List SpanD} {p q : Pos} (hr : relP ff W p q) (hp : p ≠ .nowhere) : ∀ i, q = .pt i → i < W.length := by
  rintro i rfl
  cases p with
  | pt j => obtain ⟨s, s', h, _⟩ := hr; exact (List.getElem?_eq_some_iff.1 h).1
  | nowhere => exact absurd rfl hp
  | _ => exact hr.elim
theorem c_FiFirst {χ : Chi} {ff : SpanD → Option SpanD} {fv : Value} {G0 : Nat → Prop} {Env : Heap → Prop} {W : List SpanD} {t : TypeId} {v0 : Value} {I : ItI} {c : Nat} {F : Nat → Prop} {h : Heap} {p : Pos}
    (hit : IterOK Tryz.prog χ W t v0 I) (hfn : FnOK χ W ff fv G0 Env) (hWn : ∀ s, s ∈ W → s.ks.length ≤ 100000) (hI : FIt ff W I t v0 fv c G0 Env p F h)  :
    Cl Tryz.prog χ 212 #[.pointer (some ⟨c, 0, none⟩)] h (ItPost (W.filterMap ff) (FIt ff W I t v0 fv c G0 Env) F h (pFirst (W.filterMap ff))) := by
  obtain ⟨q, Fin, sv, ev, kv, kk, n, xs, hs, hrel⟩ := hI
  have Bc := hs.2.1
  refine cl_intro Tryz.func212 rfl rfl rfl ?_
  have K : Keep [] h h := Keep.refl _ _
  refine rG <| rA rfl rfl <| rN <| rG <| rM rfl rfl <| rM rfl rfl <| rC rfl rfl <| rF fa_keyspan_filteringIter_0 rfl rfl <| rs_v (v_load one_keyspan_FragmentIterator rfl (by exact Bc.cell _ rfl)) rfl ?_
  refine rs_w (w_mcall (vs := []) (hit.first hs.1) rfl trivial) rfl ?_
  rintro r1 h1 hp1
  obtain ⟨Fin', hs', hF', KP', hret'⟩ := fst_inner hit hfn hs hp1
  refine rs_w (w_call (vs := [_, _, _]) ok_keyspan_filteringIter_filter rfl ⟨rfl, rfl, rfl, trivial⟩ (c_filterF hit hfn hWn in_first hs' hret')) rfl ?_
  rintro r2 h2 hp2
  refine rA rfl rfl <| rN <| tr_ret <| q_ret (res_tmp rfl rfl) ?_
  have hFF : ∀ b, (F b ∨ Fin' b) → F b ∨ h.size ≤ b := fun b hb => hb.elim .inl (fun e => (hF' b e).imp (hs.2.2.2.2.2.2.2.2.1 b) id)
  exact itpost_weak (itpost_trans KP' hFF hp2) fwd_first
theorem c_FiLast {χ : Chi} {ff : SpanD → Option SpanD} {fv : Value} {G0 : Nat → Prop} {Env : Heap → Prop} {W : List SpanD} {t : TypeId} {v0 : Value} {I : ItI} {c : Nat} {F : Nat → Prop} {h : Heap} {p : Pos}
    (hit : IterOK Tryz.prog χ W t v0 I) (hfn : FnOK χ W ff fv G0 Env) (hWn : ∀ s, s ∈ W → s.ks.length ≤ 100000) (hI : FIt ff W I t v0 fv c G0 Env p F h)  :
    Cl Tryz.prog χ 213 #[.pointer (some ⟨c, 0, none⟩)] h (ItPost (W.filterMap ff) (FIt ff W I t v0 fv c G0 Env) F h (pLast (W.filterMap ff))) := by
  obtain ⟨q, Fin, sv, ev, kv, kk, n, xs, hs, hrel⟩ := hI
  have Bc := hs.2.1
  refine cl_intro Tryz.func213 rfl rfl rfl ?_
  have K : Keep [] h h := Keep.refl _ _
  refine rG <| rA rfl rfl <| rN <| rG <| rM rfl rfl <| rM rfl rfl <| rC rfl rfl <| rF fa_keyspan_filteringIter_0 rfl rfl <| rs_v (v_load one_keyspan_FragmentIterator rfl (by exact Bc.cell _ rfl)) rfl ?_
  refine rs_w (w_mcall (vs := []) (hit.last hs.1) rfl trivial) rfl ?_
  rintro r1 h1 hp1
  obtain ⟨Fin', hs', hF', KP', hret'⟩ := fst_inner hit hfn hs hp1
  refine rs_w (w_call (vs := [_, _, _]) ok_keyspan_filteringIter_filter rfl ⟨rfl, rfl, rfl, trivial⟩ (c_filterB hit hfn hWn in_last hs' hret')) rfl ?_
  rintro r2 h2 hp2
  refine rA rfl rfl <| rN <| tr_ret <| q_ret (res_tmp rfl rfl) ?_
  have hFF : ∀ b, (F b ∨ Fin' b) → F b ∨ h.size ≤ b := fun b hb => hb.elim .inl (fun e => (hF' b e).imp (hs.2.2.2.2.2.2.2.2.1 b) id)
  exact itpost_weak (itpost_trans KP' hFF hp2) bwd_last
theorem c_FiNext {χ : Chi} {ff : SpanD → Option SpanD} {fv : Value} {G0 : Nat → Prop} {Env : Heap → Prop} {W : List SpanD} {t : TypeId} {v0 : Value} {I : ItI} {c : Nat} {F : Nat → Prop} {h : Heap} {p : Pos}
    (hit : IterOK Tryz.prog χ W t v0 I) (hfn : FnOK χ W ff fv G0 Env) (hWn : ∀ s, s ∈ W → s.ks.length ≤ 100000) (hI : FIt ff W I t v0 fv c G0 Env p F h) (hc : canNext p = true) :
    Cl Tryz.prog χ 214 #[.pointer (some ⟨c, 0, none⟩)] h (ItPost (W.filterMap ff) (FIt ff W I t v0 fv c G0 Env) F h (pNext (W.filterMap ff) p)) := by
  obtain ⟨q, Fin, sv, ev, kv, kk, n, xs, hs, hrel⟩ := hI
  have Bc := hs.2.1
  have hn := fwd_next hrel hc
  refine cl_intro Tryz.func214 rfl rfl rfl ?_
  have K : Keep [] h h := Keep.refl _ _
  refine rG <| rA rfl rfl <| rN <| rG <| rM rfl rfl <| rM rfl rfl <| rC rfl rfl <| rF fa_keyspan_filteringIter_0 rfl rfl <| rs_v (v_load one_keyspan_FragmentIterator rfl (by exact Bc.cell _ rfl)) rfl ?_
  refine rs_w (w_mcall (vs := []) (hit.next hs.1 hn.1) rfl trivial) rfl ?_
  rintro r1 h1 hp1
  obtain ⟨Fin', hs', hF', KP', hret'⟩ := fst_inner hit hfn hs hp1
  refine rs_w (w_call (vs := [_, _, _]) ok_keyspan_filteringIter_filter rfl ⟨rfl, rfl, rfl, trivial⟩ (c_filterF hit hfn hWn (in_nextq hn.1) hs' hret')) rfl ?_
  rintro r2 h2 hp2
  refine rA rfl rfl <| rN <| tr_ret <| q_ret (res_tmp rfl rfl) ?_
  have hFF : ∀ b, (F b ∨ Fin' b) → F b ∨ h.size ≤ b := fun b hb => hb.elim .inl (fun e => (hF' b e).imp (hs.2.2.2.2.2.2.2.2.1 b) id)
  rw [← hn.2]
  exact itpost_trans KP' hFF hp2
theorem c_FiPrev {χ : Chi} {ff : SpanD → Option SpanD} {fv : Value} {G0 : Nat → Prop} {Env : Heap → Prop} {W : List SpanD} {t : TypeId} {v0 : Value} {I : ItI} {c : Nat} {F : Nat → Prop} {h : Heap} {p : Pos}
    (hit : IterOK Tryz.prog χ W t v0 I) (hfn : FnOK χ W ff fv G0 Env) (hWn : ∀ s, s ∈ W → s.ks.length ≤ 100000) (hI : FIt ff W I t v0 fv c G0 Env p F h) (hc : canPrev p = true) :
    Cl Tryz.prog χ 215 #[.pointer (some ⟨c, 0, none⟩)] h (ItPost (W.filterMap ff) (FIt ff W I t v0 fv c G0 Env) F h (pPrev (W.filterMap ff) p)) := by
  obtain ⟨q, Fin, sv, ev, kv, kk, n, xs, hs, hrel⟩ := hI
  have Bc := hs.2.1
  have hn := bwd_prev hrel hc
  refine cl_intro Tryz.func215 rfl rfl rfl ?_
  have K : Keep [] h h := Keep.refl _ _
  refine rG <| rA rfl rfl <| rN <| rG <| rM rfl rfl <| rM rfl rfl <| rC rfl rfl <| rF fa_keyspan_filteringIter_0 rfl rfl <| rs_v (v_load one_keyspan_FragmentIterator rfl (by exact Bc.cell _ rfl)) rfl ?_
  refine rs_w (w_mcall (vs := []) (hit.prev hs.1 hn.1) rfl trivial) rfl ?_
  rintro r1 h1 hp1
  obtain ⟨Fin', hs', hF', KP', hret'⟩ := fst_inner hit hfn hs hp1
  refine rs_w (w_call (vs := [_, _, _]) ok_keyspan_filteringIter_filter rfl ⟨rfl, rfl, rfl, trivial⟩ (c_filterB hit hfn hWn (in_prevq (rel_in hrel (fun e => by subst e; simp [canPrev] at hc)) hn.1) hs' hret')) rfl ?_
  rintro r2 h2 hp2
  refine rA rfl rfl <| rN <| tr_ret <| q_ret (res_tmp rfl rfl) ?_
  have hFF : ∀ b, (F b ∨ Fin' b) → F b ∨ h.size ≤ b := fun b hb => hb.elim .inl (fun e => (hF' b e).imp (hs.2.2.2.2.2.2.2.2.1 b) id)
  rw [← hn.2]
  exact itpost_trans KP' hFF hp2
set_option maxHeartbeats 1000000
theorem c_FiSeekGE {χ : Chi} {ff : SpanD → Option SpanD} {fv : Value} {G0 : Nat → Prop} {Env : Heap → Prop} {W : List SpanD} {t : TypeId} {v0 : Value} {I : ItI} {c : Nat} {F : Nat → Prop} {h : Heap} {p : Pos} {kv0 : Value} {key : ByteArray}
    (hit : IterOK Tryz.prog χ W t v0 I) (hfn : FnOK χ W ff fv G0 Env) (hWn : ∀ s, s ∈ W → s.ks.length ≤ 100000) (hO : Tess.Ord W) (hSh : Shrink ff W) (hI : FIt ff W I t v0 fv c G0 Env p F h) (hkey : RBytes (fun b => ¬ F b) h kv0 key) :
    Cl Tryz.prog χ 216 #[.pointer (some ⟨c, 0, none⟩), kv0] h (ItPost (W.filterMap ff) (FIt ff W I t v0 fv c G0 Env) F h (pGE (W.filterMap ff) key)) := by
  obtain ⟨q, Fin, sv, ev, kv, kk, n, xs, hs, hrel⟩ := hI
  have Bc := hs.2.1
  refine cl_intro Tryz.func216 rfl rfl rfl ?_
  have K : Keep [] h h := Keep.refl _ _
  refine rG <| rA rfl rfl <| rN <| rG <| rM rfl rfl <| rM rfl rfl <| rC rfl rfl <| rF fa_keyspan_filteringIter_0 rfl rfl <| rs_v (v_load one_keyspan_FragmentIterator rfl (by exact Bc.cell _ rfl)) rfl ?_
  refine rM rfl rfl <| rs_w (w_mcall (vs := [_]) (hit.ge hs.1 (hkey.mono (fun b hb hf => hb (hs.2.2.2.2.2.2.2.2.1 b hf)))) rfl ⟨rfl, trivial⟩) rfl ?_
  rintro r1 h1 hp1
  obtain ⟨Fin', hs', hF', KP', hret'⟩ := fst_inner hit hfn hs hp1
  refine rs_w (w_call (vs := [_, _, _]) ok_keyspan_filteringIter_filter rfl ⟨rfl, rfl, rfl, trivial⟩ (c_filterF hit hfn hWn in_ge hs' hret')) rfl ?_
  rintro r2 h2 hp2
  have hFF : ∀ b, (F b ∨ Fin' b) → F b ∨ h.size ≤ b := fun b hb => hb.elim .inl (fun e => (hF' b e).imp (hs.2.2.2.2.2.2.2.2.1 b) id)
  have hp20 := hp2
  obtain ⟨F2, hI2, hF2, KP2, hret2⟩ := hp2
  have hI20 := hI2
  obtain ⟨q2, Fin2, sv2, ev2, kv2, kk2, n2, xs2, hs2, hrel2⟩ := hI20
  have Bc := hs2.2.1
  have KPt := KP'.trans KP2 hFF
  have hF9 : ∀ b, F2 b → F b ∨ h.size ≤ b := fun b hb => (hF2 b hb).elim (hFF b) (fun e => .inr (by have := KP'.1; omega))
  have hke : RBy h2 kv0 key := RBytes.by ((RBytes.lowen hkey).stab (fun b hb => KPt.2 b hb.2 hb.1))
  have hlaw := seek_ge hO hSh key
  refine rA rfl rfl <| rN ?_
  refine tr_seq ?_
  refine tr_cut (fun E h' => ∃ bb : Bool, h2 = h' ∧ E = [(0, .pointer (some ⟨c, 0, none⟩)), (1, kv0), (5, r2), (28, .bool bb)] ∧ (bb = true → ∃ s2, cur (W.filterMap ff) (fwdP ff W (pGE W key)) = some s2 ∧ sle s2.e key = true) ∧ (bb = false → ∀ s2, cur (W.filterMap ff) (fwdP ff W (pGE W key)) = some s2 → sle s2.e key = false)) ?_ ?_
  ·
    obtain ⟨qv, rfl, hq⟩ := hret2.form
    rcases hq with ⟨rfl, hcur⟩ | ⟨s2, b, o, rfl, hcur, hFb, hps⟩
    · skip
      refine tr_quiet (by kernel_rfl) (by kernel_rfl) ?_
      refine rq_v (v_move rfl) <| rq_v (v_pne u_p_keyspan_Span rfl rfl) ?_
      refine rq_v (v_move rfl) ?_
      refine rm_gs same_pre rfl rfl rfl ?_
      refine rm_gs same_pre rfl rfl rfl ?_
      refine rm_gs same_pre rfl rfl rfl ?_
      refine rm_gs same_pre rfl rfl rfl ?_
      refine rm_gs same_pre rfl rfl rfl ?_
      refine rm_gs same_pre rfl rfl rfl ?_
      refine rm_gs same_pre rfl rfl rfl ?_
      refine rm_gs same_pre rfl rfl rfl ?_
      refine rm_gs same_pre rfl rfl rfl ?_
      refine rm_gs same_pre rfl rfl rfl ?_
      refine rm_gs same_pre rfl rfl rfl ?_
      refine rq_v (v_pick_f rfl rfl) ?_
      refine rm_end ?_; simp only [endM, hypF, ofE, argE]
      exact q_cut [(0, _), (1, _), (5, _), (28, _)] ⟨rfl, rfl, rfl, rfl, trivial⟩ ⟨_, rfl, rfl, (fun h9 => by cases h9), fun _ s2 hs9 => by rw [hcur] at hs9; cases hs9⟩
    · obtain ⟨sv9, ev9, kv9, kk9, hcell, g1, g2, g3⟩ := hps
      refine tr_quiet (by kernel_rfl) (by kernel_rfl) ?_
      refine rq_v (v_move rfl) <| rq_v (v_pne u_p_keyspan_Span rfl rfl) ?_
      refine rq_v (v_move rfl) ?_
      refine rq_gv rfl rfl (v_move rfl) ?_
      refine rq_gv rfl rfl (v_nilCheck_ptr rfl) ?_
      refine rq_gv rfl rfl (v_fieldAddr fa_keyspan_filteringIter_2 rfl) ?_
      refine rq_gv rfl rfl (v_load one_base_Compare rfl (by exact Bc.cell _ rfl)) ?_
      refine rq_gv rfl rfl (v_move rfl) ?_
      refine rq_gv rfl rfl (v_nilCheck_ptr rfl) ?_
      refine rq_gv rfl rfl (v_fieldAddr fa_keyspan_Span_1 rfl) ?_
      refine rq_gv rfl rfl (v_load one_sl_uint8 rfl (by exact hcell.at 1 rfl)) ?_
      refine rq_gv rfl rfl (v_move rfl) ?_
      refine rq_gw rfl rfl (w_callv (first := []) (cap := []) (vs := [_, _]) ok_bytes_Compare rfl ⟨rfl, rfl, trivial⟩ (c_Compare χ _ _ _ s2.e key (RBytes.by g2) hke)) ?_
      refine rq_gv rfl rfl (v_le rfl rfl) ?_
      refine rq_v (v_pick_t rfl rfl) ?_
      refine rm_end ?_; simp only [endM, hypF, ofE, argE]
      exact q_cut [(0, _), (1, _), (5, _), (28, _)] ⟨rfl, rfl, rfl, rfl, trivial⟩ ⟨_, rfl, rfl, (fun h9 => ⟨s2, hcur, sle_iff.2 (of_decide_eq_true h9)⟩), fun h9 s3 hs9 => by rw [hcur] at hs9; cases hs9; exact sle_no.2 (by have := of_decide_eq_false h9; omega)⟩
  rintro E h9 ⟨bb, hh, rfl, hb1, hb0⟩
  subst hh
  refine tr_if rfl (fun hif => ?_) (fun hif => ?_)
  · -- yes
    obtain ⟨s2, hcur, hgood⟩ := hb1 hif
    have hcan : canNext (fwdP ff W (pGE W key)) = true := by
      obtain ⟨i9, e9, _⟩ := cur_some hcur
      rw [e9]; rfl
    refine rG <| rM rfl rfl <| rs_w (w_call (vs := [_]) ok_keyspan_filteringIter_Next rfl ⟨rfl, trivial⟩ (c_FiNext hit hfn hWn hI2 hcan)) rfl ?_
    rintro r3 h4 hp3
    refine rA rfl rfl <| rN <| tr_ret <| q_thn_ret <| q_ret (res_tmp rfl rfl) ?_
    rw [hlaw.2 s2 hcur, if_pos hgood]
    exact itpost_trans (KP'.trans KP2 hFF) hF9 hp3
  -- no
  skip
  refine tr_skip ?_
  refine q_thn ?_
  refine rG <| rM rfl rfl <| rA rfl rfl <| rN <| tr_ret <| q_ret (res_tmp rfl rfl) ?_
  have hpp : pGE (W.filterMap ff) key = fwdP ff W (pGE W key) := by
    cases hc9 : cur (W.filterMap ff) (fwdP ff W (pGE W key)) with
    | none => exact hlaw.1 hc9
    | some s2 =>
      have h9 := hb0 hif s2 hc9
      rw [hlaw.2 s2 hc9, if_neg (by rw [h9]; decide)]
  rw [hpp]
  exact itpost_trans KP' hFF hp20
theorem c_FiSeekLT {χ : Chi} {ff : SpanD → Option SpanD} {fv : Value} {G0 : Nat → Prop} {Env : Heap → Prop} {W : List SpanD} {t : TypeId} {v0 : Value} {I : ItI} {c : Nat} {F : Nat → Prop} {h : Heap} {p : Pos} {kv0 : Value} {key : ByteArray}
    (hit : IterOK Tryz.prog χ W t v0 I) (hfn : FnOK χ W ff fv G0 Env) (hWn : ∀ s, s ∈ W → s.ks.length ≤ 100000) (hO : Tess.Ord W) (hSh : Shrink ff W) (hI : FIt ff W I t v0 fv c G0 Env p F h) (hkey : RBytes (fun b => ¬ F b) h kv0 key) :
    Cl Tryz.prog χ 217 #[.pointer (some ⟨c, 0, none⟩), kv0] h (ItPost (W.filterMap ff) (FIt ff W I t v0 fv c G0 Env) F h (pLT (W.filterMap ff) key)) := by
  obtain ⟨q, Fin, sv, ev, kv, kk, n, xs, hs, hrel⟩ := hI
  have Bc := hs.2.1
  refine cl_intro Tryz.func217 rfl rfl rfl ?_
  have K : Keep [] h h := Keep.refl _ _
  refine rG <| rA rfl rfl <| rN <| rG <| rM rfl rfl <| rM rfl rfl <| rC rfl rfl <| rF fa_keyspan_filteringIter_0 rfl rfl <| rs_v (v_load one_keyspan_FragmentIterator rfl (by exact Bc.cell _ rfl)) rfl ?_
  refine rM rfl rfl <| rs_w (w_mcall (vs := [_]) (hit.lt hs.1 (hkey.mono (fun b hb hf => hb (hs.2.2.2.2.2.2.2.2.1 b hf)))) rfl ⟨rfl, trivial⟩) rfl ?_
  rintro r1 h1 hp1
  obtain ⟨Fin', hs', hF', KP', hret'⟩ := fst_inner hit hfn hs hp1
  refine rs_w (w_call (vs := [_, _, _]) ok_keyspan_filteringIter_filter rfl ⟨rfl, rfl, rfl, trivial⟩ (c_filterB hit hfn hWn in_lt hs' hret')) rfl ?_
  rintro r2 h2 hp2
  have hFF : ∀ b, (F b ∨ Fin' b) → F b ∨ h.size ≤ b := fun b hb => hb.elim .inl (fun e => (hF' b e).imp (hs.2.2.2.2.2.2.2.2.1 b) id)
  have hp20 := hp2
  obtain ⟨F2, hI2, hF2, KP2, hret2⟩ := hp2
  have hI20 := hI2
  obtain ⟨q2, Fin2, sv2, ev2, kv2, kk2, n2, xs2, hs2, hrel2⟩ := hI20
  have Bc := hs2.2.1
  have KPt := KP'.trans KP2 hFF
  have hF9 : ∀ b, F2 b → F b ∨ h.size ≤ b := fun b hb => (hF2 b hb).elim (hFF b) (fun e => .inr (by have := KP'.1; omega))
  have hke : RBy h2 kv0 key := RBytes.by ((RBytes.lowen hkey).stab (fun b hb => KPt.2 b hb.2 hb.1))
  have hlaw := seek_lt hO hSh key
  refine rA rfl rfl <| rN ?_
  refine tr_seq ?_
  refine tr_cut (fun E h' => ∃ bb : Bool, h2 = h' ∧ E = [(0, .pointer (some ⟨c, 0, none⟩)), (1, kv0), (5, r2), (28, .bool bb)] ∧ (bb = true → ∃ s2, cur (W.filterMap ff) (bwdP ff W (pLT W key)) = some s2 ∧ slt s2.s key = false) ∧ (bb = false → ∀ s2, cur (W.filterMap ff) (bwdP ff W (pLT W key)) = some s2 → slt s2.s key = true)) ?_ ?_
  ·
    obtain ⟨qv, rfl, hq⟩ := hret2.form
    rcases hq with ⟨rfl, hcur⟩ | ⟨s2, b, o, rfl, hcur, hFb, hps⟩
    · skip
      refine tr_quiet (by kernel_rfl) (by kernel_rfl) ?_
      refine rq_v (v_move rfl) <| rq_v (v_pne u_p_keyspan_Span rfl rfl) ?_
      refine rq_v (v_move rfl) ?_
      refine rm_gs same_pre rfl rfl rfl ?_
      refine rm_gs same_pre rfl rfl rfl ?_
      refine rm_gs same_pre rfl rfl rfl ?_
      refine rm_gs same_pre rfl rfl rfl ?_
      refine rm_gs same_pre rfl rfl rfl ?_
      refine rm_gs same_pre rfl rfl rfl ?_
      refine rm_gs same_pre rfl rfl rfl ?_
      refine rm_gs same_pre rfl rfl rfl ?_
      refine rm_gs same_pre rfl rfl rfl ?_
      refine rm_gs same_pre rfl rfl rfl ?_
      refine rm_gs same_pre rfl rfl rfl ?_
      refine rq_v (v_pick_f rfl rfl) ?_
      refine rm_end ?_; simp only [endM, hypF, ofE, argE]
      exact q_cut [(0, _), (1, _), (5, _), (28, _)] ⟨rfl, rfl, rfl, rfl, trivial⟩ ⟨_, rfl, rfl, (fun h9 => by cases h9), fun _ s2 hs9 => by rw [hcur] at hs9; cases hs9⟩
    · obtain ⟨sv9, ev9, kv9, kk9, hcell, g1, g2, g3⟩ := hps
      refine tr_quiet (by kernel_rfl) (by kernel_rfl) ?_
      refine rq_v (v_move rfl) <| rq_v (v_pne u_p_keyspan_Span rfl rfl) ?_
      refine rq_v (v_move rfl) ?_
      refine rq_gv rfl rfl (v_move rfl) ?_
      refine rq_gv rfl rfl (v_nilCheck_ptr rfl) ?_
      refine rq_gv rfl rfl (v_fieldAddr fa_keyspan_filteringIter_2 rfl) ?_
      refine rq_gv rfl rfl (v_load one_base_Compare rfl (by exact Bc.cell _ rfl)) ?_
      refine rq_gv rfl rfl (v_move rfl) ?_
      refine rq_gv rfl rfl (v_nilCheck_ptr rfl) ?_
      refine rq_gv rfl rfl (v_fieldAddr fa_keyspan_Span_0 rfl) ?_
      refine rq_gv rfl rfl (v_load one_sl_uint8 rfl (by exact hcell.at 0 rfl)) ?_
      refine rq_gv rfl rfl (v_move rfl) ?_
      refine rq_gw rfl rfl (w_callv (first := []) (cap := []) (vs := [_, _]) ok_bytes_Compare rfl ⟨rfl, rfl, trivial⟩ (c_Compare χ _ _ _ s2.s key (RBytes.by g1) hke)) ?_
      refine rq_gv rfl rfl (v_ge rfl rfl) ?_
      refine rq_v (v_pick_t rfl rfl) ?_
      refine rm_end ?_; simp only [endM, hypF, ofE, argE]
      exact q_cut [(0, _), (1, _), (5, _), (28, _)] ⟨rfl, rfl, rfl, rfl, trivial⟩ ⟨_, rfl, rfl, (fun h9 => ⟨s2, hcur, slt_no.2 (of_decide_eq_true h9)⟩), fun h9 s3 hs9 => by rw [hcur] at hs9; cases hs9; exact slt_iff.2 (by have := of_decide_eq_false h9; omega)⟩
  rintro E h9 ⟨bb, hh, rfl, hb1, hb0⟩
  subst hh
  refine tr_if rfl (fun hif => ?_) (fun hif => ?_)
  · -- yes
    obtain ⟨s2, hcur, hgood⟩ := hb1 hif
    have hcan : canPrev (bwdP ff W (pLT W key)) = true := by
      obtain ⟨i9, e9, _⟩ := cur_some hcur
      rw [e9]; rfl
    refine rG <| rM rfl rfl <| rs_w (w_call (vs := [_]) ok_keyspan_filteringIter_Prev rfl ⟨rfl, trivial⟩ (c_FiPrev hit hfn hWn hI2 hcan)) rfl ?_
    rintro r3 h4 hp3
    refine rA rfl rfl <| rN <| tr_ret <| q_thn_ret <| q_ret (res_tmp rfl rfl) ?_
    rw [hlaw.2 s2 hcur, if_neg (by rw [hgood]; decide)]
    exact itpost_trans (KP'.trans KP2 hFF) hF9 hp3
  -- no
  skip
  refine tr_skip ?_
  refine q_thn ?_
  refine rG <| rM rfl rfl <| rA rfl rfl <| rN <| tr_ret <| q_ret (res_tmp rfl rfl) ?_
  have hpp : pLT (W.filterMap ff) key = bwdP ff W (pLT W key) := by
    cases hc9 : cur (W.filterMap ff) (bwdP ff W (pLT W key)) with
    | none => exact hlaw.1 hc9
    | some s2 =>
      have h9 := hb0 hif s2 hc9
      rw [hlaw.2 s2 hc9, if_pos h9]
  rw [hpp]
  exact itpost_trans KP' hFF hp20
theorem m_FiFirst (v : Value) : Meth Tryz.prog 226 v "First" 212 v := fun _ => by kernel_rfl
theorem m_FiLast (v : Value) : Meth Tryz.prog 226 v "Last" 213 v := fun _ => by kernel_rfl
theorem m_FiNext (v : Value) : Meth Tryz.prog 226 v "Next" 214 v := fun _ => by kernel_rfl
theorem m_FiPrev (v : Value) : Meth Tryz.prog 226 v "Prev" 215 v := fun _ => by kernel_rfl
theorem m_FiSeekGE (v : Value) : Meth Tryz.prog 226 v "SeekGE" 216 v := fun _ => by kernel_rfl
theorem m_FiSeekLT (v : Value) : Meth Tryz.prog 226 v "SeekLT" 217 v := fun _ => by kernel_rfl
theorem m_FiError (v : Value) : Meth Tryz.prog 226 v "Error" 211 v := fun _ => by kernel_rfl
theorem fi_ok {χ : Chi} {ff : SpanD → Option SpanD} {fv : Value} {G0 : Nat → Prop} {Env : Heap → Prop} {W : List SpanD} {t : TypeId} {v0 : Value} {I : ItI} (c : Nat) (hit : IterOK Tryz.prog χ W t v0 I) (hfn : FnOK χ W ff fv G0 Env) (hWn : ∀ s, s ∈ W → s.ks.length ≤ 100000) (hO : Tess.Ord W) (hSh : Shrink ff W) :
    IterOK Tryz.prog χ (W.filterMap ff) 226 (.pointer (some ⟨c, 0, none⟩)) (FIt ff W I t v0 fv c G0 Env) where
  low := fun hI => by obtain ⟨q, Fin, sv, ev, kv, kk, n, xs, hs, hrel⟩ := hI; exact hs.2.2.2.2.2.2.2.2.2.2.2.2
  stab := fun hI hst hz => by
    obtain ⟨q, Fin, sv, ev, kv, kk, n, xs, ⟨hI, B, O, hE, hx, hc, hg, hd, hs1, hs2, hs3, hs4, hl⟩, hrel⟩ := hI
    refine ⟨q, Fin, sv, ev, kv, kk, n, xs, ⟨hit.stab hI (fun b hb => hst b (hs1 b hb)) hz, (hst c hs2).trans B, ?_, hfn.stab hE (fun b hb => hst b (hs4 b hb)) hz, hx, hc, hg, hd, hs1, hs2, hs3, hs4, hl.mono hz⟩, hrel⟩
    refine ⟨O.1, ?_⟩
    rcases O.2 with hn | ⟨g, cap, cur, rfl, hb, hgg, rest⟩
    · exact .inl hn
    · exact .inr ⟨g, cap, cur, rfl, hb, (hst g (hs3 g (by simp [Value.ownBlock]))).trans hgg, rest⟩
  first := fun hI => ⟨_, _, ok_keyspan_filteringIter_First, m_FiFirst _, c_FiFirst hit hfn hWn hI⟩
  last := fun hI => ⟨_, _, ok_keyspan_filteringIter_Last, m_FiLast _, c_FiLast hit hfn hWn hI⟩
  next := fun hI hc => ⟨_, _, ok_keyspan_filteringIter_Next, m_FiNext _, c_FiNext hit hfn hWn hI hc⟩
  prev := fun hI hc => ⟨_, _, ok_keyspan_filteringIter_Prev, m_FiPrev _, c_FiPrev hit hfn hWn hI hc⟩
  ge := fun hI hk => ⟨_, _, ok_keyspan_filteringIter_SeekGE, m_FiSeekGE _, c_FiSeekGE hit hfn hWn hO hSh hI hk⟩
  lt := fun hI hk => ⟨_, _, ok_keyspan_filteringIter_SeekLT, m_FiSeekLT _, c_FiSeekLT hit hfn hWn hO hSh hI hk⟩
  err := fun hI => by
    obtain ⟨q, Fin, sv, ev, kv, kk, n, xs, hs, hrel⟩ := hI
    exact ⟨_, _, ok_keyspan_filteringIter_Error, m_FiError _, c_FiError χ hit _ c q Fin _ hs.1 hs.2.1⟩
set_option maxHeartbeats 1000000
theorem c_Filter (χ : Chi) (h : Heap) (t : TypeId) (v0 : Value) (f : FuncId) (cap : Array Value) :
    Cl Tryz.prog χ 99 #[.iface t v0, .func (.func f) #[] cap, cmpF] h
      (fun r h' => r = .iface 226 (.pointer (some ⟨h.size, 0, none⟩)) ∧ Blk h' h.size [.iface t v0, .func (.func f) #[] cap, cmpF, .slice none 0 0, .slice none 0 0, .slice none 0 0, .int .i8 0] 228 ∧ Keep [] h h') := by
  unfold cmpF
  refine cl_intro Tryz.func99 rfl rfl rfl ?_
  have K : Keep [] h h := Keep.refl _ _
  refine rG <| rA rfl rfl <| rN <| rG <| rM rfl rfl <| rM rfl rfl <| rM rfl rfl <| rs_v (v_build3 rfl rfl rfl (bld_keyspan_filteringIter_0_1_2 _ _ _ _ _ _ _ _)) rfl ?_
  refine rs_w (w_newbox rfl) rfl ?_
  rintro _ h1 ⟨rfl, B1, K1, Z1⟩
  have S1 := K.1; have K := K.new0 K1
  refine rs_v (v_makeIface u_p_keyspan_filteringIter rfl) rfl ?_
  refine rA rfl rfl <| rN <| tr_ret <| q_ret (res_tmp rfl rfl) ?_
  exact ⟨rfl, B1, K⟩

set_option maxHeartbeats 1000000
theorem keep_of_p {F : Nat → Prop} {h h1 h' : Heap} (K : Keep [] h h1) (KP : KeepP F h1 h') (hF : ∀ b, F b → h.size ≤ b) : Keep [] h h' :=
  ⟨Nat.le_trans K.1 KP.1, fun b hb _ => (KP.2 b (Nat.lt_of_lt_of_le hb K.1) (fun hf => by have := hF b hf; omega)).trans (K.2 b hb (by simp))⟩
set_option maxHeartbeats 1000000
def keyLess (a b : KeyD) : Bool := if a.tr = b.tr then (if seq' a.suf b.suf then slt a.val b.val else slt a.suf b.suf) else decide (b.tr < a.tr)
theorem c_spanKeyLess (χ : Chi) (h : Heap) (a b : KeyD) :
    Cl Tryz.prog χ 77 #[.agg #[.int .u64 a.tr, .string a.suf, .string a.val], .agg #[.int .u64 b.tr, .string b.suf, .string b.val]] h (fun r h' => r = .bool (keyLess a b) ∧ Keep [] h h') := by
  refine cl_intro Tryz.func77 rfl rfl rfl ?_
  have K : Keep [] h h := Keep.refl _ _
  refine rG <| rs_w (w_newbox rfl) rfl ?_
  rintro _ h1 ⟨rfl, B1, K1, Z1⟩
  have S1 := K.1; have K := K.new0 K1
  refine rs_w (w_newbox rfl) rfl ?_
  rintro _ h2 ⟨rfl, B2, K2, Z2⟩
  have B1 := K2.blk (by simp) B1
  have S2 := K.1; have K := K.new0 K2
  refine rA rfl rfl <| rN ?_
  refine tr_seq ?_
  refine rG <| rF fa_spec_SpanKey_0 rfl rfl <| rs_v (v_load one_uint64 rfl (by exact B1.cell _ rfl)) rfl ?_
  refine rF fa_spec_SpanKey_0 rfl rfl <| rs_v (v_load one_uint64 rfl (by exact B2.cell _ rfl)) rfl ?_
  refine rs_v (v_ne rfl rfl) rfl ?_
  refine rN ?_
  refine tr_if rfl (fun hif => ?_) (fun hif => ?_)
  · -- yes
    simp only [decide_eq_true_eq] at hif
    refine rG <| rF fa_spec_SpanKey_0 rfl rfl <| rs_v (v_load one_uint64 rfl (by exact B1.cell _ rfl)) rfl ?_
    refine rF fa_spec_SpanKey_0 rfl rfl <| rs_v (v_load one_uint64 rfl (by exact B2.cell _ rfl)) rfl ?_
    refine rs_v (v_gt rfl rfl) rfl ?_
    refine rA rfl rfl <| rN <| tr_ret <| q_thn_ret <| q_ret (res_tmp rfl rfl) ?_
    exact ⟨by simp [keyLess, hif], K⟩
  -- no
  simp only [decide_eq_false_iff_not, Decidable.not_not] at hif
  have hno := hif
  refine tr_skip ?_
  refine q_thn ?_
  refine tr_seq ?_
  refine rG <| rF fa_spec_SpanKey_1 rfl rfl <| rs_v (v_load one_string rfl (by exact B1.cell _ rfl)) rfl ?_
  refine rF fa_spec_SpanKey_1 rfl rfl <| rs_v (v_load one_string rfl (by exact B2.cell _ rfl)) rfl ?_
  refine rs_v (v_sne rfl rfl) rfl ?_
  refine rN ?_
  refine tr_if rfl (fun hif => ?_) (fun hif => ?_)
  · -- yes
    skip
    refine rG <| rF fa_spec_SpanKey_1 rfl rfl <| rs_v (v_load one_string rfl (by exact B1.cell _ rfl)) rfl ?_
    refine rF fa_spec_SpanKey_1 rfl rfl <| rs_v (v_load one_string rfl (by exact B2.cell _ rfl)) rfl ?_
    refine rs_v (v_slt rfl rfl) rfl ?_
    refine rA rfl rfl <| rN <| tr_ret <| q_thn_ret <| q_ret (res_tmp rfl rfl) ?_
    have h9 : seq' a.suf b.suf = false := by simpa using hif
    exact ⟨by simp [keyLess, hno, h9], K⟩
  -- no
  skip
  refine tr_skip ?_
  refine q_thn ?_
  refine rG <| rF fa_spec_SpanKey_2 rfl rfl <| rs_v (v_load one_string rfl (by exact B1.cell _ rfl)) rfl ?_
  refine rF fa_spec_SpanKey_2 rfl rfl <| rs_v (v_load one_string rfl (by exact B2.cell _ rfl)) rfl ?_
  refine rs_v (v_slt rfl rfl) rfl ?_
  refine rA rfl rfl <| rN <| tr_ret <| q_ret (res_tmp rfl rfl) ?_
  have h9 : seq' a.suf b.suf = true := by simpa using hif
  exact ⟨by simp [keyLess, hno, h9], K⟩
theorem eqFields_refl {P : Program} (d : Nat) (w : World) (xs : Array Value) : ∀ (fs : List Field), (∀ f, f ∈ fs → ∃ a, (part f.type xs f.offset).run P w = .ok a w ∧ (Op.equalIn d f.type a a).run P w = .ok true w) → (Op.eqFields d xs xs fs).run P w = .ok true w
  | [], _ => by simp [Op.eqFields]
  | f :: fs, h => by
    obtain ⟨a, h1, h2⟩ := h f (by simp)
    have ih := eqFields_refl d w xs fs (fun g hg => h g (by simp [hg]))
    simp only [Op.eqFields]
    split
    · simp [Sem.run_bind, h1, h2, ih]
    · simp [Sem.run_bind, ih]
theorem eqKey (a : KeyD) (w : World) : (Op.equalIn 10000 42 (.agg #[.int .u64 a.tr, .string a.suf, .string a.val]) (.agg #[.int .u64 a.tr, .string a.suf, .string a.val])).run Tryz.prog w = .ok true w := by
  have hS : Tryz.prog.underlying 42 = some (.struct (Tryz.prog.fieldsOf 42)) := by kernel_rfl
  have hp : Tryz.prog.stoodInHeld 42 = false := by kernel_rfl
  rw [show (10000 : Nat) = 9999 + 1 from rfl, run_equalIn_struct w 9999 42 _ _ hS hp]
  have hf : (Tryz.prog.fieldsOf 42).toList = [(Tryz.prog.fieldsOf 42).toList.getD 0 default, (Tryz.prog.fieldsOf 42).toList.getD 1 default, (Tryz.prog.fieldsOf 42).toList.getD 2 default] := by kernel_rfl
  refine eqFields_refl _ _ _ _ fun f hm => ?_
  rw [hf] at hm
  simp only [List.mem_cons, List.not_mem_nil, or_false] at hm
  rcases hm with rfl | rfl | rfl
  · refine ⟨.int .u64 a.tr, by kernel_rfl, ?_⟩
    rw [show ((Tryz.prog.fieldsOf 42).toList.getD 0 default).type = 35 from by kernel_rfl, show (9999 : Nat) = 9998 + 1 from rfl, run_equalIn_int w _ _ _ _ _ _ u_uint64]; simp
  · refine ⟨.string a.suf, by kernel_rfl, ?_⟩
    rw [show ((Tryz.prog.fieldsOf 42).toList.getD 1 default).type = 9 from by kernel_rfl, show (9999 : Nat) = 9998 + 1 from rfl, run_equalIn_string w _ _ _ _ u_string]; simp
  · refine ⟨.string a.val, by kernel_rfl, ?_⟩
    rw [show ((Tryz.prog.fieldsOf 42).toList.getD 2 default).type = 9 from by kernel_rfl, show (9999 : Nat) = 9998 + 1 from rfl, run_equalIn_string w _ _ _ _ u_string]; simp
theorem c_sameSpanKeys (χ : Chi) (h : Heap) (A A2 : Nat → Prop) (v u : Value) (ks : List KeyD) (hk : RKeys A h v ks) (hk2 : RKeys A2 h u ks) :
    Cl Tryz.prog χ 119 #[v, u] h (fun r h' => r = .bool true ∧ Keep [] h h') := by
  obtain ⟨hlen, a, c, rfl, hx⟩ := hk.form
  obtain ⟨_, a2, c2, rfl, hx2⟩ := hk2.form
  refine cl_intro Tryz.func119 rfl rfl rfl ?_
  have K : Keep [] h h := Keep.refl _ _
  refine rG <| rA rfl rfl <| rN ?_
  refine tr_seq ?_
  refine rG <| rM rfl rfl <| rs_v (v_len u_sl_spec_SpanKey rfl) rfl ?_
  refine rM rfl rfl <| rs_v (v_len u_sl_spec_SpanKey rfl) rfl ?_
  refine rs_v (v_ne rfl rfl) rfl ?_
  refine rN <| tr_if_f (lkb (decide_eq_false (by simp))) ?_
  refine tr_skip ?_
  refine q_thn ?_
  refine tr_seq ?_
  refine rG <| rM rfl rfl <| rs_v (v_len u_sl_spec_SpanKey rfl) rfl ?_
  refine rM rfl rfl <| rN <| tr_block ?_
  refine tr_loop (fun m E h' => ∃ k, k ≤ ks.length ∧ m = ks.length - k ∧ E = [(0, .slice a ks.length c), (1, .slice a2 ks.length c2), (12, .slice a ks.length c), (13, .int .i64 (ks.length : Int)), (14, .int .i64 (k : Int))] ∧ Keep [] h h') ks.length [(0, _), (1, _), (12, _), (13, _), (14, _)] ⟨rfl, rfl, rfl, rfl, rfl, trivial⟩ ⟨0, Nat.zero_le _, rfl, rfl, K⟩ ?_
  rintro m E hL1 ⟨k, hk, rfl, rfl, K⟩
  refine rG <| rs_v (v_lt rfl rfl) rfl ?_
  refine rN ?_
  refine tr_seq ?_
  refine tr_ifn rfl (fun hif => ?_) (fun hif => ?_)
  · -- no
    simp only [decide_eq_false_iff_not] at hif
    refine tr_exit <| q_thn_exit ?_
    refine q_lp_exit ?_
    refine q_blk_hit ?_
    refine q_thn ?_
    refine rG <| rA rfl rfl <| rN <| tr_ret <| q_ret (res_tmp rfl rfl) ?_
    exact ⟨rfl, K⟩
  -- yes
  simp only [dT, dF] at hif
  rcases hx with rfl | ⟨b, o, rfl, hAb, hR⟩
  · simp at hif; omega
  rcases hx2 with rfl | ⟨b2, o2, rfl, hAb2, hR2⟩
  · simp at hif; omega
  obtain ⟨y, hsk⟩ := ex_get (L := ks) (k := k) (by omega)
  have hc1 := K.cells (by simp) (hR k y hsk)
  have hc2 := K.cells (by simp) (hR2 k y hsk)
  refine tr_skip ?_
  refine q_thn ?_
  refine tr_seq ?_
  refine tr_block <| rG <| rM rfl rfl <| rs_v (v_indexAddrN u_sl_spec_SpanKey siz_spec_SpanKey rfl rfl (by omega)) rfl ?_
  refine rs_v (v_loadAgg (vs := [_, _, _]) many_spec_SpanKey rfl (by exact hc1)) rfl ?_
  refine rs_w (w_new zero_spec_SpanKey) rfl ?_
  rintro _ h2 ⟨rfl, B2, K2, Z2⟩
  have S2 := K.1; have K := K.new0 K2
  refine rA rfl rfl <| rs_w0 (w_put siz_spec_SpanKey rfl rfl rfl rfl B2 rfl) ?_
  rintro _ h3 ⟨B3, K3⟩
  have B2 := B3; have K := K.new1 K3 (by first | (right; omega) | (left; simp; done)); have Z3 := K3.1
  refine rN ?_
  refine tr_seq ?_
  refine tr_quiet (by kernel_rfl) (by kernel_rfl) ?_
  refine rq_v (v_loadAgg (vs := [_, _, _]) many_spec_SpanKey rfl (by exact B2.sub _ 3 rfl)) ?_
  refine rq_v (v_move rfl) <| rq_v (v_move rfl) <| rq_v (v_indexAddrN u_sl_spec_SpanKey siz_spec_SpanKey rfl rfl (by omega)) ?_
  refine rq_v (v_loadAgg (vs := [_, _, _]) many_spec_SpanKey rfl (by exact K.cells (by simp) (hR2 k y hsk))) ?_
  refine rq_v (v_aggne (by kernel_rfl) rfl rfl (eqKey y)) ?_
  refine rm_end ?_; simp only [endM, hypF, ofE, argE]
  refine q_thn ?_
  refine tr_if_f rfl ?_
  refine tr_skip <| q_blk_n ?_
  refine q_thn ?_
  refine tr_reg ?_
  refine rs_v (v_add rfl rfl (by omega) (by omega)) rfl ?_
  refine rM rfl rfl ?_
  refine rs_nil ?_
  refine q_lp (ks.length - (k + 1)) [(0, _), (1, _), (12, _), (13, _), (14, _)] (by omega) ⟨rfl, rfl, rfl, rfl, rfl, trivial⟩ ⟨k + 1, by omega, rfl, rfl, K⟩
theorem c_sameSpan (χ : Chi) (h : Heap) (A A2 : Nat → Prop) (hA : Low A h) (hA2 : Low A2 h) (s : SpanD) (v u : Value) (hk : RKeys A h v s.ks) (hk2 : RKeys A2 h u s.ks) :
    Cl Tryz.prog χ 92 #[.agg #[.string s.s, .string s.e, v], .agg #[.string s.s, .string s.e, u]] h (fun r h' => r = .bool true ∧ Keep [] h h') := by
  obtain ⟨ka, kc, rfl⟩ := hk.form2
  obtain ⟨ka2, kc2, rfl⟩ := hk2.form2
  have q1 : seq' s.s s.s = true := seq'_eq.2 rfl
  have q2 : seq' s.e s.e = true := seq'_eq.2 rfl
  refine cl_intro Tryz.func92 rfl rfl rfl ?_
  have K : Keep [] h h := Keep.refl _ _
  refine rG <| rs_w (w_newbox rfl) rfl ?_
  rintro _ h1 ⟨rfl, B1, K1, Z1⟩
  have S1 := K.1; have K := K.new0 K1
  refine rs_w (w_newbox rfl) rfl ?_
  rintro _ h2 ⟨rfl, B2, K2, Z2⟩
  have B1 := K2.blk (by simp) B1
  have S2 := K.1; have K := K.new0 K2
  refine rA rfl rfl <| rN <| rG <| rF fa_spec_Span_0 rfl rfl <| rs_v (v_load one_string rfl (by exact B1.cell _ rfl)) rfl ?_
  refine rF fa_spec_Span_0 rfl rfl <| rs_v (v_load one_string rfl (by exact B2.cell _ rfl)) rfl ?_
  refine rs_v (v_seq rfl rfl) rfl ?_
  refine rM rfl rfl <| rs_gv rfl (lkb q1) (v_fieldAddr fa_spec_Span_1 rfl) rfl ?_
  refine rs_gv rfl (lkb q1) (v_load one_string rfl (by exact B1.cell _ rfl)) rfl ?_
  refine rs_gv rfl (lkb q1) (v_fieldAddr fa_spec_Span_1 rfl) rfl ?_
  refine rs_gv rfl (lkb q1) (v_load one_string rfl (by exact B2.cell _ rfl)) rfl ?_
  refine rs_gv rfl (lkb q1) (v_seq rfl rfl) rfl ?_
  refine rs_v (v_pick_t (lkb q1) rfl) rfl ?_
  refine rM rfl rfl <| rs_gv rfl (lkb q2) (v_fieldAddr fa_spec_Span_2 rfl) rfl ?_
  refine rs_gv rfl (lkb q2) (v_load one_sl_spec_SpanKey rfl (by exact B1.cell _ rfl)) rfl ?_
  refine rs_gv rfl (lkb q2) (v_fieldAddr fa_spec_Span_2 rfl) rfl ?_
  refine rs_gv rfl (lkb q2) (v_load one_sl_spec_SpanKey rfl (by exact B2.cell _ rfl)) rfl ?_
  refine rs_gw rfl (lkb q2) (w_call (vs := [_, _]) ok_laws_sameSpanKeys rfl ⟨rfl, rfl, trivial⟩ (c_sameSpanKeys χ _ A A2 _ _ s.ks (hk.stab (K.st hA)) (hk2.stab (K.st hA2)))) rfl ?_
  rintro _ h3 ⟨rfl, K3⟩
  have B1 := K3.blk (by simp) B1
  have B2 := K3.blk (by simp) B2
  have K := K.new0 K3; have Z3 := K3.1
  refine rs_v (v_pick_t (lkb q2) rfl) rfl ?_
  refine rA rfl rfl <| rN <| tr_ret <| q_ret (res_tmp rfl rfl) ?_
  exact ⟨rfl, K⟩
theorem c_sameSpans (χ : Chi) (h : Heap) (A A2 : Nat → Prop) (hA : Low A h) (hA2 : Low A2 h) (v u : Value) (W : List SpanD) (hk : RSpans A h v W) (hk2 : RSpans A2 h u W) :
    Cl Tryz.prog χ 52 #[v, u] h (fun r h' => r = .bool true ∧ Keep [] h h') := by
  obtain ⟨hlen, a, c, rfl, hx⟩ := hk.form
  obtain ⟨_, a2, c2, rfl, hx2⟩ := hk2.form
  refine cl_intro Tryz.func52 rfl rfl rfl ?_
  have K : Keep [] h h := Keep.refl _ _
  refine rG <| rA rfl rfl <| rN ?_
  refine tr_seq ?_
  refine rG <| rM rfl rfl <| rs_v (v_len u_sl_spec_Span rfl) rfl ?_
  refine rM rfl rfl <| rs_v (v_len u_sl_spec_Span rfl) rfl ?_
  refine rs_v (v_ne rfl rfl) rfl ?_
  refine rN <| tr_if_f (lkb (decide_eq_false (by simp))) ?_
  refine tr_skip ?_
  refine q_thn ?_
  refine tr_seq ?_
  refine rG <| rM rfl rfl <| rs_v (v_len u_sl_spec_Span rfl) rfl ?_
  refine rM rfl rfl <| rN <| tr_block ?_
  refine tr_loop (fun m E h' => ∃ k, k ≤ W.length ∧ m = W.length - k ∧ E = [(0, .slice a W.length c), (1, .slice a2 W.length c2), (12, .slice a W.length c), (13, .int .i64 (W.length : Int)), (14, .int .i64 (k : Int))] ∧ Keep [] h h') W.length [(0, _), (1, _), (12, _), (13, _), (14, _)] ⟨rfl, rfl, rfl, rfl, rfl, trivial⟩ ⟨0, Nat.zero_le _, rfl, rfl, K⟩ ?_
  rintro m E hL1 ⟨k, hk, rfl, rfl, K⟩
  refine rG <| rs_v (v_lt rfl rfl) rfl ?_
  refine rN ?_
  refine tr_seq ?_
  refine tr_ifn rfl (fun hif => ?_) (fun hif => ?_)
  · -- no
    simp only [decide_eq_false_iff_not] at hif
    refine tr_exit <| q_thn_exit ?_
    refine q_lp_exit ?_
    refine q_blk_hit ?_
    refine q_thn ?_
    refine rG <| rA rfl rfl <| rN <| tr_ret <| q_ret (res_tmp rfl rfl) ?_
    exact ⟨rfl, K⟩
  -- yes
  simp only [dT, dF] at hif
  rcases hx with rfl | ⟨b, o, rfl, hAb, hR⟩
  · simp at hif; omega
  rcases hx2 with rfl | ⟨b2, o2, rfl, hAb2, hR2⟩
  · simp at hif; omega
  obtain ⟨y, hsk⟩ := ex_get (L := W) (k := k) (by omega)
  obtain ⟨kv, hc1, hk9⟩ := hR k y hsk
  obtain ⟨kv2, hc2, hk8⟩ := hR2 k y hsk
  obtain ⟨ka, kc, rfl⟩ := hk9.form2
  obtain ⟨ka2, kc2, rfl⟩ := hk8.form2
  have hc1 := K.cells (by simp) hc1
  refine tr_skip ?_
  refine q_thn ?_
  refine tr_seq ?_
  refine tr_block <| rG <| rM rfl rfl <| rs_v (v_indexAddrN u_sl_spec_Span siz_spec_Span rfl rfl (by omega)) rfl ?_
  refine rs_v (v_loadAgg (vs := [_, _, _]) many_spec_Span rfl (by exact hc1)) rfl ?_
  refine rs_w (w_new zero_spec_Span) rfl ?_
  rintro _ h2 ⟨rfl, B2, K2, Z2⟩
  have S2 := K.1; have K := K.new0 K2
  refine rA rfl rfl <| rs_w0 (w_put siz_spec_Span rfl rfl rfl rfl B2 rfl) ?_
  rintro _ h3 ⟨B3, K3⟩
  have B2 := B3; have K := K.new1 K3 (by first | (right; omega) | (left; simp; done)); have Z3 := K3.1
  refine rN ?_
  refine tr_seq ?_
  refine tr_any (Keep []) (keep_pre _) (by kernel_rfl) (by kernel_rfl) ?_
  refine rm_v (keep_pre _) (fun h' hk => v_loadAgg (vs := [_, _, _]) many_spec_Span rfl (by exact (hk.blk (by simp) B2).sub _ 3 rfl)) ?_
  refine rm_v (keep_pre _) (fun h' hk => v_move rfl) ?_
  refine rm_v (keep_pre _) (fun h' hk => v_move rfl) ?_
  refine rm_v (keep_pre _) (fun h' hk => v_indexAddrN u_sl_spec_Span siz_spec_Span rfl rfl (by omega)) ?_
  refine rm_v (keep_pre _) (fun h' hk => v_loadAgg (vs := [_, _, _]) many_spec_Span rfl (by exact (K.new0 hk).cells (by simp) hc2)) ?_
  refine rm_c (fun h' hk => w_call (vs := [_, _]) ok_laws_sameSpan rfl ⟨rfl, rfl, trivial⟩ (c_sameSpan χ h' A A2 (hA.mono (K.new0 hk).1) (hA2.mono (K.new0 hk).1) y _ _ (hk9.stab ((K.new0 hk).st hA)) (hk8.stab ((K.new0 hk).st hA2)))) ?_
  refine rm_v (keep_pre _) (fun h' hk => v_not rfl) ?_
  refine rm_end ?_; intro h4 K4; simp only [endM, hypF, ofE, argE, List.nil_append]
  have B2 := K4.blk (by simp) B2
  have K := K.new0 K4; have Z4 := K4.1
  refine q_thn ?_
  refine tr_if_f rfl ?_
  refine tr_skip <| q_blk_n ?_
  refine q_thn ?_
  refine tr_reg ?_
  refine rs_v (v_add rfl rfl (by omega) (by omega)) rfl ?_
  refine rM rfl rfl ?_
  refine rs_nil ?_
  refine q_lp (W.length - (k + 1)) [(0, _), (1, _), (12, _), (13, _), (14, _)] (by omega) ⟨rfl, rfl, rfl, rfl, rfl, trivial⟩ ⟨k + 1, by omega, rfl, rfl, K⟩
end Go.Proofs.YtmckkklhonfmcaaGreat
