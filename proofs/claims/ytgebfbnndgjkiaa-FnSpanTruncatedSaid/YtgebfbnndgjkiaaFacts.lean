/- Closed facts of the program: types' sizes, fields' places, functions with a body. Conditions: none. -/
import Derived.Test.YtgebfbnndgjkiaaEngG
import Derived.Test.YtgebfbnndgjkiaaProg
set_option linter.unusedVariables false
set_option linter.unusedSimpArgs false
namespace Go.Proofs.Ytgebfbnndgjkiaa
open Go.Tess
set_option maxRecDepth 100000
theorem u_int : Try.prog.underlying 3 = some (.int .i64) := by kernel_rfl
theorem u_bool : Try.prog.underlying 4 = some (.bool) := by kernel_rfl
theorem u_uint8 : Try.prog.underlying 5 = some (.int .u8) := by kernel_rfl
theorem u_string : Try.prog.underlying 9 = some (.string) := by kernel_rfl
theorem u_sl_spec_Span : Try.prog.underlying 22 = some (.slice 55) := by kernel_rfl
theorem u_uint64 : Try.prog.underlying 23 = some (.int .u64) := by kernel_rfl
theorem u_sl_spec_Step : Try.prog.underlying 24 = some (.slice 52) := by kernel_rfl
theorem u_sl_spec_SpanAnswer : Try.prog.underlying 28 = some (.slice 75) := by kernel_rfl
theorem u_sl_impl_SpanAnswer : Try.prog.underlying 32 = some (.slice 72) := by kernel_rfl
theorem u_sl_impl_Span : Try.prog.underlying 34 = some (.slice 61) := by kernel_rfl
theorem u_sl_impl_Step : Try.prog.underlying 36 = some (.slice 63) := by kernel_rfl
theorem u_sl_spec_SpanKey : Try.prog.underlying 53 = some (.slice 102) := by kernel_rfl
theorem u_sl_impl_SpanKey : Try.prog.underlying 59 = some (.slice 58) := by kernel_rfl
theorem u_sl_string : Try.prog.underlying 68 = some (.slice 9) := by kernel_rfl
theorem u_p_spec_SpanCursor : Try.prog.underlying 96 = some (.pointer 98) := by kernel_rfl
theorem u_p_base_Comparer : Try.prog.underlying 120 = some (.pointer 119) := by kernel_rfl
theorem u_p_keyspan_Span : Try.prog.underlying 122 = some (.pointer 128) := by kernel_rfl
theorem u_sl_uint8 : Try.prog.underlying 123 = some (.slice 5) := by kernel_rfl
theorem u_sl_keyspan_Key : Try.prog.underlying 124 = some (.slice 130) := by kernel_rfl
theorem u_int8 : Try.prog.underlying 125 = some (.int .i8) := by kernel_rfl
theorem u_keyspan_KeysOrder : Try.prog.underlying 126 = some (.int .i8) := by kernel_rfl
theorem u_p_keyspan_Iter : Try.prog.underlying 136 = some (.pointer 187) := by kernel_rfl
theorem u_sl_keyspan_Span : Try.prog.underlying 138 = some (.slice 128) := by kernel_rfl
theorem u_p_bool : Try.prog.underlying 141 = some (.pointer 4) := by kernel_rfl
theorem u_p_sl_uint8 : Try.prog.underlying 142 = some (.pointer 123) := by kernel_rfl
theorem u_keyspan_boundedIterPos : Try.prog.underlying 143 = some (.int .i8) := by kernel_rfl
theorem u_p_keyspan_BoundedIter : Try.prog.underlying 148 = some (.pointer 145) := by kernel_rfl
theorem u_p_keyspan_DefragmentingBuffers : Try.prog.underlying 151 = some (.pointer 164) := by kernel_rfl
theorem u_keyspan_iterPos : Try.prog.underlying 152 = some (.int .i8) := by kernel_rfl
theorem u_bytealloc_A : Try.prog.underlying 162 = some (.slice 5) := by kernel_rfl
theorem u_p_keyspan_DefragmentingIter : Try.prog.underlying 165 = some (.pointer 158) := by kernel_rfl
theorem u_p_base_InternalKey : Try.prog.underlying 171 = some (.pointer 169) := by kernel_rfl
theorem u_uint : Try.prog.underlying 177 = some (.int .u64) := by kernel_rfl
theorem u_p_keyspan_filteringIter : Try.prog.underlying 183 = some (.pointer 185) := by kernel_rfl
theorem isf_base_Compare : IsFunc Try.prog 104 := by unfold IsFunc; kernel_rfl
theorem isf_base_Equal : IsFunc Try.prog 106 := by unfold IsFunc; kernel_rfl
theorem isf_base_Split : IsFunc Try.prog 114 := by unfold IsFunc; kernel_rfl
theorem isi_keyspan_FragmentIterator : IsIface Try.prog 134 := by unfold IsIface; kernel_rfl
theorem isi_keyspan_DefragmentMethod : IsIface Try.prog 154 := by unfold IsIface; kernel_rfl
theorem isf_keyspan_DefragmentReducer : IsFunc Try.prog 156 := by unfold IsFunc; kernel_rfl
theorem isf_keyspan_DefragmentMethodFunc : IsFunc Try.prog 161 := by unfold IsFunc; kernel_rfl
theorem isf_keyspan_FilterFunc : IsFunc Try.prog 182 := by unfold IsFunc; kernel_rfl
theorem isi_error : IsIface Try.prog 222 := by unfold IsIface; kernel_rfl
theorem fa_spec_Bound_0 : FA Try.prog 43 0 0 := fun _ _ _ => by kernel_rfl
theorem fa_spec_Bound_1 : FA Try.prog 43 1 1 := fun _ _ _ => by kernel_rfl
theorem fa_impl_Bound_0 : FA Try.prog 48 0 0 := fun _ _ _ => by kernel_rfl
theorem fa_impl_Bound_1 : FA Try.prog 48 1 1 := fun _ _ _ => by kernel_rfl
theorem fa_spec_Step_0 : FA Try.prog 52 0 0 := fun _ _ _ => by kernel_rfl
theorem fa_spec_Step_1 : FA Try.prog 52 1 1 := fun _ _ _ => by kernel_rfl
theorem fa_spec_Span_0 : FA Try.prog 55 0 0 := fun _ _ _ => by kernel_rfl
theorem fa_spec_Span_1 : FA Try.prog 55 1 1 := fun _ _ _ => by kernel_rfl
theorem fa_spec_Span_2 : FA Try.prog 55 2 2 := fun _ _ _ => by kernel_rfl
theorem fa_impl_SpanKey_0 : FA Try.prog 58 0 0 := fun _ _ _ => by kernel_rfl
theorem fa_impl_SpanKey_1 : FA Try.prog 58 1 1 := fun _ _ _ => by kernel_rfl
theorem fa_impl_SpanKey_2 : FA Try.prog 58 2 2 := fun _ _ _ => by kernel_rfl
theorem fa_impl_Span_0 : FA Try.prog 61 0 0 := fun _ _ _ => by kernel_rfl
theorem fa_impl_Span_1 : FA Try.prog 61 1 1 := fun _ _ _ => by kernel_rfl
theorem fa_impl_Span_2 : FA Try.prog 61 2 2 := fun _ _ _ => by kernel_rfl
theorem fa_impl_Step_0 : FA Try.prog 63 0 0 := fun _ _ _ => by kernel_rfl
theorem fa_impl_Step_1 : FA Try.prog 63 1 1 := fun _ _ _ => by kernel_rfl
theorem fa_impl_SpanAnswer_0 : FA Try.prog 72 0 0 := fun _ _ _ => by kernel_rfl
theorem fa_impl_SpanAnswer_1 : FA Try.prog 72 1 1 := fun _ _ _ => by kernel_rfl
theorem fa_impl_SpanAnswer_2 : FA Try.prog 72 2 2 := fun _ _ _ => by kernel_rfl
theorem fa_spec_SpanAnswer_0 : FA Try.prog 75 0 0 := fun _ _ _ => by kernel_rfl
theorem fa_spec_SpanAnswer_1 : FA Try.prog 75 1 1 := fun _ _ _ => by kernel_rfl
theorem fa_spec_SpanAnswer_2 : FA Try.prog 75 2 2 := fun _ _ _ => by kernel_rfl
theorem fa_spec_Entry_0 : FA Try.prog 81 0 0 := fun _ _ _ => by kernel_rfl
theorem fa_spec_Entry_2 : FA Try.prog 81 2 2 := fun _ _ _ => by kernel_rfl
theorem fa_impl_Entry_0 : FA Try.prog 85 0 0 := fun _ _ _ => by kernel_rfl
theorem fa_impl_Entry_1 : FA Try.prog 85 1 1 := fun _ _ _ => by kernel_rfl
theorem fa_spec_SpanCursor_0 : FA Try.prog 98 0 0 := fun _ _ _ => by kernel_rfl
theorem fa_spec_SpanCursor_1 : FA Try.prog 98 1 1 := fun _ _ _ => by kernel_rfl
theorem fa_spec_SpanCursor_2 : FA Try.prog 98 2 2 := fun _ _ _ => by kernel_rfl
theorem fa_spec_SpanCursor_3 : FA Try.prog 98 3 3 := fun _ _ _ => by kernel_rfl
theorem fa_spec_SpanCursor_4 : FA Try.prog 98 4 4 := fun _ _ _ => by kernel_rfl
theorem fa_spec_SpanCursor_5 : FA Try.prog 98 5 5 := fun _ _ _ => by kernel_rfl
theorem fa_spec_SpanKey_0 : FA Try.prog 102 0 0 := fun _ _ _ => by kernel_rfl
theorem fa_spec_SpanKey_1 : FA Try.prog 102 1 1 := fun _ _ _ => by kernel_rfl
theorem fa_spec_SpanKey_2 : FA Try.prog 102 2 2 := fun _ _ _ => by kernel_rfl
theorem fa_base_Comparer_0 : FA Try.prog 119 0 0 := fun _ _ _ => by kernel_rfl
theorem fa_base_Comparer_1 : FA Try.prog 119 1 1 := fun _ _ _ => by kernel_rfl
theorem fa_base_Comparer_5 : FA Try.prog 119 5 5 := fun _ _ _ => by kernel_rfl
theorem fa_keyspan_Span_0 : FA Try.prog 128 0 0 := fun _ _ _ => by kernel_rfl
theorem fa_keyspan_Span_1 : FA Try.prog 128 1 1 := fun _ _ _ => by kernel_rfl
theorem fa_keyspan_Span_2 : FA Try.prog 128 2 2 := fun _ _ _ => by kernel_rfl
theorem fa_keyspan_Span_3 : FA Try.prog 128 3 3 := fun _ _ _ => by kernel_rfl
theorem fa_keyspan_Key_0 : FA Try.prog 130 0 0 := fun _ _ _ => by kernel_rfl
theorem fa_keyspan_Key_1 : FA Try.prog 130 1 1 := fun _ _ _ => by kernel_rfl
theorem fa_keyspan_Key_2 : FA Try.prog 130 2 2 := fun _ _ _ => by kernel_rfl
theorem fa_keyspan_BoundedIter_0 : FA Try.prog 145 0 0 := fun _ _ _ => by kernel_rfl
theorem fa_keyspan_BoundedIter_1 : FA Try.prog 145 1 1 := fun _ _ _ => by kernel_rfl
theorem fa_keyspan_BoundedIter_2 : FA Try.prog 145 2 2 := fun _ _ _ => by kernel_rfl
theorem fa_keyspan_BoundedIter_3 : FA Try.prog 145 3 3 := fun _ _ _ => by kernel_rfl
theorem fa_keyspan_BoundedIter_4 : FA Try.prog 145 4 4 := fun _ _ _ => by kernel_rfl
theorem fa_keyspan_BoundedIter_5 : FA Try.prog 145 5 5 := fun _ _ _ => by kernel_rfl
theorem fa_keyspan_BoundedIter_6 : FA Try.prog 145 6 6 := fun _ _ _ => by kernel_rfl
theorem fa_keyspan_BoundedIter_7 : FA Try.prog 145 7 7 := fun _ _ _ => by kernel_rfl
theorem fa_keyspan_BoundedIter_8 : FA Try.prog 145 8 8 := fun _ _ _ => by kernel_rfl
theorem fa_keyspan_DefragmentingIter_0 : FA Try.prog 158 0 0 := fun _ _ _ => by kernel_rfl
theorem fa_keyspan_DefragmentingIter_1 : FA Try.prog 158 1 1 := fun _ _ _ => by kernel_rfl
theorem fa_keyspan_DefragmentingIter_2 : FA Try.prog 158 2 2 := fun _ _ _ => by kernel_rfl
theorem fa_keyspan_DefragmentingIter_3 : FA Try.prog 158 3 3 := fun _ _ _ => by kernel_rfl
theorem fa_keyspan_DefragmentingIter_4 : FA Try.prog 158 4 4 := fun _ _ _ => by kernel_rfl
theorem fa_keyspan_DefragmentingIter_5 : FA Try.prog 158 5 5 := fun _ _ _ => by kernel_rfl
theorem fa_keyspan_DefragmentingIter_6 : FA Try.prog 158 6 6 := fun _ _ _ => by kernel_rfl
theorem fa_keyspan_DefragmentingIter_7 : FA Try.prog 158 7 10 := fun _ _ _ => by kernel_rfl
theorem fa_keyspan_DefragmentingIter_8 : FA Try.prog 158 8 11 := fun _ _ _ => by kernel_rfl
theorem fa_keyspan_DefragmentingBuffers_0 : FA Try.prog 164 0 0 := fun _ _ _ => by kernel_rfl
theorem fa_keyspan_DefragmentingBuffers_1 : FA Try.prog 164 1 1 := fun _ _ _ => by kernel_rfl
theorem fa_keyspan_DefragmentingBuffers_2 : FA Try.prog 164 2 2 := fun _ _ _ => by kernel_rfl
theorem fa_base_InternalKey_0 : FA Try.prog 169 0 0 := fun _ _ _ => by kernel_rfl
theorem fa_base_InternalKey_1 : FA Try.prog 169 1 1 := fun _ _ _ => by kernel_rfl
theorem fa_keyspan_filteringIter_0 : FA Try.prog 185 0 0 := fun _ _ _ => by kernel_rfl
theorem fa_keyspan_filteringIter_1 : FA Try.prog 185 1 1 := fun _ _ _ => by kernel_rfl
theorem fa_keyspan_filteringIter_2 : FA Try.prog 185 2 2 := fun _ _ _ => by kernel_rfl
theorem fa_keyspan_filteringIter_3 : FA Try.prog 185 3 3 := fun _ _ _ => by kernel_rfl
theorem fa_keyspan_Iter_0 : FA Try.prog 187 0 0 := fun _ _ _ => by kernel_rfl
theorem fa_keyspan_Iter_1 : FA Try.prog 187 1 1 := fun _ _ _ => by kernel_rfl
theorem fa_keyspan_Iter_2 : FA Try.prog 187 2 2 := fun _ _ _ => by kernel_rfl
theorem one_int : One Try.prog 3 := fun _ => by kernel_rfl
theorem one_bool : One Try.prog 4 := fun _ => by kernel_rfl
theorem one_uint8 : One Try.prog 5 := fun _ => by kernel_rfl
theorem one_string : One Try.prog 9 := fun _ => by kernel_rfl
theorem one_uint64 : One Try.prog 23 := fun _ => by kernel_rfl
theorem one_sl_spec_SpanKey : One Try.prog 53 := fun _ => by kernel_rfl
theorem one_sl_impl_SpanKey : One Try.prog 59 := fun _ => by kernel_rfl
theorem one_base_Compare : One Try.prog 104 := fun _ => by kernel_rfl
theorem one_base_Equal : One Try.prog 106 := fun _ => by kernel_rfl
theorem one_base_Split : One Try.prog 114 := fun _ => by kernel_rfl
theorem one_p_base_Comparer : One Try.prog 120 := fun _ => by kernel_rfl
theorem one_p_keyspan_Span : One Try.prog 122 := fun _ => by kernel_rfl
theorem one_sl_uint8 : One Try.prog 123 := fun _ => by kernel_rfl
theorem one_sl_keyspan_Key : One Try.prog 124 := fun _ => by kernel_rfl
theorem one_keyspan_KeysOrder : One Try.prog 126 := fun _ => by kernel_rfl
theorem one_keyspan_FragmentIterator : One Try.prog 134 := fun _ => by kernel_rfl
theorem one_sl_keyspan_Span : One Try.prog 138 := fun _ => by kernel_rfl
theorem one_p_bool : One Try.prog 141 := fun _ => by kernel_rfl
theorem one_p_sl_uint8 : One Try.prog 142 := fun _ => by kernel_rfl
theorem one_keyspan_boundedIterPos : One Try.prog 143 := fun _ => by kernel_rfl
theorem one_p_keyspan_DefragmentingBuffers : One Try.prog 151 := fun _ => by kernel_rfl
theorem one_keyspan_iterPos : One Try.prog 152 := fun _ => by kernel_rfl
theorem one_keyspan_DefragmentMethod : One Try.prog 154 := fun _ => by kernel_rfl
theorem one_keyspan_DefragmentReducer : One Try.prog 156 := fun _ => by kernel_rfl
theorem one_bytealloc_A : One Try.prog 162 := fun _ => by kernel_rfl
theorem one_p_base_InternalKey : One Try.prog 171 := fun _ => by kernel_rfl
theorem one_keyspan_FilterFunc : One Try.prog 182 := fun _ => by kernel_rfl
theorem many_spec_Bound : Many Try.prog 43 2 := ⟨fun _ => by kernel_rfl, fun _ => by kernel_rfl⟩
theorem many_impl_Bound : Many Try.prog 48 2 := ⟨fun _ => by kernel_rfl, fun _ => by kernel_rfl⟩
theorem many_spec_Step : Many Try.prog 52 2 := ⟨fun _ => by kernel_rfl, fun _ => by kernel_rfl⟩
theorem many_spec_Span : Many Try.prog 55 3 := ⟨fun _ => by kernel_rfl, fun _ => by kernel_rfl⟩
theorem many_impl_SpanKey : Many Try.prog 58 3 := ⟨fun _ => by kernel_rfl, fun _ => by kernel_rfl⟩
theorem many_impl_Span : Many Try.prog 61 3 := ⟨fun _ => by kernel_rfl, fun _ => by kernel_rfl⟩
theorem many_impl_Step : Many Try.prog 63 2 := ⟨fun _ => by kernel_rfl, fun _ => by kernel_rfl⟩
theorem many_impl_SpanAnswer : Many Try.prog 72 5 := ⟨fun _ => by kernel_rfl, fun _ => by kernel_rfl⟩
theorem many_spec_SpanAnswer : Many Try.prog 75 5 := ⟨fun _ => by kernel_rfl, fun _ => by kernel_rfl⟩
theorem many_spec_Entry : Many Try.prog 81 3 := ⟨fun _ => by kernel_rfl, fun _ => by kernel_rfl⟩
theorem many_impl_Entry : Many Try.prog 85 3 := ⟨fun _ => by kernel_rfl, fun _ => by kernel_rfl⟩
theorem many_spec_SpanKey : Many Try.prog 102 3 := ⟨fun _ => by kernel_rfl, fun _ => by kernel_rfl⟩
theorem many_keyspan_Span : Many Try.prog 128 4 := ⟨fun _ => by kernel_rfl, fun _ => by kernel_rfl⟩
theorem many_keyspan_Key : Many Try.prog 130 3 := ⟨fun _ => by kernel_rfl, fun _ => by kernel_rfl⟩
theorem many_base_InternalKey : Many Try.prog 169 2 := ⟨fun _ => by kernel_rfl, fun _ => by kernel_rfl⟩
theorem many_binary_bigEndian : Many Try.prog 176 0 := ⟨fun _ => by kernel_rfl, fun _ => by kernel_rfl⟩
theorem many_binary_littleEndian : Many Try.prog 195 0 := ⟨fun _ => by kernel_rfl, fun _ => by kernel_rfl⟩
theorem siz_int : Siz Try.prog 3 1 := fun _ => by kernel_rfl
theorem siz_bool : Siz Try.prog 4 1 := fun _ => by kernel_rfl
theorem siz_uint8 : Siz Try.prog 5 1 := fun _ => by kernel_rfl
theorem siz_string : Siz Try.prog 9 1 := fun _ => by kernel_rfl
theorem siz_uint64 : Siz Try.prog 23 1 := fun _ => by kernel_rfl
theorem siz_spec_Bound : Siz Try.prog 43 2 := fun _ => by kernel_rfl
theorem siz_impl_Bound : Siz Try.prog 48 2 := fun _ => by kernel_rfl
theorem siz_spec_Step : Siz Try.prog 52 2 := fun _ => by kernel_rfl
theorem siz_sl_spec_SpanKey : Siz Try.prog 53 1 := fun _ => by kernel_rfl
theorem siz_spec_Span : Siz Try.prog 55 3 := fun _ => by kernel_rfl
theorem siz_impl_SpanKey : Siz Try.prog 58 3 := fun _ => by kernel_rfl
theorem siz_sl_impl_SpanKey : Siz Try.prog 59 1 := fun _ => by kernel_rfl
theorem siz_impl_Span : Siz Try.prog 61 3 := fun _ => by kernel_rfl
theorem siz_impl_Step : Siz Try.prog 63 2 := fun _ => by kernel_rfl
theorem siz_impl_SpanAnswer : Siz Try.prog 72 5 := fun _ => by kernel_rfl
theorem siz_spec_SpanAnswer : Siz Try.prog 75 5 := fun _ => by kernel_rfl
theorem siz_spec_Entry : Siz Try.prog 81 3 := fun _ => by kernel_rfl
theorem siz_impl_Entry : Siz Try.prog 85 3 := fun _ => by kernel_rfl
theorem siz_spec_SpanKey : Siz Try.prog 102 3 := fun _ => by kernel_rfl
theorem siz_base_Compare : Siz Try.prog 104 1 := fun _ => by kernel_rfl
theorem siz_base_Equal : Siz Try.prog 106 1 := fun _ => by kernel_rfl
theorem siz_base_Split : Siz Try.prog 114 1 := fun _ => by kernel_rfl
theorem siz_p_base_Comparer : Siz Try.prog 120 1 := fun _ => by kernel_rfl
theorem siz_p_keyspan_Span : Siz Try.prog 122 1 := fun _ => by kernel_rfl
theorem siz_sl_uint8 : Siz Try.prog 123 1 := fun _ => by kernel_rfl
theorem siz_sl_keyspan_Key : Siz Try.prog 124 1 := fun _ => by kernel_rfl
theorem siz_keyspan_KeysOrder : Siz Try.prog 126 1 := fun _ => by kernel_rfl
theorem siz_keyspan_Span : Siz Try.prog 128 4 := fun _ => by kernel_rfl
theorem siz_keyspan_Key : Siz Try.prog 130 3 := fun _ => by kernel_rfl
theorem siz_keyspan_FragmentIterator : Siz Try.prog 134 1 := fun _ => by kernel_rfl
theorem siz_sl_keyspan_Span : Siz Try.prog 138 1 := fun _ => by kernel_rfl
theorem siz_p_bool : Siz Try.prog 141 1 := fun _ => by kernel_rfl
theorem siz_p_sl_uint8 : Siz Try.prog 142 1 := fun _ => by kernel_rfl
theorem siz_keyspan_boundedIterPos : Siz Try.prog 143 1 := fun _ => by kernel_rfl
theorem siz_keyspan_BoundedIter : Siz Try.prog 145 9 := fun _ => by kernel_rfl
theorem siz_p_keyspan_DefragmentingBuffers : Siz Try.prog 151 1 := fun _ => by kernel_rfl
theorem siz_keyspan_iterPos : Siz Try.prog 152 1 := fun _ => by kernel_rfl
theorem siz_keyspan_DefragmentMethod : Siz Try.prog 154 1 := fun _ => by kernel_rfl
theorem siz_keyspan_DefragmentReducer : Siz Try.prog 156 1 := fun _ => by kernel_rfl
theorem siz_keyspan_DefragmentingIter : Siz Try.prog 158 12 := fun _ => by kernel_rfl
theorem siz_bytealloc_A : Siz Try.prog 162 1 := fun _ => by kernel_rfl
theorem siz_keyspan_DefragmentingBuffers : Siz Try.prog 164 3 := fun _ => by kernel_rfl
theorem siz_base_InternalKey : Siz Try.prog 169 2 := fun _ => by kernel_rfl
theorem siz_p_base_InternalKey : Siz Try.prog 171 1 := fun _ => by kernel_rfl
theorem siz_binary_bigEndian : Siz Try.prog 176 0 := fun _ => by kernel_rfl
theorem siz_keyspan_FilterFunc : Siz Try.prog 182 1 := fun _ => by kernel_rfl
theorem siz_keyspan_Iter : Siz Try.prog 187 3 := fun _ => by kernel_rfl
theorem siz_binary_littleEndian : Siz Try.prog 195 0 := fun _ => by kernel_rfl
theorem zero_bool : Zero Try.prog 4 [.bool false] := fun _ => ⟨.bool false, by kernel_rfl, by kernel_rfl⟩
theorem zero_uint8 : Zero Try.prog 5 [.int .u8 0] := fun _ => ⟨.int .u8 0, by kernel_rfl, by kernel_rfl⟩
theorem zero_impl_Bound : Zero Try.prog 48 [.string ByteArray.empty, .bool false] := fun _ => ⟨.agg #[.string ByteArray.empty, .bool false], by kernel_rfl, by kernel_rfl⟩
theorem zero_spec_Step : Zero Try.prog 52 [.int .u8 0, .string ByteArray.empty] := fun _ => ⟨.agg #[.int .u8 0, .string ByteArray.empty], by kernel_rfl, by kernel_rfl⟩
theorem zero_spec_Span : Zero Try.prog 55 [.string ByteArray.empty, .string ByteArray.empty, .slice none 0 0] := fun _ => ⟨.agg #[.string ByteArray.empty, .string ByteArray.empty, .slice none 0 0], by kernel_rfl, by kernel_rfl⟩
theorem zero_impl_SpanKey : Zero Try.prog 58 [.int .u64 0, .string ByteArray.empty, .string ByteArray.empty] := fun _ => ⟨.agg #[.int .u64 0, .string ByteArray.empty, .string ByteArray.empty], by kernel_rfl, by kernel_rfl⟩
theorem zero_impl_Span : Zero Try.prog 61 [.string ByteArray.empty, .string ByteArray.empty, .slice none 0 0] := fun _ => ⟨.agg #[.string ByteArray.empty, .string ByteArray.empty, .slice none 0 0], by kernel_rfl, by kernel_rfl⟩
theorem zero_impl_Step : Zero Try.prog 63 [.int .u8 0, .string ByteArray.empty] := fun _ => ⟨.agg #[.int .u8 0, .string ByteArray.empty], by kernel_rfl, by kernel_rfl⟩
theorem zero_impl_SpanAnswer : Zero Try.prog 72 [.bool false, .bool false, .string ByteArray.empty, .string ByteArray.empty, .slice none 0 0] := fun _ => ⟨.agg #[.bool false, .bool false, .string ByteArray.empty, .string ByteArray.empty, .slice none 0 0], by kernel_rfl, by kernel_rfl⟩
theorem zero_spec_SpanAnswer : Zero Try.prog 75 [.bool false, .bool false, .string ByteArray.empty, .string ByteArray.empty, .slice none 0 0] := fun _ => ⟨.agg #[.bool false, .bool false, .string ByteArray.empty, .string ByteArray.empty, .slice none 0 0], by kernel_rfl, by kernel_rfl⟩
theorem zero_impl_Entry : Zero Try.prog 85 [.string ByteArray.empty, .int .u64 0, .string ByteArray.empty] := fun _ => ⟨.agg #[.string ByteArray.empty, .int .u64 0, .string ByteArray.empty], by kernel_rfl, by kernel_rfl⟩
theorem zero_spec_SpanKey : Zero Try.prog 102 [.int .u64 0, .string ByteArray.empty, .string ByteArray.empty] := fun _ => ⟨.agg #[.int .u64 0, .string ByteArray.empty, .string ByteArray.empty], by kernel_rfl, by kernel_rfl⟩
theorem zero_sl_uint8 : Zero Try.prog 123 [.slice none 0 0] := fun _ => ⟨.slice none 0 0, by kernel_rfl, by kernel_rfl⟩
theorem zero_keyspan_Span : Zero Try.prog 128 [.slice none 0 0, .slice none 0 0, .slice none 0 0, .int .i8 0] := fun _ => ⟨.agg #[.slice none 0 0, .slice none 0 0, .slice none 0 0, .int .i8 0], by kernel_rfl, by kernel_rfl⟩
theorem zero_keyspan_Key : Zero Try.prog 130 [.int .u64 0, .slice none 0 0, .slice none 0 0] := fun _ => ⟨.agg #[.int .u64 0, .slice none 0 0, .slice none 0 0], by kernel_rfl, by kernel_rfl⟩
theorem zero_keyspan_BoundedIter : Zero Try.prog 145 [.nilIface, .pointer none, .nilFunc, .nilFunc, .slice none 0 0, .slice none 0 0, .pointer none, .pointer none, .int .i8 0] := fun _ => ⟨.agg #[.nilIface, .pointer none, .nilFunc, .nilFunc, .slice none 0 0, .slice none 0 0, .pointer none, .pointer none, .int .i8 0], by kernel_rfl, by kernel_rfl⟩
theorem zero_keyspan_DefragmentingIter : Zero Try.prog 158 [.pointer none, .pointer none, .nilFunc, .nilIface, .pointer none, .int .i8 0, .slice none 0 0, .slice none 0 0, .slice none 0 0, .int .i8 0, .nilIface, .nilFunc] := fun _ => ⟨.agg #[.pointer none, .pointer none, .nilFunc, .nilIface, .pointer none, .int .i8 0, .slice none 0 0, .slice none 0 0, .slice none 0 0, .int .i8 0, .nilIface, .nilFunc], by kernel_rfl, by kernel_rfl⟩
theorem zero_keyspan_DefragmentingBuffers : Zero Try.prog 164 [.slice none 0 0, .slice none 0 0, .slice none 0 0] := fun _ => ⟨.agg #[.slice none 0 0, .slice none 0 0, .slice none 0 0], by kernel_rfl, by kernel_rfl⟩
theorem zero_base_InternalKey : Zero Try.prog 169 [.slice none 0 0, .int .u64 0] := fun _ => ⟨.agg #[.slice none 0 0, .int .u64 0], by kernel_rfl, by kernel_rfl⟩
theorem bld_impl_Bound_  : ∀ w, (Instr.build 48 #[]).run Try.prog w = .ok (.agg #[.string ByteArray.empty, .bool false]) w := fun _ => by kernel_rfl
theorem bld_impl_Bound_0_1 (x0 : ByteArray) (x1 : Bool) : ∀ w, (Instr.build 48 #[(0, .string x0), (1, .bool x1)]).run Try.prog w = .ok (.agg #[.string x0, .bool x1]) w := fun _ => by kernel_rfl
theorem bld_spec_Step_0 (x0 : Int) : ∀ w, (Instr.build 52 #[(0, .int .u8 x0)]).run Try.prog w = .ok (.agg #[.int .u8 x0, .string ByteArray.empty]) w := fun _ => by kernel_rfl
theorem bld_spec_Step_0_1 (x0 : Int) (x1 : ByteArray) : ∀ w, (Instr.build 52 #[(0, .int .u8 x0), (1, .string x1)]).run Try.prog w = .ok (.agg #[.int .u8 x0, .string x1]) w := fun _ => by kernel_rfl
theorem bld_spec_Span_0_1 (x0 : ByteArray) (x1 : ByteArray) : ∀ w, (Instr.build 55 #[(0, .string x0), (1, .string x1)]).run Try.prog w = .ok (.agg #[.string x0, .string x1, .slice none 0 0]) w := fun _ => by kernel_rfl
theorem bld_spec_Span_0_1_2 (x0 : ByteArray) (x1 : ByteArray) (x2 : Option Addr) (x2n x2c : Nat) : ∀ w, (Instr.build 55 #[(0, .string x0), (1, .string x1), (2, .slice x2 x2n x2c)]).run Try.prog w = .ok (.agg #[.string x0, .string x1, .slice x2 x2n x2c]) w := fun _ => by kernel_rfl
theorem bld_impl_SpanKey_0 (x0 : Int) : ∀ w, (Instr.build 58 #[(0, .int .u64 x0)]).run Try.prog w = .ok (.agg #[.int .u64 x0, .string ByteArray.empty, .string ByteArray.empty]) w := fun _ => by kernel_rfl
theorem bld_impl_SpanKey_0_1_2 (x0 : Int) (x1 : ByteArray) (x2 : ByteArray) : ∀ w, (Instr.build 58 #[(0, .int .u64 x0), (1, .string x1), (2, .string x2)]).run Try.prog w = .ok (.agg #[.int .u64 x0, .string x1, .string x2]) w := fun _ => by kernel_rfl
theorem bld_impl_Span_0_1_2 (x0 : ByteArray) (x1 : ByteArray) (x2 : Option Addr) (x2n x2c : Nat) : ∀ w, (Instr.build 61 #[(0, .string x0), (1, .string x1), (2, .slice x2 x2n x2c)]).run Try.prog w = .ok (.agg #[.string x0, .string x1, .slice x2 x2n x2c]) w := fun _ => by kernel_rfl
theorem bld_impl_Step_0 (x0 : Int) : ∀ w, (Instr.build 63 #[(0, .int .u8 x0)]).run Try.prog w = .ok (.agg #[.int .u8 x0, .string ByteArray.empty]) w := fun _ => by kernel_rfl
theorem bld_impl_Step_0_1 (x0 : Int) (x1 : ByteArray) : ∀ w, (Instr.build 63 #[(0, .int .u8 x0), (1, .string x1)]).run Try.prog w = .ok (.agg #[.int .u8 x0, .string x1]) w := fun _ => by kernel_rfl
theorem bld_impl_SpanAnswer_  : ∀ w, (Instr.build 72 #[]).run Try.prog w = .ok (.agg #[.bool false, .bool false, .string ByteArray.empty, .string ByteArray.empty, .slice none 0 0]) w := fun _ => by kernel_rfl
theorem bld_impl_SpanAnswer_0 (x0 : Bool) : ∀ w, (Instr.build 72 #[(0, .bool x0)]).run Try.prog w = .ok (.agg #[.bool x0, .bool false, .string ByteArray.empty, .string ByteArray.empty, .slice none 0 0]) w := fun _ => by kernel_rfl
theorem bld_spec_SpanAnswer_0_1_2 (x0 : Bool) (x1 : Bool) (x2_0 : ByteArray) (x2_1 : ByteArray) (x2_2 : Option Addr) (x2_2n x2_2c : Nat) : ∀ w, (Instr.build 75 #[(0, .bool x0), (1, .bool x1), (2, (.agg #[.string x2_0, .string x2_1, .slice x2_2 x2_2n x2_2c]))]).run Try.prog w = .ok (.agg #[.bool x0, .bool x1, .string x2_0, .string x2_1, .slice x2_2 x2_2n x2_2c]) w := fun _ => by kernel_rfl
theorem bld_impl_Entry_  : ∀ w, (Instr.build 85 #[]).run Try.prog w = .ok (.agg #[.string ByteArray.empty, .int .u64 0, .string ByteArray.empty]) w := fun _ => by kernel_rfl
theorem bld_impl_Entry_0 (x0 : ByteArray) : ∀ w, (Instr.build 85 #[(0, .string x0)]).run Try.prog w = .ok (.agg #[.string x0, .int .u64 0, .string ByteArray.empty]) w := fun _ => by kernel_rfl
theorem bld_spec_SpanCursor_0 (x0 : Int) : ∀ w, (Instr.build 98 #[(0, .int .i64 x0)]).run Try.prog w = .ok (.agg #[.int .i64 x0, .int .i64 0, .bool false, .bool false, .bool false, .bool false]) w := fun _ => by kernel_rfl
theorem bld_base_Comparer_0_1_2_4_6_7_8 (x0 : FuncId) (x0a x0b : Array Value) (x1 : FuncId) (x1a x1b : Array Value) (x2 : FuncId) (x2a x2b : Array Value) (x4 : FuncId) (x4a x4b : Array Value) (x6 : FuncId) (x6a x6b : Array Value) (x7 : FuncId) (x7a x7b : Array Value) (x8 : ByteArray) : ∀ w, (Instr.build 119 #[(0, .func (.func x0) x0a x0b), (1, .func (.func x1) x1a x1b), (2, .func (.func x2) x2a x2b), (4, .func (.func x4) x4a x4b), (6, .func (.func x6) x6a x6b), (7, .func (.func x7) x7a x7b), (8, .string x8)]).run Try.prog w = .ok (.agg #[.func (.func x0) x0a x0b, .func (.func x1) x1a x1b, .func (.func x2) x2a x2b, .nilFunc, .func (.func x4) x4a x4b, .nilFunc, .func (.func x6) x6a x6b, .func (.func x7) x7a x7b, .string x8]) w := fun _ => by kernel_rfl
theorem bld_keyspan_Span_0_1_2 (x0 : Option Addr) (x0n x0c : Nat) (x1 : Option Addr) (x1n x1c : Nat) (x2 : Option Addr) (x2n x2c : Nat) : ∀ w, (Instr.build 128 #[(0, .slice x0 x0n x0c), (1, .slice x1 x1n x1c), (2, .slice x2 x2n x2c)]).run Try.prog w = .ok (.agg #[.slice x0 x0n x0c, .slice x1 x1n x1c, .slice x2 x2n x2c, .int .i8 0]) w := fun _ => by kernel_rfl
theorem bld_keyspan_Span_0_1_3 (x0 : Option Addr) (x0n x0c : Nat) (x1 : Option Addr) (x1n x1c : Nat) (x3 : Int) : ∀ w, (Instr.build 128 #[(0, .slice x0 x0n x0c), (1, .slice x1 x1n x1c), (3, .int .i8 x3)]).run Try.prog w = .ok (.agg #[.slice x0 x0n x0c, .slice x1 x1n x1c, .slice none 0 0, .int .i8 x3]) w := fun _ => by kernel_rfl
theorem bld_keyspan_Key_0_1_2 (x0 : Int) (x1 : Option Addr) (x1n x1c : Nat) (x2 : Option Addr) (x2n x2c : Nat) : ∀ w, (Instr.build 130 #[(0, .int .u64 x0), (1, .slice x1 x1n x1c), (2, .slice x2 x2n x2c)]).run Try.prog w = .ok (.agg #[.int .u64 x0, .slice x1 x1n x1c, .slice x2 x2n x2c]) w := fun _ => by kernel_rfl
theorem bld_keyspan_BoundedIter_0_2_3_4_5_6_7 (x0t : TypeId) (x0 : Value) (x2 : FuncId) (x2a x2b : Array Value) (x3 : FuncId) (x3a x3b : Array Value) (x4 : Option Addr) (x4n x4c : Nat) (x5 : Option Addr) (x5n x5c : Nat) (x6 : Option Addr) (x7 : Option Addr) : ∀ w, (Instr.build 145 #[(0, .iface x0t x0), (2, .func (.func x2) x2a x2b), (3, .func (.func x3) x3a x3b), (4, .slice x4 x4n x4c), (5, .slice x5 x5n x5c), (6, .pointer x6), (7, .pointer x7)]).run Try.prog w = .ok (.agg #[.iface x0t x0, .pointer none, .func (.func x2) x2a x2b, .func (.func x3) x3a x3b, .slice x4 x4n x4c, .slice x5 x5n x5c, .pointer x6, .pointer x7, .int .i8 0]) w := fun _ => by kernel_rfl
theorem bld_keyspan_DefragmentingIter_0_1_2_3_7_8 (x0 : Option Addr) (x1 : Option Addr) (x2 : FuncId) (x2a x2b : Array Value) (x3t : TypeId) (x3 : Value) (x7t : TypeId) (x7 : Value) (x8 : FuncId) (x8a x8b : Array Value) : ∀ w, (Instr.build 158 #[(0, .pointer x0), (1, .pointer x1), (2, .func (.func x2) x2a x2b), (3, .iface x3t x3), (7, .iface x7t x7), (8, .func (.func x8) x8a x8b)]).run Try.prog w = .ok (.agg #[.pointer x0, .pointer x1, .func (.func x2) x2a x2b, .iface x3t x3, .pointer none, .int .i8 0, .slice none 0 0, .slice none 0 0, .slice none 0 0, .int .i8 0, .iface x7t x7, .func (.func x8) x8a x8b]) w := fun _ => by kernel_rfl
theorem bld_base_InternalKey_0_1 (x0 : Option Addr) (x0n x0c : Nat) (x1 : Int) : ∀ w, (Instr.build 169 #[(0, .slice x0 x0n x0c), (1, .int .u64 x1)]).run Try.prog w = .ok (.agg #[.slice x0 x0n x0c, .int .u64 x1]) w := fun _ => by kernel_rfl
theorem bld_keyspan_filteringIter_0_1_2 (x0t : TypeId) (x0 : Value) (x1 : FuncId) (x1a x1b : Array Value) (x2 : FuncId) (x2a x2b : Array Value) : ∀ w, (Instr.build 185 #[(0, .iface x0t x0), (1, .func (.func x1) x1a x1b), (2, .func (.func x2) x2a x2b)]).run Try.prog w = .ok (.agg #[.iface x0t x0, .func (.func x1) x1a x1b, .func (.func x2) x2a x2b, .slice none 0 0, .slice none 0 0, .slice none 0 0, .int .i8 0]) w := fun _ => by kernel_rfl
theorem bld_keyspan_Iter_  : ∀ w, (Instr.build 187 #[]).run Try.prog w = .ok (.agg #[.nilFunc, .slice none 0 0, .int .i64 0]) w := fun _ => by kernel_rfl
theorem bld_keyspan_Iter_0_1_2 (x0 : FuncId) (x0a x0b : Array Value) (x1 : Option Addr) (x1n x1c : Nat) (x2 : Int) : ∀ w, (Instr.build 187 #[(0, .func (.func x0) x0a x0b), (1, .slice x1 x1n x1c), (2, .int .i64 x2)]).run Try.prog w = .ok (.agg #[.func (.func x0) x0a x0b, .slice x1 x1n x1c, .int .i64 x2]) w := fun _ => by kernel_rfl
theorem info_uint8 : (Try.prog.info? 5).map (fun i => (i.zero, i.size, i.bytes)) = some (some (.int .u8 0), 1, 1) := by kernel_rfl
theorem info_string : (Try.prog.info? 9).map (fun i => (i.zero, i.size, i.bytes)) = some (some (.string ByteArray.empty), 1, 16) := by kernel_rfl
theorem info_spec_Step : (Try.prog.info? 52).map (fun i => (i.zero, i.size, i.bytes)) = some (some (.agg #[.int .u8 0, .string ByteArray.empty]), 2, 24) := by kernel_rfl
theorem info_spec_Span : (Try.prog.info? 55).map (fun i => (i.zero, i.size, i.bytes)) = some (some (.agg #[.string ByteArray.empty, .string ByteArray.empty, .slice none 0 0]), 3, 56) := by kernel_rfl
theorem info_impl_SpanKey : (Try.prog.info? 58).map (fun i => (i.zero, i.size, i.bytes)) = some (some (.agg #[.int .u64 0, .string ByteArray.empty, .string ByteArray.empty]), 3, 40) := by kernel_rfl
theorem info_impl_Span : (Try.prog.info? 61).map (fun i => (i.zero, i.size, i.bytes)) = some (some (.agg #[.string ByteArray.empty, .string ByteArray.empty, .slice none 0 0]), 3, 56) := by kernel_rfl
theorem info_impl_Step : (Try.prog.info? 63).map (fun i => (i.zero, i.size, i.bytes)) = some (some (.agg #[.int .u8 0, .string ByteArray.empty]), 2, 24) := by kernel_rfl
theorem info_impl_SpanAnswer : (Try.prog.info? 72).map (fun i => (i.zero, i.size, i.bytes)) = some (some (.agg #[.bool false, .bool false, .string ByteArray.empty, .string ByteArray.empty, .slice none 0 0]), 5, 64) := by kernel_rfl
theorem info_spec_SpanAnswer : (Try.prog.info? 75).map (fun i => (i.zero, i.size, i.bytes)) = some (some (.agg #[.bool false, .bool false, .string ByteArray.empty, .string ByteArray.empty, .slice none 0 0]), 5, 64) := by kernel_rfl
theorem info_spec_SpanKey : (Try.prog.info? 102).map (fun i => (i.zero, i.size, i.bytes)) = some (some (.agg #[.int .u64 0, .string ByteArray.empty, .string ByteArray.empty]), 3, 40) := by kernel_rfl
theorem info_keyspan_Span : (Try.prog.info? 128).map (fun i => (i.zero, i.size, i.bytes)) = some (some (.agg #[.slice none 0 0, .slice none 0 0, .slice none 0 0, .int .i8 0]), 4, 80) := by kernel_rfl
theorem info_keyspan_Key : (Try.prog.info? 130).map (fun i => (i.zero, i.size, i.bytes)) = some (some (.agg #[.int .u64 0, .slice none 0 0, .slice none 0 0]), 3, 56) := by kernel_rfl
theorem ok_laws_FnSpanFiltered : callOk Try.prog 3 = true := by kernel_rfl
theorem ok_laws_FnSpanBounded : callOk Try.prog 4 = true := by kernel_rfl
theorem ok_laws_FnSpanPrefixed : callOk Try.prog 5 = true := by kernel_rfl
theorem ok_laws_FnSpanDefragmented : callOk Try.prog 6 = true := by kernel_rfl
theorem ok_laws_FnSpanRejoined : callOk Try.prog 7 = true := by kernel_rfl
theorem ok_laws_FnSpanTruncated : callOk Try.prog 8 = true := by kernel_rfl
theorem ok_laws_FnSpanWithin : callOk Try.prog 9 = true := by kernel_rfl
theorem ok_laws_FnSpanBoundedCut : callOk Try.prog 10 = true := by kernel_rfl
theorem ok_laws_FnSpanTruncatedParts : callOk Try.prog 11 = true := by kernel_rfl
theorem ok_laws_zzFits4 : callOk Try.prog 12 = true := by kernel_rfl
theorem ok_laws_zzFits8 : callOk Try.prog 13 = true := by kernel_rfl
theorem ok_laws_spanWell : callOk Try.prog 14 = true := by kernel_rfl
theorem ok_spec_SpanWalk : callOk Try.prog 15 = true := by kernel_rfl
theorem ok_spec_SpanFiltered : callOk Try.prog 16 = true := by kernel_rfl
theorem ok_laws_spanAnswers : callOk Try.prog 17 = true := by kernel_rfl
theorem ok_impl_SpanFiltered : callOk Try.prog 18 = true := by kernel_rfl
theorem ok_laws_toSpans : callOk Try.prog 19 = true := by kernel_rfl
theorem ok_laws_toSteps : callOk Try.prog 20 = true := by kernel_rfl
theorem ok_laws_spanFound : callOk Try.prog 21 = true := by kernel_rfl
theorem ok_laws_spanSome : callOk Try.prog 22 = true := by kernel_rfl
theorem ok_laws_spanStart : callOk Try.prog 23 = true := by kernel_rfl
theorem ok_laws_zzFits10 : callOk Try.prog 24 = true := by kernel_rfl
theorem ok_laws_spanObeys : callOk Try.prog 25 = true := by kernel_rfl
theorem ok_spec_SpanBounded : callOk Try.prog 26 = true := by kernel_rfl
theorem ok_impl_SpanBounded : callOk Try.prog 27 = true := by kernel_rfl
theorem ok_laws_spanBound : callOk Try.prog 28 = true := by kernel_rfl
theorem ok_laws_spanPrefixBounds : callOk Try.prog 29 = true := by kernel_rfl
theorem ok_impl_SpanPrefixed : callOk Try.prog 30 = true := by kernel_rfl
theorem ok_laws_spanCanons : callOk Try.prog 31 = true := by kernel_rfl
theorem ok_spec_SpanDefragmented : callOk Try.prog 32 = true := by kernel_rfl
theorem ok_impl_SpanDefragmented : callOk Try.prog 33 = true := by kernel_rfl
theorem ok_laws_zzFits11 : callOk Try.prog 34 = true := by kernel_rfl
theorem ok_laws_spanSplit : callOk Try.prog 35 = true := by kernel_rfl
theorem ok_laws_ofSpan : callOk Try.prog 36 = true := by kernel_rfl
theorem ok_impl_SpanTruncated : callOk Try.prog 37 = true := by kernel_rfl
theorem ok_spec_SpanTruncated : callOk Try.prog 38 = true := by kernel_rfl
theorem ok_laws_zzFits12 : callOk Try.prog 39 = true := by kernel_rfl
theorem ok_spec_SpanWithin : callOk Try.prog 40 = true := by kernel_rfl
theorem ok_impl_SpanTruncatedWithin : callOk Try.prog 41 = true := by kernel_rfl
theorem ok_laws_toEntry : callOk Try.prog 42 = true := by kernel_rfl
theorem ok_laws_spanForth : callOk Try.prog 43 = true := by kernel_rfl
theorem ok_laws_spanList : callOk Try.prog 44 = true := by kernel_rfl
theorem ok_laws_spanLike : callOk Try.prog 45 = true := by kernel_rfl
theorem ok_laws_ofSpans : callOk Try.prog 46 = true := by kernel_rfl
theorem ok_laws_zzFits5 : callOk Try.prog 47 = true := by kernel_rfl
theorem ok_laws_zzFits9 : callOk Try.prog 48 = true := by kernel_rfl
theorem ok_laws_spanMost : callOk Try.prog 49 = true := by kernel_rfl
theorem ok_spec_SpanWell : callOk Try.prog 50 = true := by kernel_rfl
theorem ok_spec_SpanCursor_Step : callOk Try.prog 51 = true := by kernel_rfl
theorem ok_spec_SpanSeekGE : callOk Try.prog 52 = true := by kernel_rfl
theorem ok_spec_SpanSeekLT : callOk Try.prog 53 = true := by kernel_rfl
theorem ok_base_DefaultComparer : callOk Try.prog 54 = true := by kernel_rfl
theorem ok_impl_SpanFiltered_c1 : callOk Try.prog 55 = true := by kernel_rfl
theorem ok_impl_walkSpans : callOk Try.prog 56 = true := by kernel_rfl
theorem ok_keyspan_Filter : callOk Try.prog 57 = true := by kernel_rfl
theorem ok_keyspan_NewIter : callOk Try.prog 58 = true := by kernel_rfl
theorem ok_impl_spans : callOk Try.prog 59 = true := by kernel_rfl
theorem ok_laws_toSpan : callOk Try.prog 60 = true := by kernel_rfl
theorem ok_keyspan_BoundedIter_Init : callOk Try.prog 61 = true := by kernel_rfl
theorem ok_impl_Bound_bytes : callOk Try.prog 62 = true := by kernel_rfl
theorem ok_impl_splitZero : callOk Try.prog 63 = true := by kernel_rfl
theorem ok_spec_SpanCanon : callOk Try.prog 64 = true := by kernel_rfl
theorem ok_spec_SpanSameKeys : callOk Try.prog 65 = true := by kernel_rfl
theorem ok_keyspan_DefragmentingIter_Init : callOk Try.prog 66 = true := by kernel_rfl
theorem ok_keyspan_DefragmentInternal : callOk Try.prog 67 = true := by kernel_rfl
theorem ok_keyspan_StaticDefragmentReducer : callOk Try.prog 68 = true := by kernel_rfl
theorem ok_laws_ofKeys : callOk Try.prog 69 = true := by kernel_rfl
theorem ok_keyspan_Truncate : callOk Try.prog 70 = true := by kernel_rfl
theorem ok_impl_key : callOk Try.prog 71 = true := by kernel_rfl
theorem ok_spec_SpanDescending : callOk Try.prog 72 = true := by kernel_rfl
theorem ok_laws_sameSpans : callOk Try.prog 73 = true := by kernel_rfl
theorem ok_laws_zzFits6 : callOk Try.prog 74 = true := by kernel_rfl
theorem ok_spec_SpanFull : callOk Try.prog 75 = true := by kernel_rfl
theorem ok_spec_SpanCursor_place : callOk Try.prog 76 = true := by kernel_rfl
theorem ok_bytes_Compare : callOk Try.prog 77 = true := by kernel_rfl
theorem ok_bytes_Equal : callOk Try.prog 78 = true := by kernel_rfl
theorem ok_base_DefaultComparer_c1 : callOk Try.prog 79 = true := by kernel_rfl
theorem ok_encoding_binary_bigEndian_Uint64 : callOk Try.prog 80 = true := by kernel_rfl
theorem ok_base_DefaultComparer_c2 : callOk Try.prog 81 = true := by kernel_rfl
theorem ok_base_SharedPrefixLen : callOk Try.prog 82 = true := by kernel_rfl
theorem ok_base_DefaultComparer_c3 : callOk Try.prog 83 = true := by kernel_rfl
theorem ok_base_DefaultComparer_c4 : callOk Try.prog 84 = true := by kernel_rfl
theorem ok_impl_taken : callOk Try.prog 85 = true := by kernel_rfl
theorem ok_impl_plainSpan : callOk Try.prog 86 = true := by kernel_rfl
theorem ok_keyspan_Iter_Init : callOk Try.prog 87 = true := by kernel_rfl
theorem ok_impl_Span_span : callOk Try.prog 88 = true := by kernel_rfl
theorem ok_laws_toKeys : callOk Try.prog 89 = true := by kernel_rfl
theorem ok_spec_spanKeyLess : callOk Try.prog 90 = true := by kernel_rfl
theorem ok_keyspan_Truncate_c1 : callOk Try.prog 91 = true := by kernel_rfl
theorem ok_keyspan_Span_Empty : callOk Try.prog 92 = true := by kernel_rfl
theorem ok_laws_sameSpan : callOk Try.prog 93 = true := by kernel_rfl
theorem ok_laws_zzFits7 : callOk Try.prog 94 = true := by kernel_rfl
theorem ok_base_SharedPrefixLen_c1 : callOk Try.prog 96 = true := by kernel_rfl
theorem ok_encoding_binary_littleEndian_Uint64 : callOk Try.prog 97 = true := by kernel_rfl
theorem ok_impl_plainKeys : callOk Try.prog 98 = true := by kernel_rfl
theorem ok_impl_spanKeys : callOk Try.prog 99 = true := by kernel_rfl
theorem ok_laws_sameSpanKeys : callOk Try.prog 100 = true := by kernel_rfl
theorem ok_impl_maybe : callOk Try.prog 101 = true := by kernel_rfl
theorem ok_keyspan_Iter_Error : callOk Try.prog 120 = true := by kernel_rfl
theorem ok_keyspan_Iter_First : callOk Try.prog 121 = true := by kernel_rfl
theorem ok_keyspan_Iter_Last : callOk Try.prog 122 = true := by kernel_rfl
theorem ok_keyspan_Iter_Next : callOk Try.prog 123 = true := by kernel_rfl
theorem ok_keyspan_Iter_Prev : callOk Try.prog 124 = true := by kernel_rfl
theorem ok_keyspan_Iter_SeekGE : callOk Try.prog 125 = true := by kernel_rfl
theorem ok_keyspan_Iter_SeekLT : callOk Try.prog 126 = true := by kernel_rfl
theorem ok_keyspan_BoundedIter_Error : callOk Try.prog 128 = true := by kernel_rfl
theorem ok_keyspan_BoundedIter_First : callOk Try.prog 129 = true := by kernel_rfl
theorem ok_keyspan_BoundedIter_Last : callOk Try.prog 130 = true := by kernel_rfl
theorem ok_keyspan_BoundedIter_Next : callOk Try.prog 131 = true := by kernel_rfl
theorem ok_keyspan_BoundedIter_Prev : callOk Try.prog 132 = true := by kernel_rfl
theorem ok_keyspan_BoundedIter_SeekGE : callOk Try.prog 133 = true := by kernel_rfl
theorem ok_keyspan_BoundedIter_SeekLT : callOk Try.prog 134 = true := by kernel_rfl
theorem ok_keyspan_BoundedIter_checkPrefixSpanStart : callOk Try.prog 135 = true := by kernel_rfl
theorem ok_keyspan_BoundedIter_checkForwardBound : callOk Try.prog 136 = true := by kernel_rfl
theorem ok_keyspan_BoundedIter_checkPrefixSpanEnd : callOk Try.prog 137 = true := by kernel_rfl
theorem ok_keyspan_BoundedIter_checkBackwardBound : callOk Try.prog 138 = true := by kernel_rfl
theorem ok_keyspan_DefragmentMethodFunc_ShouldDefragment : callOk Try.prog 139 = true := by kernel_rfl
theorem ok_bytealloc_A_Reset : callOk Try.prog 140 = true := by kernel_rfl
theorem ok_keyspan_DefragmentingIter_Error : callOk Try.prog 142 = true := by kernel_rfl
theorem ok_keyspan_DefragmentingIter_First : callOk Try.prog 143 = true := by kernel_rfl
theorem ok_keyspan_DefragmentingIter_Last : callOk Try.prog 144 = true := by kernel_rfl
theorem ok_keyspan_DefragmentingIter_Next : callOk Try.prog 145 = true := by kernel_rfl
theorem ok_keyspan_DefragmentingIter_Prev : callOk Try.prog 146 = true := by kernel_rfl
theorem ok_keyspan_DefragmentingIter_SeekGE : callOk Try.prog 147 = true := by kernel_rfl
theorem ok_keyspan_DefragmentingIter_SeekLT : callOk Try.prog 148 = true := by kernel_rfl
theorem ok_keyspan_DefragmentingIter_saveCurrent : callOk Try.prog 149 = true := by kernel_rfl
theorem ok_keyspan_DefragmentingIter_defragmentForward : callOk Try.prog 150 = true := by kernel_rfl
theorem ok_keyspan_DefragmentingIter_defragmentBackward : callOk Try.prog 151 = true := by kernel_rfl
theorem ok_keyspan_DefragmentingIter_checkEqual : callOk Try.prog 152 = true := by kernel_rfl
theorem ok_keyspan_DefragmentingIter_saveBytes : callOk Try.prog 153 = true := by kernel_rfl
theorem ok_bytealloc_A_Copy : callOk Try.prog 154 = true := by kernel_rfl
theorem ok_bytealloc_A_Alloc : callOk Try.prog 155 = true := by kernel_rfl
theorem ok_bytealloc_A_reserve : callOk Try.prog 156 = true := by kernel_rfl
theorem ok_keyspan_filteringIter_Error : callOk Try.prog 161 = true := by kernel_rfl
theorem ok_keyspan_filteringIter_First : callOk Try.prog 162 = true := by kernel_rfl
theorem ok_keyspan_filteringIter_Last : callOk Try.prog 163 = true := by kernel_rfl
theorem ok_keyspan_filteringIter_Next : callOk Try.prog 164 = true := by kernel_rfl
theorem ok_keyspan_filteringIter_Prev : callOk Try.prog 165 = true := by kernel_rfl
theorem ok_keyspan_filteringIter_SeekGE : callOk Try.prog 166 = true := by kernel_rfl
theorem ok_keyspan_filteringIter_SeekLT : callOk Try.prog 167 = true := by kernel_rfl
theorem ok_keyspan_filteringIter_filter : callOk Try.prog 168 = true := by kernel_rfl
abbrev n_laws_FnSpanFiltered : Nat := 3
abbrev n_laws_FnSpanBounded : Nat := 4
abbrev n_laws_FnSpanPrefixed : Nat := 5
abbrev n_laws_FnSpanDefragmented : Nat := 6
abbrev n_laws_FnSpanRejoined : Nat := 7
abbrev n_laws_FnSpanTruncated : Nat := 8
abbrev n_laws_FnSpanWithin : Nat := 9
abbrev n_laws_FnSpanBoundedCut : Nat := 10
abbrev n_laws_FnSpanTruncatedParts : Nat := 11
abbrev n_laws_zzFits4 : Nat := 12
abbrev n_laws_zzFits8 : Nat := 13
abbrev n_laws_spanWell : Nat := 14
abbrev n_spec_SpanWalk : Nat := 15
abbrev n_spec_SpanFiltered : Nat := 16
abbrev n_laws_spanAnswers : Nat := 17
abbrev n_impl_SpanFiltered : Nat := 18
abbrev n_laws_toSpans : Nat := 19
abbrev n_laws_toSteps : Nat := 20
abbrev n_laws_spanFound : Nat := 21
abbrev n_laws_spanSome : Nat := 22
abbrev n_laws_spanStart : Nat := 23
abbrev n_laws_zzFits10 : Nat := 24
abbrev n_laws_spanObeys : Nat := 25
abbrev n_spec_SpanBounded : Nat := 26
abbrev n_impl_SpanBounded : Nat := 27
abbrev n_laws_spanBound : Nat := 28
abbrev n_laws_spanPrefixBounds : Nat := 29
abbrev n_impl_SpanPrefixed : Nat := 30
abbrev n_laws_spanCanons : Nat := 31
abbrev n_spec_SpanDefragmented : Nat := 32
abbrev n_impl_SpanDefragmented : Nat := 33
abbrev n_laws_zzFits11 : Nat := 34
abbrev n_laws_spanSplit : Nat := 35
abbrev n_laws_ofSpan : Nat := 36
abbrev n_impl_SpanTruncated : Nat := 37
abbrev n_spec_SpanTruncated : Nat := 38
abbrev n_laws_zzFits12 : Nat := 39
abbrev n_spec_SpanWithin : Nat := 40
abbrev n_impl_SpanTruncatedWithin : Nat := 41
abbrev n_laws_toEntry : Nat := 42
abbrev n_laws_spanForth : Nat := 43
abbrev n_laws_spanList : Nat := 44
abbrev n_laws_spanLike : Nat := 45
abbrev n_laws_ofSpans : Nat := 46
abbrev n_laws_zzFits5 : Nat := 47
abbrev n_laws_zzFits9 : Nat := 48
abbrev n_laws_spanMost : Nat := 49
abbrev n_spec_SpanWell : Nat := 50
abbrev n_spec_SpanCursor_Step : Nat := 51
abbrev n_spec_SpanSeekGE : Nat := 52
abbrev n_spec_SpanSeekLT : Nat := 53
abbrev n_base_DefaultComparer : Nat := 54
abbrev n_impl_SpanFiltered_c1 : Nat := 55
abbrev n_impl_walkSpans : Nat := 56
abbrev n_keyspan_Filter : Nat := 57
abbrev n_keyspan_NewIter : Nat := 58
abbrev n_impl_spans : Nat := 59
abbrev n_laws_toSpan : Nat := 60
abbrev n_keyspan_BoundedIter_Init : Nat := 61
abbrev n_impl_Bound_bytes : Nat := 62
abbrev n_impl_splitZero : Nat := 63
abbrev n_spec_SpanCanon : Nat := 64
abbrev n_spec_SpanSameKeys : Nat := 65
abbrev n_keyspan_DefragmentingIter_Init : Nat := 66
abbrev n_keyspan_DefragmentInternal : Nat := 67
abbrev n_keyspan_StaticDefragmentReducer : Nat := 68
abbrev n_laws_ofKeys : Nat := 69
abbrev n_keyspan_Truncate : Nat := 70
abbrev n_impl_key : Nat := 71
abbrev n_spec_SpanDescending : Nat := 72
abbrev n_laws_sameSpans : Nat := 73
abbrev n_laws_zzFits6 : Nat := 74
abbrev n_spec_SpanFull : Nat := 75
abbrev n_spec_SpanCursor_place : Nat := 76
abbrev n_bytes_Compare : Nat := 77
abbrev n_bytes_Equal : Nat := 78
abbrev n_base_DefaultComparer_c1 : Nat := 79
abbrev n_encoding_binary_bigEndian_Uint64 : Nat := 80
abbrev n_base_DefaultComparer_c2 : Nat := 81
abbrev n_base_SharedPrefixLen : Nat := 82
abbrev n_base_DefaultComparer_c3 : Nat := 83
abbrev n_base_DefaultComparer_c4 : Nat := 84
abbrev n_impl_taken : Nat := 85
abbrev n_impl_plainSpan : Nat := 86
abbrev n_keyspan_Iter_Init : Nat := 87
abbrev n_impl_Span_span : Nat := 88
abbrev n_laws_toKeys : Nat := 89
abbrev n_spec_spanKeyLess : Nat := 90
abbrev n_keyspan_Truncate_c1 : Nat := 91
abbrev n_keyspan_Span_Empty : Nat := 92
abbrev n_laws_sameSpan : Nat := 93
abbrev n_laws_zzFits7 : Nat := 94
abbrev n_base_SharedPrefixLen_c1 : Nat := 96
abbrev n_encoding_binary_littleEndian_Uint64 : Nat := 97
abbrev n_impl_plainKeys : Nat := 98
abbrev n_impl_spanKeys : Nat := 99
abbrev n_laws_sameSpanKeys : Nat := 100
abbrev n_impl_maybe : Nat := 101
abbrev n_keyspan_Iter_Error : Nat := 120
abbrev n_keyspan_Iter_First : Nat := 121
abbrev n_keyspan_Iter_Last : Nat := 122
abbrev n_keyspan_Iter_Next : Nat := 123
abbrev n_keyspan_Iter_Prev : Nat := 124
abbrev n_keyspan_Iter_SeekGE : Nat := 125
abbrev n_keyspan_Iter_SeekLT : Nat := 126
abbrev n_keyspan_BoundedIter_Error : Nat := 128
abbrev n_keyspan_BoundedIter_First : Nat := 129
abbrev n_keyspan_BoundedIter_Last : Nat := 130
abbrev n_keyspan_BoundedIter_Next : Nat := 131
abbrev n_keyspan_BoundedIter_Prev : Nat := 132
abbrev n_keyspan_BoundedIter_SeekGE : Nat := 133
abbrev n_keyspan_BoundedIter_SeekLT : Nat := 134
abbrev n_keyspan_BoundedIter_checkPrefixSpanStart : Nat := 135
abbrev n_keyspan_BoundedIter_checkForwardBound : Nat := 136
abbrev n_keyspan_BoundedIter_checkPrefixSpanEnd : Nat := 137
abbrev n_keyspan_BoundedIter_checkBackwardBound : Nat := 138
abbrev n_keyspan_DefragmentMethodFunc_ShouldDefragment : Nat := 139
abbrev n_bytealloc_A_Reset : Nat := 140
abbrev n_keyspan_DefragmentingIter_Error : Nat := 142
abbrev n_keyspan_DefragmentingIter_First : Nat := 143
abbrev n_keyspan_DefragmentingIter_Last : Nat := 144
abbrev n_keyspan_DefragmentingIter_Next : Nat := 145
abbrev n_keyspan_DefragmentingIter_Prev : Nat := 146
abbrev n_keyspan_DefragmentingIter_SeekGE : Nat := 147
abbrev n_keyspan_DefragmentingIter_SeekLT : Nat := 148
abbrev n_keyspan_DefragmentingIter_saveCurrent : Nat := 149
abbrev n_keyspan_DefragmentingIter_defragmentForward : Nat := 150
abbrev n_keyspan_DefragmentingIter_defragmentBackward : Nat := 151
abbrev n_keyspan_DefragmentingIter_checkEqual : Nat := 152
abbrev n_keyspan_DefragmentingIter_saveBytes : Nat := 153
abbrev n_bytealloc_A_Copy : Nat := 154
abbrev n_bytealloc_A_Alloc : Nat := 155
abbrev n_bytealloc_A_reserve : Nat := 156
abbrev n_keyspan_filteringIter_Error : Nat := 161
abbrev n_keyspan_filteringIter_First : Nat := 162
abbrev n_keyspan_filteringIter_Last : Nat := 163
abbrev n_keyspan_filteringIter_Next : Nat := 164
abbrev n_keyspan_filteringIter_Prev : Nat := 165
abbrev n_keyspan_filteringIter_SeekGE : Nat := 166
abbrev n_keyspan_filteringIter_SeekLT : Nat := 167
abbrev n_keyspan_filteringIter_filter : Nat := 168
end Go.Proofs.Ytgebfbnndgjkiaa
