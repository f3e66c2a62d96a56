import PyProof.Rows.All
import Wide.All
import OpenK.AllK
import Wide.FinOn
import PySem.Challenge.RW_qu0025_01
set_option Elab.async false
set_option maxRecDepth 100000
set_option maxHeartbeats 0
set_option linter.unusedVariables false
set_option linter.unusedSectionVars false
set_option linter.unusedSimpArgs false
namespace Mine
open PySem
noncomputable abbrev s_strip : Str := ⟨#[115, 116, 114, 105, 112]⟩
noncomputable abbrev s_box : Str := ⟨#[98, 111, 120]⟩
noncomputable abbrev s_x : Str := ⟨#[120]⟩
noncomputable abbrev s_text : Str := ⟨#[116, 101, 120, 116]⟩
noncomputable abbrev s_script : Str := ⟨#[115, 99, 114, 105, 112, 116]⟩
noncomputable abbrev s_boxes : Str := ⟨#[98, 111, 120, 101, 115]⟩
noncomputable abbrev s_heap : Str := ⟨#[104, 101, 97, 112]⟩
noncomputable abbrev s_place : Str := ⟨#[112, 108, 97, 99, 101]⟩
noncomputable abbrev s_pos : Str := ⟨#[112, 111, 115]⟩
noncomputable abbrev s_startpos : Str := ⟨#[115, 116, 97, 114, 116, 112, 111, 115]⟩
noncomputable abbrev sx0 : Str := ⟨#[34]⟩
noncomputable abbrev s_newitem : Str := ⟨#[110, 101, 119, 105, 116, 101, 109]⟩
noncomputable abbrev s_table : Str := ⟨#[116, 97, 98, 108, 101]⟩
noncomputable abbrev s_ball : Str := ⟨#[98, 97, 108, 108]⟩
noncomputable abbrev s_told : Str := ⟨#[116, 111, 108, 100]⟩
noncomputable abbrev s_row : Str := ⟨#[114, 111, 119]⟩
noncomputable abbrev sx1 : Str := ⟨#[92]⟩
noncomputable abbrev s_endpos : Str := ⟨#[101, 110, 100, 112, 111, 115]⟩
noncomputable abbrev s_childpos : Str := ⟨#[99, 104, 105, 108, 100, 112, 111, 115]⟩
noncomputable abbrev s_turn : Str := ⟨#[116, 117, 114, 110]⟩
noncomputable abbrev s_balls : Str := ⟨#[98, 97, 108, 108, 115]⟩
noncomputable abbrev s_due : Str := ⟨#[100, 117, 101]⟩
noncomputable abbrev s_size : Str := ⟨#[115, 105, 122, 101]⟩
noncomputable abbrev s_bare : Str := ⟨#[98, 97, 114, 101]⟩
noncomputable abbrev s_a : Str := ⟨#[97]⟩
noncomputable abbrev s_line : Str := ⟨#[108, 105, 110, 101]⟩
noncomputable abbrev s_rightpos : Str := ⟨#[114, 105, 103, 104, 116, 112, 111, 115]⟩
noncomputable abbrev s_self : Str := ⟨#[115, 101, 108, 102]⟩
noncomputable abbrev s_carrier : Str := ⟨#[99, 97, 114, 114, 105, 101, 114]⟩
noncomputable abbrev s_here : Str := ⟨#[104, 101, 114, 101]⟩
noncomputable abbrev s_parentpos : Str := ⟨#[112, 97, 114, 101, 110, 116, 112, 111, 115]⟩
noncomputable abbrev s_parent : Str := ⟨#[112, 97, 114, 101, 110, 116]⟩
noncomputable abbrev sx2 : Str := ⟨#[32]⟩
noncomputable abbrev sx3 : Str := ⟨#[47, 99, 108, 97, 105, 109, 47, 99, 117, 116, 46, 112, 121]⟩
noncomputable abbrev s_colour : Str := ⟨#[99, 111, 108, 111, 117, 114]⟩
noncomputable abbrev s_spot : Str := ⟨#[115, 112, 111, 116]⟩
noncomputable abbrev sx4 : Str := ⟨#[10]⟩
noncomputable abbrev s_n : Str := ⟨#[110]⟩
noncomputable abbrev s_key : Str := ⟨#[107, 101, 121]⟩
noncomputable abbrev s_lo : Str := ⟨#[108, 111]⟩
noncomputable abbrev s_hi : Str := ⟨#[104, 105]⟩
noncomputable abbrev s_k : Str := ⟨#[107]⟩
noncomputable abbrev s_lastelt : Str := ⟨#[108, 97, 115, 116, 101, 108, 116]⟩
noncomputable abbrev s_mid : Str := ⟨#[109, 105, 100]⟩
noncomputable abbrev s_i : Str := ⟨#[105]⟩
noncomputable abbrev s_law_qu0025_01 : Str := ⟨#[108, 97, 119, 95, 113, 117, 48, 48, 50, 53, 95, 48, 49]⟩
noncomputable abbrev s_fp : Str := ⟨#[102, 112]⟩
noncomputable abbrev s___doc__ : Str := ⟨#[95, 95, 100, 111, 99, 95, 95]⟩
noncomputable abbrev s_insort_right : Str := ⟨#[105, 110, 115, 111, 114, 116, 95, 114, 105, 103, 104, 116]⟩
noncomputable abbrev s_bisect_right : Str := ⟨#[98, 105, 115, 101, 99, 116, 95, 114, 105, 103, 104, 116]⟩
noncomputable abbrev s_heappop : Str := ⟨#[104, 101, 97, 112, 112, 111, 112]⟩
noncomputable abbrev s_heapify : Str := ⟨#[104, 101, 97, 112, 105, 102, 121]⟩
noncomputable abbrev s__siftdown : Str := ⟨#[95, 115, 105, 102, 116, 100, 111, 119, 110]⟩
noncomputable abbrev s__siftup : Str := ⟨#[95, 115, 105, 102, 116, 117, 112]⟩
noncomputable abbrev s__netrclex : Str := ⟨#[95, 110, 101, 116, 114, 99, 108, 101, 120]⟩
noncomputable abbrev s__law_lexer : Str := ⟨#[95, 108, 97, 119, 95, 108, 101, 120, 101, 114]⟩
noncomputable abbrev s__law_written : Str := ⟨#[95, 108, 97, 119, 95, 119, 114, 105, 116, 116, 101, 110]⟩
noncomputable abbrev s__law_led : Str := ⟨#[95, 108, 97, 119, 95, 108, 101, 100]⟩
noncomputable abbrev s__law_leapt : Str := ⟨#[95, 108, 97, 119, 95, 108, 101, 97, 112, 116]⟩
noncomputable abbrev s__law_table : Str := ⟨#[95, 108, 97, 119, 95, 116, 97, 98, 108, 101]⟩
noncomputable abbrev s_law : Str := ⟨#[108, 97, 119]⟩
noncomputable abbrev s_lineno : Str := ⟨#[108, 105, 110, 101, 110, 111]⟩
noncomputable abbrev s_instream : Str := ⟨#[105, 110, 115, 116, 114, 101, 97, 109]⟩
noncomputable abbrev s_whitespace : Str := ⟨#[119, 104, 105, 116, 101, 115, 112, 97, 99, 101]⟩
noncomputable abbrev s_pushback : Str := ⟨#[112, 117, 115, 104, 98, 97, 99, 107]⟩
noncomputable abbrev s_ch : Str := ⟨#[99, 104]⟩
noncomputable abbrev sx5 : Str := ⟨#[99, 112, 121, 51, 49, 51, 46, 110, 101, 116, 114, 99]⟩
noncomputable abbrev sx6 : Str := ⟨#[34, 34]⟩
noncomputable abbrev s___name__ : Str := ⟨#[95, 95, 110, 97, 109, 101, 95, 95]⟩
noncomputable abbrev s___package__ : Str := ⟨#[95, 95, 112, 97, 99, 107, 97, 103, 101, 95, 95]⟩
noncomputable abbrev s___loader__ : Str := ⟨#[95, 95, 108, 111, 97, 100, 101, 114, 95, 95]⟩
noncomputable abbrev s___spec__ : Str := ⟨#[95, 95, 115, 112, 101, 99, 95, 95]⟩
noncomputable abbrev sx7 : Str := ⟨#[99, 112, 121, 51, 49, 51, 46, 104, 101, 97, 112, 113]⟩
noncomputable abbrev s___init__ : Str := ⟨#[95, 95, 105, 110, 105, 116, 95, 95]⟩
noncomputable abbrev s__read_char : Str := ⟨#[95, 114, 101, 97, 100, 95, 99, 104, 97, 114]⟩
noncomputable abbrev s_get_token : Str := ⟨#[103, 101, 116, 95, 116, 111, 107, 101, 110]⟩
noncomputable abbrev s_push_token : Str := ⟨#[112, 117, 115, 104, 95, 116, 111, 107, 101, 110]⟩
noncomputable abbrev sx8 : Str := ⟨#[46, 60, 108, 111, 99, 97, 108, 115, 62, 46]⟩
noncomputable abbrev sx9 : Str := ⟨#[10, 9, 13, 32]⟩
noncomputable abbrev s_token : Str := ⟨#[116, 111, 107, 101, 110]⟩
noncomputable abbrev s_returnitem : Str := ⟨#[114, 101, 116, 117, 114, 110, 105, 116, 101, 109]⟩
noncomputable abbrev s_replace : Str := ⟨#[114, 101, 112, 108, 97, 99, 101]⟩
noncomputable abbrev sx10 : Str := ⟨#[92, 92]⟩
noncomputable abbrev sx11 : Str := ⟨#[34, 10, 34]⟩
noncomputable abbrev sx12 : Str := ⟨#[34, 97, 34]⟩
noncomputable abbrev sx13 : Str := ⟨#[92, 10, 32]⟩
noncomputable abbrev sx14 : Str := ⟨#[92, 34, 32]⟩
noncomputable abbrev sx15 : Str := ⟨#[92, 92, 32]⟩
noncomputable abbrev sx16 : Str := ⟨#[92, 97, 32]⟩
noncomputable abbrev sx17 : Str := ⟨#[92, 34]⟩
noncomputable abbrev s___build_class__ : Str := ⟨#[95, 95, 98, 117, 105, 108, 100, 95, 99, 108, 97, 115, 115, 95, 95]⟩
noncomputable abbrev s___import__ : Str := ⟨#[95, 95, 105, 109, 112, 111, 114, 116, 95, 95]⟩
noncomputable abbrev s_abs : Str := ⟨#[97, 98, 115]⟩
noncomputable abbrev s_all : Str := ⟨#[97, 108, 108]⟩
noncomputable abbrev s_any : Str := ⟨#[97, 110, 121]⟩
noncomputable abbrev s_ascii : Str := ⟨#[97, 115, 99, 105, 105]⟩
noncomputable abbrev s_bin : Str := ⟨#[98, 105, 110]⟩
noncomputable abbrev s_breakpoint : Str := ⟨#[98, 114, 101, 97, 107, 112, 111, 105, 110, 116]⟩
noncomputable abbrev s_callable : Str := ⟨#[99, 97, 108, 108, 97, 98, 108, 101]⟩
noncomputable abbrev s_chr : Str := ⟨#[99, 104, 114]⟩
noncomputable abbrev s_compile : Str := ⟨#[99, 111, 109, 112, 105, 108, 101]⟩
noncomputable abbrev s_delattr : Str := ⟨#[100, 101, 108, 97, 116, 116, 114]⟩
noncomputable abbrev s_dir : Str := ⟨#[100, 105, 114]⟩
noncomputable abbrev s_divmod : Str := ⟨#[100, 105, 118, 109, 111, 100]⟩
noncomputable abbrev s_eval : Str := ⟨#[101, 118, 97, 108]⟩
noncomputable abbrev s_exec : Str := ⟨#[101, 120, 101, 99]⟩
noncomputable abbrev s_format : Str := ⟨#[102, 111, 114, 109, 97, 116]⟩
noncomputable abbrev s_getattr : Str := ⟨#[103, 101, 116, 97, 116, 116, 114]⟩
noncomputable abbrev s_globals : Str := ⟨#[103, 108, 111, 98, 97, 108, 115]⟩
noncomputable abbrev s_hasattr : Str := ⟨#[104, 97, 115, 97, 116, 116, 114]⟩
noncomputable abbrev s_hash : Str := ⟨#[104, 97, 115, 104]⟩
noncomputable abbrev s_hex : Str := ⟨#[104, 101, 120]⟩
noncomputable abbrev s_id : Str := ⟨#[105, 100]⟩
noncomputable abbrev s_input : Str := ⟨#[105, 110, 112, 117, 116]⟩
noncomputable abbrev s_isinstance : Str := ⟨#[105, 115, 105, 110, 115, 116, 97, 110, 99, 101]⟩
noncomputable abbrev s_issubclass : Str := ⟨#[105, 115, 115, 117, 98, 99, 108, 97, 115, 115]⟩
noncomputable abbrev s_iter : Str := ⟨#[105, 116, 101, 114]⟩
noncomputable abbrev s_aiter : Str := ⟨#[97, 105, 116, 101, 114]⟩
noncomputable abbrev s_len : Str := ⟨#[108, 101, 110]⟩
noncomputable abbrev s_locals : Str := ⟨#[108, 111, 99, 97, 108, 115]⟩
noncomputable abbrev s_max : Str := ⟨#[109, 97, 120]⟩
noncomputable abbrev s_min : Str := ⟨#[109, 105, 110]⟩
noncomputable abbrev s_next : Str := ⟨#[110, 101, 120, 116]⟩
noncomputable abbrev s_anext : Str := ⟨#[97, 110, 101, 120, 116]⟩
noncomputable abbrev s_oct : Str := ⟨#[111, 99, 116]⟩
noncomputable abbrev s_ord : Str := ⟨#[111, 114, 100]⟩
noncomputable abbrev s_pow : Str := ⟨#[112, 111, 119]⟩
noncomputable abbrev s_print : Str := ⟨#[112, 114, 105, 110, 116]⟩
noncomputable abbrev s_repr : Str := ⟨#[114, 101, 112, 114]⟩
noncomputable abbrev s_round : Str := ⟨#[114, 111, 117, 110, 100]⟩
noncomputable abbrev s_setattr : Str := ⟨#[115, 101, 116, 97, 116, 116, 114]⟩
noncomputable abbrev s_sorted : Str := ⟨#[115, 111, 114, 116, 101, 100]⟩
noncomputable abbrev s_sum : Str := ⟨#[115, 117, 109]⟩
noncomputable abbrev s_vars : Str := ⟨#[118, 97, 114, 115]⟩
noncomputable abbrev s_None : Str := ⟨#[78, 111, 110, 101]⟩
noncomputable abbrev s_Ellipsis : Str := ⟨#[69, 108, 108, 105, 112, 115, 105, 115]⟩
noncomputable abbrev s_NotImplemented : Str := ⟨#[78, 111, 116, 73, 109, 112, 108, 101, 109, 101, 110, 116, 101, 100]⟩
noncomputable abbrev s_False : Str := ⟨#[70, 97, 108, 115, 101]⟩
noncomputable abbrev s_True : Str := ⟨#[84, 114, 117, 101]⟩
noncomputable abbrev s_bool : Str := ⟨#[98, 111, 111, 108]⟩
noncomputable abbrev s_memoryview : Str := ⟨#[109, 101, 109, 111, 114, 121, 118, 105, 101, 119]⟩
noncomputable abbrev s_bytearray : Str := ⟨#[98, 121, 116, 101, 97, 114, 114, 97, 121]⟩
noncomputable abbrev s_bytes : Str := ⟨#[98, 121, 116, 101, 115]⟩
noncomputable abbrev s_classmethod : Str := ⟨#[99, 108, 97, 115, 115, 109, 101, 116, 104, 111, 100]⟩
noncomputable abbrev s_complex : Str := ⟨#[99, 111, 109, 112, 108, 101, 120]⟩
noncomputable abbrev s_dict : Str := ⟨#[100, 105, 99, 116]⟩
noncomputable abbrev s_enumerate : Str := ⟨#[101, 110, 117, 109, 101, 114, 97, 116, 101]⟩
noncomputable abbrev s_filter : Str := ⟨#[102, 105, 108, 116, 101, 114]⟩
noncomputable abbrev s_float : Str := ⟨#[102, 108, 111, 97, 116]⟩
noncomputable abbrev s_frozenset : Str := ⟨#[102, 114, 111, 122, 101, 110, 115, 101, 116]⟩
noncomputable abbrev s_property : Str := ⟨#[112, 114, 111, 112, 101, 114, 116, 121]⟩
noncomputable abbrev s_int : Str := ⟨#[105, 110, 116]⟩
noncomputable abbrev s_list : Str := ⟨#[108, 105, 115, 116]⟩
noncomputable abbrev s_map : Str := ⟨#[109, 97, 112]⟩
noncomputable abbrev s_object : Str := ⟨#[111, 98, 106, 101, 99, 116]⟩
noncomputable abbrev s_range : Str := ⟨#[114, 97, 110, 103, 101]⟩
noncomputable abbrev s_reversed : Str := ⟨#[114, 101, 118, 101, 114, 115, 101, 100]⟩
noncomputable abbrev s_set : Str := ⟨#[115, 101, 116]⟩
noncomputable abbrev s_slice : Str := ⟨#[115, 108, 105, 99, 101]⟩
noncomputable abbrev s_staticmethod : Str := ⟨#[115, 116, 97, 116, 105, 99, 109, 101, 116, 104, 111, 100]⟩
noncomputable abbrev s_str : Str := ⟨#[115, 116, 114]⟩
noncomputable abbrev s_super : Str := ⟨#[115, 117, 112, 101, 114]⟩
noncomputable abbrev s_tuple : Str := ⟨#[116, 117, 112, 108, 101]⟩
noncomputable abbrev s_type : Str := ⟨#[116, 121, 112, 101]⟩
noncomputable abbrev s_zip : Str := ⟨#[122, 105, 112]⟩
noncomputable abbrev s___debug__ : Str := ⟨#[95, 95, 100, 101, 98, 117, 103, 95, 95]⟩
noncomputable abbrev s_BaseException : Str := ⟨#[66, 97, 115, 101, 69, 120, 99, 101, 112, 116, 105, 111, 110]⟩
noncomputable abbrev s_BaseExceptionGroup : Str := ⟨#[66, 97, 115, 101, 69, 120, 99, 101, 112, 116, 105, 111, 110, 71, 114, 111, 117, 112]⟩
noncomputable abbrev s_Exception : Str := ⟨#[69, 120, 99, 101, 112, 116, 105, 111, 110]⟩
noncomputable abbrev s_GeneratorExit : Str := ⟨#[71, 101, 110, 101, 114, 97, 116, 111, 114, 69, 120, 105, 116]⟩
noncomputable abbrev s_KeyboardInterrupt : Str := ⟨#[75, 101, 121, 98, 111, 97, 114, 100, 73, 110, 116, 101, 114, 114, 117, 112, 116]⟩
noncomputable abbrev s_SystemExit : Str := ⟨#[83, 121, 115, 116, 101, 109, 69, 120, 105, 116]⟩
noncomputable abbrev s_ArithmeticError : Str := ⟨#[65, 114, 105, 116, 104, 109, 101, 116, 105, 99, 69, 114, 114, 111, 114]⟩
noncomputable abbrev s_AssertionError : Str := ⟨#[65, 115, 115, 101, 114, 116, 105, 111, 110, 69, 114, 114, 111, 114]⟩
noncomputable abbrev s_AttributeError : Str := ⟨#[65, 116, 116, 114, 105, 98, 117, 116, 101, 69, 114, 114, 111, 114]⟩
noncomputable abbrev s_BufferError : Str := ⟨#[66, 117, 102, 102, 101, 114, 69, 114, 114, 111, 114]⟩
noncomputable abbrev s_EOFError : Str := ⟨#[69, 79, 70, 69, 114, 114, 111, 114]⟩
noncomputable abbrev s_ImportError : Str := ⟨#[73, 109, 112, 111, 114, 116, 69, 114, 114, 111, 114]⟩
noncomputable abbrev s_LookupError : Str := ⟨#[76, 111, 111, 107, 117, 112, 69, 114, 114, 111, 114]⟩
noncomputable abbrev s_MemoryError : Str := ⟨#[77, 101, 109, 111, 114, 121, 69, 114, 114, 111, 114]⟩
noncomputable abbrev s_NameError : Str := ⟨#[78, 97, 109, 101, 69, 114, 114, 111, 114]⟩
noncomputable abbrev s_OSError : Str := ⟨#[79, 83, 69, 114, 114, 111, 114]⟩
noncomputable abbrev s_ReferenceError : Str := ⟨#[82, 101, 102, 101, 114, 101, 110, 99, 101, 69, 114, 114, 111, 114]⟩
noncomputable abbrev s_RuntimeError : Str := ⟨#[82, 117, 110, 116, 105, 109, 101, 69, 114, 114, 111, 114]⟩
noncomputable abbrev s_StopAsyncIteration : Str := ⟨#[83, 116, 111, 112, 65, 115, 121, 110, 99, 73, 116, 101, 114, 97, 116, 105, 111, 110]⟩
noncomputable abbrev s_StopIteration : Str := ⟨#[83, 116, 111, 112, 73, 116, 101, 114, 97, 116, 105, 111, 110]⟩
noncomputable abbrev s_SyntaxError : Str := ⟨#[83, 121, 110, 116, 97, 120, 69, 114, 114, 111, 114]⟩
noncomputable abbrev s_SystemError : Str := ⟨#[83, 121, 115, 116, 101, 109, 69, 114, 114, 111, 114]⟩
noncomputable abbrev s_TypeError : Str := ⟨#[84, 121, 112, 101, 69, 114, 114, 111, 114]⟩
noncomputable abbrev s_ValueError : Str := ⟨#[86, 97, 108, 117, 101, 69, 114, 114, 111, 114]⟩
noncomputable abbrev s_Warning : Str := ⟨#[87, 97, 114, 110, 105, 110, 103]⟩
noncomputable abbrev s_FloatingPointError : Str := ⟨#[70, 108, 111, 97, 116, 105, 110, 103, 80, 111, 105, 110, 116, 69, 114, 114, 111, 114]⟩
noncomputable abbrev s_OverflowError : Str := ⟨#[79, 118, 101, 114, 102, 108, 111, 119, 69, 114, 114, 111, 114]⟩
noncomputable abbrev s_ZeroDivisionError : Str := ⟨#[90, 101, 114, 111, 68, 105, 118, 105, 115, 105, 111, 110, 69, 114, 114, 111, 114]⟩
noncomputable abbrev s_BytesWarning : Str := ⟨#[66, 121, 116, 101, 115, 87, 97, 114, 110, 105, 110, 103]⟩
noncomputable abbrev s_DeprecationWarning : Str := ⟨#[68, 101, 112, 114, 101, 99, 97, 116, 105, 111, 110, 87, 97, 114, 110, 105, 110, 103]⟩
noncomputable abbrev s_EncodingWarning : Str := ⟨#[69, 110, 99, 111, 100, 105, 110, 103, 87, 97, 114, 110, 105, 110, 103]⟩
noncomputable abbrev s_FutureWarning : Str := ⟨#[70, 117, 116, 117, 114, 101, 87, 97, 114, 110, 105, 110, 103]⟩
noncomputable abbrev s_ImportWarning : Str := ⟨#[73, 109, 112, 111, 114, 116, 87, 97, 114, 110, 105, 110, 103]⟩
noncomputable abbrev s_PendingDeprecationWarning : Str := ⟨#[80, 101, 110, 100, 105, 110, 103, 68, 101, 112, 114, 101, 99, 97, 116, 105, 111, 110, 87, 97, 114, 110, 105, 110, 103]⟩
noncomputable abbrev s_ResourceWarning : Str := ⟨#[82, 101, 115, 111, 117, 114, 99, 101, 87, 97, 114, 110, 105, 110, 103]⟩
noncomputable abbrev s_RuntimeWarning : Str := ⟨#[82, 117, 110, 116, 105, 109, 101, 87, 97, 114, 110, 105, 110, 103]⟩
noncomputable abbrev s_SyntaxWarning : Str := ⟨#[83, 121, 110, 116, 97, 120, 87, 97, 114, 110, 105, 110, 103]⟩
noncomputable abbrev s_UnicodeWarning : Str := ⟨#[85, 110, 105, 99, 111, 100, 101, 87, 97, 114, 110, 105, 110, 103]⟩
noncomputable abbrev s_UserWarning : Str := ⟨#[85, 115, 101, 114, 87, 97, 114, 110, 105, 110, 103]⟩
noncomputable abbrev s_BlockingIOError : Str := ⟨#[66, 108, 111, 99, 107, 105, 110, 103, 73, 79, 69, 114, 114, 111, 114]⟩
noncomputable abbrev s_ChildProcessError : Str := ⟨#[67, 104, 105, 108, 100, 80, 114, 111, 99, 101, 115, 115, 69, 114, 114, 111, 114]⟩
noncomputable abbrev s_ConnectionError : Str := ⟨#[67, 111, 110, 110, 101, 99, 116, 105, 111, 110, 69, 114, 114, 111, 114]⟩
noncomputable abbrev s_FileExistsError : Str := ⟨#[70, 105, 108, 101, 69, 120, 105, 115, 116, 115, 69, 114, 114, 111, 114]⟩
noncomputable abbrev s_FileNotFoundError : Str := ⟨#[70, 105, 108, 101, 78, 111, 116, 70, 111, 117, 110, 100, 69, 114, 114, 111, 114]⟩
noncomputable abbrev s_InterruptedError : Str := ⟨#[73, 110, 116, 101, 114, 114, 117, 112, 116, 101, 100, 69, 114, 114, 111, 114]⟩
noncomputable abbrev s_IsADirectoryError : Str := ⟨#[73, 115, 65, 68, 105, 114, 101, 99, 116, 111, 114, 121, 69, 114, 114, 111, 114]⟩
noncomputable abbrev s_NotADirectoryError : Str := ⟨#[78, 111, 116, 65, 68, 105, 114, 101, 99, 116, 111, 114, 121, 69, 114, 114, 111, 114]⟩
noncomputable abbrev s_PermissionError : Str := ⟨#[80, 101, 114, 109, 105, 115, 115, 105, 111, 110, 69, 114, 114, 111, 114]⟩
noncomputable abbrev s_ProcessLookupError : Str := ⟨#[80, 114, 111, 99, 101, 115, 115, 76, 111, 111, 107, 117, 112, 69, 114, 114, 111, 114]⟩
noncomputable abbrev s_TimeoutError : Str := ⟨#[84, 105, 109, 101, 111, 117, 116, 69, 114, 114, 111, 114]⟩
noncomputable abbrev s_IndentationError : Str := ⟨#[73, 110, 100, 101, 110, 116, 97, 116, 105, 111, 110, 69, 114, 114, 111, 114]⟩
noncomputable abbrev s__IncompleteInputError : Str := ⟨#[95, 73, 110, 99, 111, 109, 112, 108, 101, 116, 101, 73, 110, 112, 117, 116, 69, 114, 114, 111, 114]⟩
noncomputable abbrev s_IndexError : Str := ⟨#[73, 110, 100, 101, 120, 69, 114, 114, 111, 114]⟩
noncomputable abbrev s_KeyError : Str := ⟨#[75, 101, 121, 69, 114, 114, 111, 114]⟩
noncomputable abbrev s_ModuleNotFoundError : Str := ⟨#[77, 111, 100, 117, 108, 101, 78, 111, 116, 70, 111, 117, 110, 100, 69, 114, 114, 111, 114]⟩
noncomputable abbrev s_NotImplementedError : Str := ⟨#[78, 111, 116, 73, 109, 112, 108, 101, 109, 101, 110, 116, 101, 100, 69, 114, 114, 111, 114]⟩
noncomputable abbrev s_PythonFinalizationError : Str := ⟨#[80, 121, 116, 104, 111, 110, 70, 105, 110, 97, 108, 105, 122, 97, 116, 105, 111, 110, 69, 114, 114, 111, 114]⟩
noncomputable abbrev s_RecursionError : Str := ⟨#[82, 101, 99, 117, 114, 115, 105, 111, 110, 69, 114, 114, 111, 114]⟩
noncomputable abbrev s_UnboundLocalError : Str := ⟨#[85, 110, 98, 111, 117, 110, 100, 76, 111, 99, 97, 108, 69, 114, 114, 111, 114]⟩
noncomputable abbrev s_UnicodeError : Str := ⟨#[85, 110, 105, 99, 111, 100, 101, 69, 114, 114, 111, 114]⟩
noncomputable abbrev s_BrokenPipeError : Str := ⟨#[66, 114, 111, 107, 101, 110, 80, 105, 112, 101, 69, 114, 114, 111, 114]⟩
noncomputable abbrev s_ConnectionAbortedError : Str := ⟨#[67, 111, 110, 110, 101, 99, 116, 105, 111, 110, 65, 98, 111, 114, 116, 101, 100, 69, 114, 114, 111, 114]⟩
noncomputable abbrev s_ConnectionRefusedError : Str := ⟨#[67, 111, 110, 110, 101, 99, 116, 105, 111, 110, 82, 101, 102, 117, 115, 101, 100, 69, 114, 114, 111, 114]⟩
noncomputable abbrev s_ConnectionResetError : Str := ⟨#[67, 111, 110, 110, 101, 99, 116, 105, 111, 110, 82, 101, 115, 101, 116, 69, 114, 114, 111, 114]⟩
noncomputable abbrev s_TabError : Str := ⟨#[84, 97, 98, 69, 114, 114, 111, 114]⟩
noncomputable abbrev s_UnicodeDecodeError : Str := ⟨#[85, 110, 105, 99, 111, 100, 101, 68, 101, 99, 111, 100, 101, 69, 114, 114, 111, 114]⟩
noncomputable abbrev s_UnicodeEncodeError : Str := ⟨#[85, 110, 105, 99, 111, 100, 101, 69, 110, 99, 111, 100, 101, 69, 114, 114, 111, 114]⟩
noncomputable abbrev s_UnicodeTranslateError : Str := ⟨#[85, 110, 105, 99, 111, 100, 101, 84, 114, 97, 110, 115, 108, 97, 116, 101, 69, 114, 114, 111, 114]⟩
noncomputable abbrev s_ExceptionGroup : Str := ⟨#[69, 120, 99, 101, 112, 116, 105, 111, 110, 71, 114, 111, 117, 112]⟩
noncomputable abbrev s_EnvironmentError : Str := ⟨#[69, 110, 118, 105, 114, 111, 110, 109, 101, 110, 116, 69, 114, 114, 111, 114]⟩
noncomputable abbrev s_IOError : Str := ⟨#[73, 79, 69, 114, 114, 111, 114]⟩
noncomputable abbrev s_open : Str := ⟨#[111, 112, 101, 110]⟩
noncomputable abbrev s_quit : Str := ⟨#[113, 117, 105, 116]⟩
noncomputable abbrev s_exit : Str := ⟨#[101, 120, 105, 116]⟩
noncomputable abbrev s_copyright : Str := ⟨#[99, 111, 112, 121, 114, 105, 103, 104, 116]⟩
noncomputable abbrev s_credits : Str := ⟨#[99, 114, 101, 100, 105, 116, 115]⟩
noncomputable abbrev s_license : Str := ⟨#[108, 105, 99, 101, 110, 115, 101]⟩
noncomputable abbrev s_help : Str := ⟨#[104, 101, 108, 112]⟩
noncomputable abbrev s___annotations__ : Str := ⟨#[95, 95, 97, 110, 110, 111, 116, 97, 116, 105, 111, 110, 115, 95, 95]⟩
noncomputable abbrev s___builtins__ : Str := ⟨#[95, 95, 98, 117, 105, 108, 116, 105, 110, 115, 95, 95]⟩
noncomputable abbrev s___file__ : Str := ⟨#[95, 95, 102, 105, 108, 101, 95, 95]⟩
noncomputable abbrev s___cached__ : Str := ⟨#[95, 95, 99, 97, 99, 104, 101, 100, 95, 95]⟩
noncomputable abbrev sx18 : Str := ⟨#[99, 112, 121, 51, 49, 51, 46, 98, 105, 115, 101, 99, 116]⟩
noncomputable abbrev sx19 : Str := ⟨#[95, 110, 101, 116, 114, 99, 108, 101, 120, 46, 95, 95, 105, 110, 105, 116, 95, 95]⟩
noncomputable abbrev sx20 : Str := ⟨#[95, 110, 101, 116, 114, 99, 108, 101, 120, 46, 95, 114, 101, 97, 100, 95, 99, 104, 97, 114]⟩
noncomputable abbrev sx21 : Str := ⟨#[95, 110, 101, 116, 114, 99, 108, 101, 120, 46, 103, 101, 116, 95, 116, 111, 107, 101, 110]⟩
noncomputable abbrev sx22 : Str := ⟨#[95, 110, 101, 116, 114, 99, 108, 101, 120, 46, 112, 117, 115, 104, 95, 116, 111, 107, 101, 110]⟩
noncomputable abbrev s___module__ : Str := ⟨#[95, 95, 109, 111, 100, 117, 108, 101, 95, 95]⟩
noncomputable abbrev s___firstlineno__ : Str := ⟨#[95, 95, 102, 105, 114, 115, 116, 108, 105, 110, 101, 110, 111, 95, 95]⟩
noncomputable abbrev s___static_attributes__ : Str := ⟨#[95, 95, 115, 116, 97, 116, 105, 99, 95, 97, 116, 116, 114, 105, 98, 117, 116, 101, 115, 95, 95]⟩
noncomputable abbrev s___dict__ : Str := ⟨#[95, 95, 100, 105, 99, 116, 95, 95]⟩
noncomputable abbrev s___weakref__ : Str := ⟨#[95, 95, 119, 101, 97, 107, 114, 101, 102, 95, 95]⟩
noncomputable abbrev s_signs : Str := ⟨#[115, 105, 103, 110, 115]⟩
end Mine
namespace Mine
open PySem PySem.W
section
set_option genSizeOf false
set_option genInjectivity false
theorem lw {m n k : Nat} (h : n ≤ k) (e : Nat.ble m n = true := by rfl) : m ≤ k := Nat.le_trans (Nat.le_of_ble_eq_true e) h
theorem it_t {a b : Prop} (h : a) : if true = true then a else b := h
theorem it_f {a b : Prop} (h : b) : if false = true then a else b := h
structure Slot where
  w : Bool
  a : Nat
  o : Obj
noncomputable abbrev wS (a : Nat) (o : Obj) : Slot := ⟨true, a, o⟩
/-- what is not known of a frame: hashes, tokens of the names, the last names; slots -/
structure FrX where
  κ : Nat → Int
  τ : Nat → Nat
  nv : List (Str × Value)
  sl : List Slot
noncomputable def frx0 : FrX := ⟨fun _ => 0, fun _ => 0, [], []⟩
/-- the values that a run is handed: addresses, tokens, frames -/
structure Orc where
  addr : Nat → Nat
  tok : Nat → Nat
  fr : Nat → FrX
/-- what a handler says of a call -/
structure HOut where
  eqs : List (Nat × Nat)
  eqc : List (Code × Code)
  eqh : List (List Slot × List Slot)
  conds : List Prop
  nA : Nat
  nT : Nat
  nI : Nat
  res : List Nat → List Nat → List FrX → Result
  slots : List Nat → List Nat → List FrX → List Slot
noncomputable abbrev Handler := Code → List Slot → Option HOut
/-- a handler that says more of its answer -/
structure HOutP where
  out : HOut
  post : List Nat → List Nat → List FrX → List Prop
noncomputable abbrev HandlerP := Code → List Slot → Option HOutP
inductive Hint where
  | top
  | slot (j : Nat)
  | call
  | sum (h : Handler)
  | sump (h : HandlerP)
structure Out (α : Type) where
  eqs : List (Nat × Nat)
  eqc : List (Code × Code)
  eqh : List (List Slot × List Slot)
  conds : List Prop
  posts : List Prop
  fin : Option (Sem α × List Slot)
noncomputable def getSlot : List Slot → Nat → Option Slot
  | [], _ => none
  | s :: _, 0 => some s
  | _ :: r, n + 1 => getSlot r n
noncomputable def setSlot : List Slot → Nat → Obj → List Slot
  | [], _, _ => []
  | s :: r, 0, o => ⟨s.w, s.a, o⟩ :: r
  | s :: r, n + 1, o => s :: setSlot r n o
noncomputable def addSlot : List Slot → Slot → List Slot
  | [], x => [x]
  | s :: r, x => s :: addSlot r x
noncomputable def takeN {β : Type} (f : Nat → β) : Nat → Nat → List β
  | _, 0 => []
  | n, k + 1 => f n :: takeN f (n + 1) k
structure St where
  H : List Slot
  na : Nat
  nt : Nat
  ni : Nat
/-- a search tree of the top's objects -/
inductive TT where
  | nil
  | node (k : Nat) (o : Obj) (l r : TT)
noncomputable def TT.get : TT → Nat → Option Obj
  | .nil, _ => none
  | .node k o l r, a => match Nat.beq k a with
    | true => some o
    | false => match Nat.blt a k with
      | true => l.get a
      | false => r.get a
structure Env0 where
  prog : Program
  P : Params
  tt : TT
  O : Orc
noncomputable abbrev denoteZ : Code → Sem Fin := ZFast.zw11892475500146522536 ZFast.tableZ
theorem denoteZ_eq (c : Code) : denote table c = denoteZ c := by
  show _ = ZFast.zw11892475500146522536 ZFast.tableZ c
  rw [← ZFast.ze11892475500146522536, ← ZFast.tableZ_eq]
noncomputable def bad {α : Type} : Out α := ⟨[], [], [], [False], [], none⟩
noncomputable def Out.more {α : Type} (e : List (Nat × Nat)) (c : List (Code × Code)) (h : List (List Slot × List Slot)) (p : List Prop) (r : Out α) : Out α := ⟨e ++ r.eqs, c ++ r.eqc, h ++ r.eqh, p ++ r.conds, r.posts, r.fin⟩
noncomputable def Out.moreP {α : Type} (e : List (Nat × Nat)) (c : List (Code × Code)) (h : List (List Slot × List Slot)) (p q : List Prop) (r : Out α) : Out α := ⟨e ++ r.eqs, c ++ r.eqc, h ++ r.eqh, p ++ r.conds, q ++ r.posts, r.fin⟩
noncomputable def gO {γ α : Type} (r : Option γ) (g : γ → Out α) : Out α := match r with
  | some o => g o
  | none => bad
noncomputable def gT {α : Type} (b : Bool) (x : Out α) : Out α := match b with
  | true => x
  | false => bad
noncomputable def Out.eq1 {α : Type} (a b : Nat) (r : Out α) : Out α := ⟨(a, b) :: r.eqs, r.eqc, r.eqh, r.conds, r.posts, r.fin⟩
/-- one node: on to the next tree, a leaf, or a call -/
noncomputable def node {β α : Type} (E : Env0) (hs : List Hint) (t : Sem β) (s : St)
    (go : List Hint → Sem β → St → Out α) (leaf : Unit → Out α) (call : List Hint → Code → (Result → Sem β) → Out α) : Out α :=
  match t with
  | .pure _ => leaf ()
  | .raise _ => leaf ()
  | .rule _ k => go hs (k ()) s
  | .at _ k => go hs (k ()) s
  | .point _ k => go hs (k ()) s
  | .ask k => go hs (k ⟨E.prog, E.P⟩) s
  | .fresh k => go hs (k (E.O.tok s.nt)) ⟨s.H, s.na, s.nt + 1, s.ni⟩
  | .handled own k => gT (!own) (go hs (k none) s)
  | .load a _ k => match hs with
    | [] => bad
    | .top :: hs => gO (E.tt.get a) fun o => go hs (k o) s
    | .slot j :: hs => gO (getSlot s.H j) fun sl => (go hs (k sl.o) s).eq1 a sl.a
    | _ => bad
  | .update a _ f k => match hs with
    | .slot j :: hs => gO (getSlot s.H j) fun sl => gT sl.w (gT (!(f sl.o).isFreed) ((go hs (k ()) ⟨setSlot s.H j (f sl.o), s.na, s.nt, s.ni⟩).eq1 a sl.a))
    | _ => bad
  | .alloc o k => gT (!o.isFreed) (go hs (k (E.O.addr s.na)) ⟨addSlot s.H ⟨true, E.O.addr s.na, o⟩, s.na + 1, s.nt, s.ni⟩)
  | .call c hd _ _ k => match hd with
    | none => call hs c k
    | some _ => bad
  | .unsupported _ => bad
  | .finish _ => bad
  | .loadIfAlive _ _ => bad
  | .register _ _ => bad
  | .choose _ _ _ => bad
  | .os _ _ _ => bad
  | .newGen _ _ => bad
  | .genState _ _ => bad
  | .resume _ _ _ _ => bad
  | .yield _ _ _ _ => bad
  | .stack _ => bad
  | .fork _ _ => bad
  | .thread _ => bad
  | .await _ _ _ _ _ => bad
inductive Cfg (α : Type) where
  | root (t : Sem α)
  | sub (t : Sem Fin) (ks : List (Result → Sem Fin)) (b : Result → Sem α)
noncomputable def retTo {α : Type} (r : Result) (ks : List (Result → Sem Fin)) (b : Result → Sem α) : Cfg α := match ks with
  | [] => .root (b r)
  | k :: ks => .sub (k r) ks b
noncomputable def okCode : Code → Bool
  | .builtin id _ => Bool.not (Nat.beq (S.codeS id) 35714603318786955769505017188)
  | _ => true
noncomputable def few {β : Type} (l : List β) : Bool := Nat.ble l.length 4
noncomputable def onCall {α : Type} (E : Env0) (ih : List Hint → Cfg α → St → Out α) (hs : List Hint) (c : Code) (s : St) (back : Result → Cfg α) (inn : Sem Fin → Cfg α) (n : Bool) : Out α :=
  match hs with
  | .call :: hs => gT (okCode c) (gT n (ih hs (inn (denoteZ c)) s))
  | .sum h :: hs => gO (h c s.H) fun o => (ih hs (back (o.res (takeN E.O.addr s.na o.nA) (takeN E.O.tok s.nt o.nT) (takeN E.O.fr s.ni o.nI)))
        ⟨o.slots (takeN E.O.addr s.na o.nA) (takeN E.O.tok s.nt o.nT) (takeN E.O.fr s.ni o.nI), s.na + o.nA, s.nt + o.nT, s.ni + o.nI⟩).more o.eqs o.eqc o.eqh o.conds
  | .sump h :: hs => gO (h c s.H) fun o => (ih hs (back (o.out.res (takeN E.O.addr s.na o.out.nA) (takeN E.O.tok s.nt o.out.nT) (takeN E.O.fr s.ni o.out.nI)))
        ⟨o.out.slots (takeN E.O.addr s.na o.out.nA) (takeN E.O.tok s.nt o.out.nT) (takeN E.O.fr s.ni o.out.nI), s.na + o.out.nA, s.nt + o.out.nT, s.ni + o.out.nI⟩).moreP o.out.eqs o.out.eqc o.out.eqh o.out.conds
        (o.post (takeN E.O.addr s.na o.out.nA) (takeN E.O.tok s.nt o.out.nT) (takeN E.O.fr s.ni o.out.nI))
  | _ => bad
noncomputable def subLeaf {α : Type} (ih : List Hint → Cfg α → St → Out α) (hs : List Hint) (t : Sem Fin) (ks : List (Result → Sem Fin)) (b : Result → Sem α) (s : St) : Out α := match t with
  | .pure (.done f) => ih hs (retTo (.ok f) ks b) s
  | .pure (.again c) => gT c.quiet (gT (okCode c) (ih hs (.sub (denoteZ c) ks b) s))
  | .raise e => ih hs (retTo (.error e) ks b) s
  | _ => bad
noncomputable def step {α : Type} (E : Env0) (ih : List Hint → Cfg α → St → Out α) (hs : List Hint) (c : Cfg α) (s : St) : Out α := match c with
  | .root t => node E hs t s (fun hs t s => ih hs (.root t) s) (fun _ => ⟨[], [], [], [], [], some (t, s.H)⟩)
      (fun hs c k => onCall E ih hs c s (fun r => .root (k r)) (fun t => .sub t [] k) true)
  | .sub t ks b => node E hs t s (fun hs t s => ih hs (.sub t ks b) s) (fun _ => subLeaf ih hs t ks b s)
      (fun hs c k => onCall E ih hs c s (fun r => .sub (k r) ks b) (fun t => .sub t (k :: ks) b) (few ks))
noncomputable def run {α : Type} (E : Env0) (n : Nat) : List Hint → Cfg α → St → Out α :=
  Nat.rec (motive := fun _ => List Hint → Cfg α → St → Out α) (fun _ _ _ => bad) (fun _ ih => step E ih) n
end
end Mine
namespace Mine
open PySem PySem.W PySem.W.X PyProof.Rows
/-- objects that are known and never written -/
noncomputable abbrev Tops := Nat → Obj → Prop
structure Sat (T : Tops) (s : Shared) (H : List Slot) : Prop where
  top : ∀ a o, T a o → s.heap.get? a = some o
  gens : s.gens = #[]
  toks : 0 < s.toks
  has : ∀ sl ∈ H, s.heap.get? sl.a = some sl.o
  apart : H.Pairwise fun x y => (x.w = true ∨ y.w = true) → x.a ≠ y.a
  wr : ∀ sl ∈ H, sl.w = true → ∀ o, ¬ T sl.a o
structure Keep (H : List Slot) (s s' : Shared) : Prop where
  size : s.heap.objs.size ≤ s'.heap.objs.size
  keep : ∀ a o, s.heap.get? a = some o → (∀ sl ∈ H, sl.w = true → sl.a ≠ a) → s'.heap.get? a = some o
  drawn : s'.drawn = s.drawn
  os : s'.os = s.os
  toks : s.toks ≤ s'.toks
noncomputable def Grow (H : List Slot) (s : Shared) (H' : List Slot) : Prop :=
  ∀ sl ∈ H', sl.w = true → (∃ sl0 ∈ H, sl0.w = true ∧ sl0.a = sl.a) ∨ s.heap.objs.size ≤ sl.a
structure Post (T : Tops) (H : List Slot) (s : Shared) (H' : List Slot) (s' : Shared) : Prop where
  sat : Sat T s' H'
  keep : Keep H s s'
  grow : Grow H s H'
theorem Keep.refl (H : List Slot) (s : Shared) : Keep H s s := ⟨Nat.le_refl _, fun _ _ h _ => h, rfl, rfl, Nat.le_refl _⟩
theorem Grow.refl (H : List Slot) (s : Shared) : Grow H s H := fun sl h hw => .inl ⟨sl, h, hw, rfl⟩
theorem Post.refl {T : Tops} {H : List Slot} {s : Shared} (h : Sat T s H) : Post T H s H s := ⟨h, Keep.refl H s, Grow.refl H s⟩
theorem Post.trans {T : Tops} {H H1 H2 : List Slot} {s s1 s2 : Shared} (h : Post T H s H1 s1) (h' : Post T H1 s1 H2 s2) : Post T H s H2 s2 := by
  refine ⟨h'.sat, ⟨Nat.le_trans h.keep.size h'.keep.size, fun a o ha hn => ?_, h'.keep.drawn.trans h.keep.drawn, h'.keep.os.trans h.keep.os, Nat.le_trans h.keep.toks h'.keep.toks⟩, fun sl hs hw => ?_⟩
  · refine h'.keep.keep a o (h.keep.keep a o ha hn) fun sl hs hw he => ?_
    rcases h.grow sl hs hw with ⟨s0, h0, w0, e0⟩ | hle
    · exact hn s0 h0 w0 (e0.trans he)
    · exact absurd (Heap.lt_size ha) (Nat.not_lt.mpr (he ▸ hle))
  · rcases h'.grow sl hs hw with ⟨s0, h0, w0, e0⟩ | hle
    · rcases h.grow s0 h0 w0 with ⟨s00, h00, w00, e00⟩ | hle
      · exact .inl ⟨s00, h00, w00, e00.trans e0⟩
      · exact .inr (e0 ▸ hle)
    · exact .inr (Nat.le_trans h.keep.size hle)
theorem getSlot_mem {sl : Slot} {H : List Slot} : ∀ {j : Nat}, getSlot H j = some sl → sl ∈ H := by
  induction H with
  | nil => intro j h; cases h
  | cons s r ih =>
    intro j h
    cases j with
    | zero => have e : s = sl := Option.some.inj h; subst e; exact .head _
    | succ n => exact .tail _ (ih (j := n) h)
theorem addSlot_eq : ∀ (H : List Slot) (x : Slot), addSlot H x = H ++ [x]
  | [], _ => rfl
  | s :: r, x => by rw [addSlot, addSlot_eq r x]; rfl
theorem setSlot_wa : ∀ (H : List Slot) (j : Nat) (o : Obj), (setSlot H j o).map (fun z => (z.w, z.a)) = H.map (fun z => (z.w, z.a))
  | [], _, _ => rfl
  | s :: r, 0, o => rfl
  | s :: r, n + 1, o => by simp only [setSlot, List.map_cons, setSlot_wa r n o]
/-- a slot of the changed list: the changed one, or another of the old list at another address -/
theorem setSlot_mem {o : Obj} {sl x : Slot} (hw : sl.w = true) (H : List Slot) : ∀ (j : Nat), (H.Pairwise fun x y => (x.w = true ∨ y.w = true) → x.a ≠ y.a) → getSlot H j = some sl → x ∈ setSlot H j o → x = ⟨sl.w, sl.a, o⟩ ∨ (x ∈ H ∧ x.a ≠ sl.a) := by
  induction H with
  | nil => intro j _ hg; cases hg
  | cons s r ih =>
    intro j hn hg hx
    rw [List.pairwise_cons] at hn
    cases j with
    | zero =>
      have e : s = sl := Option.some.inj hg
      subst e
      have hx' : x ∈ (⟨s.w, s.a, o⟩ : Slot) :: r := hx
      rcases List.mem_cons.mp hx' with h | h
      · exact .inl h
      · exact .inr ⟨.tail _ h, Ne.symm (hn.1 x h (.inl hw))⟩
    | succ n =>
      have hg' : getSlot r n = some sl := hg
      have hx' : x ∈ s :: setSlot r n o := hx
      rcases List.mem_cons.mp hx' with h | h
      · subst h
        exact .inr ⟨.head _, hn.1 sl (getSlot_mem hg') (.inr hw)⟩
      · rcases ih n hn.2 hg' h with h | h
        · exact .inl h
        · exact .inr ⟨.tail _ h.1, h.2⟩
theorem setSlot_apart {o : Obj} (H : List Slot) : ∀ (j : Nat), (H.Pairwise fun x y => (x.w = true ∨ y.w = true) → x.a ≠ y.a) → (setSlot H j o).Pairwise fun x y => (x.w = true ∨ y.w = true) → x.a ≠ y.a := by
  induction H with
  | nil => intro j h; exact h
  | cons s r ih =>
    intro j h
    rw [List.pairwise_cons] at h
    cases j with
    | zero => exact List.pairwise_cons.mpr ⟨h.1, h.2⟩
    | succ n =>
      refine List.pairwise_cons.mpr ⟨fun y hy => ?_, ih n h.2⟩
      have hy' : ∃ z ∈ r, z.w = y.w ∧ z.a = y.a := by
        have : (y.w, y.a) ∈ (setSlot r n o).map (fun z => (z.w, z.a)) := List.mem_map_of_mem hy
        rw [setSlot_wa] at this
        obtain ⟨z, hz, e⟩ := List.mem_map.mp this
        exact ⟨z, hz, (Prod.mk.inj e).1, (Prod.mk.inj e).2⟩
      obtain ⟨z, hz, e1, e2⟩ := hy'
      rw [← e1, ← e2]
      exact h.1 z hz
theorem Sat.alloc {T : Tops} {H : List Slot} {s : Shared} (h : Sat T s H) {o : Obj} (hf : o.isFreed = false) :
    Post T H s (addSlot H ⟨true, s.heap.objs.size, o⟩) { s with heap := s.heap.push o } := by
  have hlt : ∀ sl ∈ H, sl.a < s.heap.objs.size := fun sl hs => Heap.lt_size (h.has sl hs)
  refine ⟨⟨fun a o' e => Heap.get?_push_of_some _ (h.top a o' e), h.gens, h.toks, fun sl hs => ?_, ?_, fun sl hs hw => ?_⟩, ⟨?_, fun a o' e _ => Heap.get?_push_of_some _ e, rfl, rfl, Nat.le_refl _⟩, fun sl hs hw => ?_⟩
  · rw [addSlot_eq] at hs
    rcases List.mem_append.mp hs with hs | hs
    · exact Heap.get?_push_of_some _ (h.has sl hs)
    · rw [List.mem_singleton.mp hs]; exact Heap.get?_push_size _ hf
  · rw [addSlot_eq, List.pairwise_append]
    refine ⟨h.apart, by simp, ?_⟩
    intro x hx y hy _
    rw [List.mem_singleton.mp hy]
    exact Nat.ne_of_lt (hlt x hx)
  · rw [addSlot_eq] at hs
    rcases List.mem_append.mp hs with hs | hs
    · exact h.wr sl hs hw
    · rw [List.mem_singleton.mp hs]
      exact fun o' e => absurd (Heap.lt_size (h.top _ _ e)) (Nat.lt_irrefl _)
  · show s.heap.objs.size ≤ (s.heap.push o).objs.size
    rw [Heap.size_push]; lia
  · rw [addSlot_eq] at hs
    rcases List.mem_append.mp hs with hs | hs
    · exact .inl ⟨sl, hs, hw, rfl⟩
    · rw [List.mem_singleton.mp hs]; exact .inr (Nat.le_refl _)
theorem Sat.update {T : Tops} {H : List Slot} {s : Shared} (h : Sat T s H) {j : Nat} {sl : Slot} (hg : getSlot H j = some sl) (hw : sl.w = true) {f : Obj → Obj} (hf : (f sl.o).isFreed = false) :
    Post T H s (setSlot H j (f sl.o)) { s with heap := s.heap.update sl.a f } := by
  have hm := getSlot_mem hg
  have ho := h.has sl hm
  have hs : Heap.SameBut sl.a s.heap (s.heap.update sl.a f) := Heap.SameBut.update ..
  have ge : (s.heap.update sl.a f).get? sl.a = some (f sl.o) := by first | exact Heap.get?_update_self f ho hf | exact Heap.get?_update_self _ ho hf
  refine ⟨⟨fun a o' e => ?_, h.gens, h.toks, fun x hx => ?_, ?_, fun x hx hxw => ?_⟩, ⟨?_, fun a o' e hn => ?_, rfl, rfl, Nat.le_refl _⟩, fun x hx hxw => ?_⟩
  · refine (hs.2 a fun e' => ?_).trans (h.top a o' e)
    exact h.wr sl hm hw o' (e' ▸ e)
  · rcases setSlot_mem hw H j h.apart hg hx with rfl | ⟨hx, hne⟩
    · exact ge
    · exact (hs.2 x.a hne).trans (h.has x hx)
  · exact setSlot_apart H j h.apart
  · rcases setSlot_mem hw H j h.apart hg hx with rfl | ⟨hx, hne⟩
    · exact h.wr sl hm hw
    · exact h.wr x hx hxw
  · show s.heap.objs.size ≤ (s.heap.update sl.a f).objs.size
    rw [hs.1]; exact Nat.le_refl _
  · exact (hs.2 a (Ne.symm (hn sl hm hw))).trans e
  · rcases setSlot_mem hw H j h.apart hg hx with rfl | ⟨hx, hne⟩
    · exact .inl ⟨sl, hm, hw, rfl⟩
    · exact .inl ⟨x, hx, hxw, rfl⟩
/-- room for n more levels -/
structure OkA (n : Nat) (A : Around) : Prop where
  handled : A.handled = none
  depth : A.depth + 40 * n ≤ 900
  units : A.units + 80 * n ≤ 9800
theorem OkA.mono {n m : Nat} {A : Around} (h : OkA n A) (hm : m ≤ n) : OkA m A := ⟨h.handled, by have := h.depth; lia, by have := h.units; lia⟩
/-- room for a tree whose calls want level n -/
structure OkT (n : Nat) (A : Around) : Prop where
  handled : A.handled = none
  depth : A.depth + 40 * n + 32 ≤ 900
  units : A.units + 80 * n + 64 ≤ 9800
theorem OkT.ok {n : Nat} {A : Around} (h : OkT n A) : OkA n A := ⟨h.handled, by have := h.depth; lia, by have := h.units; lia⟩
theorem codeS_caller : S.codeS "claim.caller" = 35714603318786955769505017188 := by kernel_rfl
theorem frames_le (c : Code) : c.frames ≤ 3 := by
  unfold Code.frames
  split <;> (try lia)
theorem okCode_caller {c : Code} (h : okCode c = true) : c.isCaller = false := by
  unfold Code.isCaller
  split
  · unfold okCode at h
    simp only [codeS_caller] at h
    cases h
  · rfl
theorem okCode_weight {c : Code} (h : okCode c = true) : c.weight ≤ 5 := by
  have := frames_le c
  unfold Code.weight
  rw [okCode_caller h]
  split <;> split <;> simp <;> lia
theorem cUnits_le (c : Code) : c.cUnits ≤ 10 := by
  have := frames_le c
  unfold Code.cUnits
  split <;> lia
section
variable (prog : Program) (w : World) (T : Tops)
noncomputable def postC' (A : Around) (R : Result → Shared → Prop) : Fin → Shared → Prop := fun fin s' => match fin with
  | .done f => R (.ok f) s'
  | .again c' => c'.quiet = true ∧ codeAny (model prog w) A c' R s'
noncomputable def postE' (R : Result → Shared → Prop) : Value → Shared → Prop := fun e s' => R (.error e) s'
/-- a call of c ends with R -/
noncomputable def CallsTo (A : Around) (c : Code) (s : Shared) (R : Result → Shared → Prop) : Prop :=
  ∀ (β : Type) (k : Result → Sem β) (g : Bool) (l : List Value) (Q : β → Shared → Prop) (E : Value → Shared → Prop),
    (∀ r s', R r s' → wpAny (model prog w) A (k r) Q E s') → wpAny (model prog w) A (.call c none g l k) Q E s
theorem CallsTo.of_code {A : Around} {c : Code} {s : Shared} {R : Result → Shared → Prop} (h : codeAny (model prog w) (A.mark none) c R s) : CallsTo prog w A c s R :=
  fun β k g l Q E hk => x_call (codeAny_mono h hk) (by intro h; cases h)
theorem CallsTo.mono {A : Around} {c : Code} {s : Shared} {R R' : Result → Shared → Prop} (h : CallsTo prog w A c s R) (hi : ∀ r s', R r s' → R' r s') : CallsTo prog w A c s R' :=
  fun β k g l Q E hk => h β k g l Q E fun r s' hr => hk r s' (hi r s' hr)
/-- from a rule for «call» -/
theorem CallsTo.of_call {A : Around} {f : Value} {args : List Value} {s : Shared} {R : Value → Shared → Prop} (h : wpAny (model prog w) A (call f args) R (fun _ _ => False) s) :
    CallsTo prog w A (.call f ⟨args, []⟩) s (fun r s' => ∃ v, r = .ok (.ret v) ∧ R v s') := fun β k g l Q E hk Γ p hΓ => by
  have h1 := h Γ p hΓ
  refine wpCode_mono (fun r s' hr => ?_) h1
  cases r with
  | error e => exact (hr : False).elim
  | ok fl => cases fl with
    | ret v => exact hk _ _ ⟨v, rfl, hr⟩ Γ p hΓ
    | next => exact (hr : False).elim
    | brk => exact (hr : False).elim
    | cont => exact (hr : False).elim
/-- what is checked of a handler's word -/
structure HIn (o : HOut) : Prop where
  eqs : ∀ p ∈ o.eqs, p.1 = p.2
  eqc : ∀ p ∈ o.eqc, p.1 = p.2
  eqh : ∀ p ∈ o.eqh, p.1 = p.2
  conds : ∀ p ∈ o.conds, p
noncomputable abbrev HConc (s : Shared) (H : List Slot) (o : HOut) : Result → Shared → Prop := fun r s' => ∃ as ts is, as.length = o.nA ∧ ts.length = o.nT ∧ is.length = o.nI ∧ r = o.res as ts is ∧ Post T H s (o.slots as ts is) s'
noncomputable abbrev HConcP (s : Shared) (H : List Slot) (o : HOutP) : Result → Shared → Prop := fun r s' => ∃ as ts is, as.length = o.out.nA ∧ ts.length = o.out.nT ∧ is.length = o.out.nI ∧ r = o.out.res as ts is ∧ (∀ p ∈ o.post as ts is, p) ∧ Post T H s (o.out.slots as ts is) s'
noncomputable def HOk (lv : Nat) (h : Handler) : Prop :=
  ∀ c H out, h c H = some out → HIn out → ∀ A s, OkA lv A → Sat T s H → CallsTo prog w A c s (HConc T s H out)
noncomputable def HOkP (lv : Nat) (h : HandlerP) : Prop :=
  ∀ c H out, h c H = some out → HIn out.out → ∀ A s, OkA lv A → Sat T s H → CallsTo prog w A c s (HConcP T s H out)
theorem HOkP.mono {lv lv' : Nat} {h : HandlerP} (hh : HOkP prog w T lv h) (hl : lv ≤ lv') : HOkP prog w T lv' h :=
  fun c H out e hi A s hA hS => hh c H out e hi A s (hA.mono hl) hS
theorem HOk.mono {lv lv' : Nat} {h : Handler} (hh : HOk prog w T lv h) (hl : lv ≤ lv') : HOk prog w T lv' h :=
  fun c H out e hi A s hA hS => hh c H out e hi A s (hA.mono hl) hS
noncomputable def Agr (pa pt : List Nat) (pi : List FrX) (O : Orc) : Prop := takeN O.addr 0 pa.length = pa ∧ takeN O.tok 0 pt.length = pt ∧ takeN O.fr 0 pi.length = pi
theorem takeN_length {β : Type} (f : Nat → β) : ∀ (k n : Nat), (takeN f n k).length = k
  | 0, _ => rfl
  | k + 1, n => by rw [takeN, List.length_cons, takeN_length f k (n + 1)]
theorem takeN_append {β : Type} (f : Nat → β) : ∀ (k n m : Nat), takeN f n (k + m) = takeN f n k ++ takeN f (n + k) m
  | 0, n, m => by simp [takeN]
  | k + 1, n, m => by
    have : k + 1 + m = (k + m) + 1 := by lia
    rw [this, takeN, takeN, takeN_append f k (n + 1) m]
    have : n + 1 + k = n + (k + 1) := by lia
    rw [this]; rfl
theorem takeN_ext {β : Type} {f : Nat → β} {p q : List β} (h : takeN f 0 (p ++ q).length = p ++ q) : takeN f 0 p.length = p ∧ takeN f p.length q.length = q := by
  rw [List.length_append, takeN_append, Nat.zero_add] at h
  exact List.append_inj h (takeN_length ..)
theorem takeN_getD {β : Type} (d : β) : ∀ (p l : List β), takeN (fun i => (l ++ p).getD i d) l.length p.length = p
  | [], _ => rfl
  | x :: p, l => by
    rw [List.length_cons, takeN]
    have e1 : (l ++ x :: p).getD l.length d = x := by simp
    have e2 := takeN_getD d p (l ++ [x])
    rw [List.length_append, List.length_singleton, List.append_assoc, List.singleton_append] at e2
    rw [e1, e2]
theorem agr_some (pa pt : List Nat) (pi : List FrX) : Agr pa pt pi ⟨fun i => pa.getD i 0, fun i => pt.getD i 0, fun i => pi.getD i frx0⟩ :=
  ⟨takeN_getD 0 pa [], takeN_getD 0 pt [], takeN_getD _ pi []⟩
theorem Agr.of_append {pa pt qa qt : List Nat} {pi qi : List FrX} {O : Orc} (h : Agr (pa ++ qa) (pt ++ qt) (pi ++ qi) O) :
    Agr pa pt pi O ∧ takeN O.addr pa.length qa.length = qa ∧ takeN O.tok pt.length qt.length = qt ∧ takeN O.fr pi.length qi.length = qi :=
  ⟨⟨(takeN_ext h.1).1, (takeN_ext h.2.1).1, (takeN_ext h.2.2).1⟩, (takeN_ext h.1).2, (takeN_ext h.2.1).2, (takeN_ext h.2.2).2⟩
variable {α : Type} (F : Orc → Sem α → List Slot → Prop)
noncomputable def Good (O : Orc) (out : Out α) : Prop :=
  (∀ p ∈ out.eqs, p.1 = p.2) ∧ (∀ p ∈ out.eqc, p.1 = p.2) ∧ (∀ p ∈ out.eqh, p.1 = p.2) ∧ (∀ p ∈ out.conds, p) ∧ ∃ t H, out.fin = some (t, H) ∧ ((∀ p ∈ out.posts, p) → F O t H)
theorem good_bad {O : Orc} (h : Good F O bad) : False := h.2.2.2.1 False (.head _)
theorem good_gO {γ : Type} {O : Orc} {r : Option γ} {g : γ → Out α} (h : Good F O (gO r g)) : ∃ o, r = some o ∧ Good F O (g o) := by
  cases r with
  | none => exact (good_bad F h).elim
  | some o => exact ⟨o, rfl, h⟩
theorem good_gOe {γ : Type} {O : Orc} {r : Option γ} {o : γ} {g : γ → Out α} (e : r = some o) (h : Good F O (gO r g)) : Good F O (g o) := by
  cases e
  exact h
theorem good_gT {O : Orc} {b : Bool} {x : Out α} (h : Good F O (gT b x)) : b = true ∧ Good F O x := by
  cases b with
  | false => exact (good_bad F h).elim
  | true => exact ⟨rfl, h⟩
theorem of_not {b : Bool} (h : (!b) = true) : b = false := by
  cases b with
  | false => rfl
  | true => cases h
theorem good_eq1 {O : Orc} {a b : Nat} {r : Out α} (h : Good F O (r.eq1 a b)) : a = b ∧ Good F O r :=
  ⟨h.1 (a, b) (.head _), fun p hp => h.1 p (.tail _ hp), h.2.1, h.2.2.1, h.2.2.2.1, h.2.2.2.2⟩
theorem good_more {O : Orc} {e : List (Nat × Nat)} {c : List (Code × Code)} {g : List (List Slot × List Slot)} {p : List Prop} {r : Out α} (h : Good F O (r.more e c g p)) :
    (∀ x ∈ e, x.1 = x.2) ∧ (∀ x ∈ c, x.1 = x.2) ∧ (∀ x ∈ g, x.1 = x.2) ∧ (∀ x ∈ p, x) ∧ Good F O r :=
  ⟨fun x hx => h.1 x (List.mem_append_left _ hx), fun x hx => h.2.1 x (List.mem_append_left _ hx), fun x hx => h.2.2.1 x (List.mem_append_left _ hx), fun x hx => h.2.2.2.1 x (List.mem_append_left _ hx),
    fun x hx => h.1 x (List.mem_append_right _ hx), fun x hx => h.2.1 x (List.mem_append_right _ hx), fun x hx => h.2.2.1 x (List.mem_append_right _ hx), fun x hx => h.2.2.2.1 x (List.mem_append_right _ hx), h.2.2.2.2⟩
theorem good_moreP {O : Orc} {e : List (Nat × Nat)} {c : List (Code × Code)} {g : List (List Slot × List Slot)} {p q : List Prop} {r : Out α} (h : Good F O (r.moreP e c g p q)) :
    (∀ x ∈ e, x.1 = x.2) ∧ (∀ x ∈ c, x.1 = x.2) ∧ (∀ x ∈ g, x.1 = x.2) ∧ (∀ x ∈ p, x) ∧ ((∀ x ∈ q, x) → Good F O r) := by
  refine ⟨fun x hx => h.1 x (List.mem_append_left _ hx), fun x hx => h.2.1 x (List.mem_append_left _ hx), fun x hx => h.2.2.1 x (List.mem_append_left _ hx), fun x hx => h.2.2.2.1 x (List.mem_append_left _ hx), fun hq =>
    ⟨fun x hx => h.1 x (List.mem_append_right _ hx), fun x hx => h.2.1 x (List.mem_append_right _ hx), fun x hx => h.2.2.1 x (List.mem_append_right _ hx), fun x hx => h.2.2.2.1 x (List.mem_append_right _ hx), ?_⟩⟩
  obtain ⟨t, H, e1, hf⟩ := h.2.2.2.2
  exact ⟨t, H, e1, fun hr => hf fun x hx => (List.mem_append.mp hx).elim (hq x) (hr x)⟩
variable (tt : TT) (hT : ∀ a o, tt.get a = some o → T a o)
noncomputable abbrev ev (O : Orc) : Env0 := ⟨prog, w.params, tt, O⟩
include hT in
theorem node_sound {β : Type} {A : Around} (hA : A.handled = none) {Q : β → Shared → Prop} {Er : Value → Shared → Prop} {H₀ : List Slot} {s₀ : Shared}
    {go : Orc → List Hint → Sem β → St → Out α} {leaf : Orc → Unit → Out α} {call : Orc → List Hint → Code → (Result → Sem β) → Out α}
    {hs : List Hint} {t : Sem β} {pa pt : List Nat} {pi : List FrX} {H : List Slot} {s : Shared}
    (hgo : ∀ hs' t' pa' pt' pi' H' s', hs' ⊆ hs → (∀ O, Agr pa' pt' pi' O → Good F O (go O hs' t' ⟨H', pa'.length, pt'.length, pi'.length⟩)) → Post T H₀ s₀ H' s' → wpAny (model prog w) A t' Q Er s')
    (hleaf : (∀ O, Agr pa pt pi O → Good F O (leaf O ())) → (∀ a, t = .pure a → wpAny (model prog w) A t Q Er s) ∧ ∀ e, t = .raise e → wpAny (model prog w) A t Q Er s)
    (hcall : ∀ c k g l, (∀ O, Agr pa pt pi O → Good F O (call O hs c k)) → wpAny (model prog w) A (.call c none g l k) Q Er s)
    (hg : ∀ O, Agr pa pt pi O → Good F O (node (ev prog w tt O) hs t ⟨H, pa.length, pt.length, pi.length⟩ (go O) (leaf O) (call O)))
    (hp : Post T H₀ s₀ H s) : wpAny (model prog w) A t Q Er s := by
  have O1 := agr_some pa pt pi
  cases t with
  | pure a => exact (hleaf hg).1 a rfl
  | raise e => exact (hleaf hg).2 e rfl
  | rule tag k => exact x_rule (hgo hs (k ()) pa pt pi H s (fun _ h => h) hg hp)
  | «at» q k => exact x_at (hgo hs (k ()) pa pt pi H s (fun _ h => h) hg hp)
  | point l k => exact x_point (hgo hs (k ()) pa pt pi H s (fun _ h => h) hg hp)
  | ask k => exact x_ask (hgo hs (k _) pa pt pi H s (fun _ h => h) hg hp)
  | fresh k =>
    refine x_fresh (hgo hs (k s.toks) pa (pt ++ [s.toks]) pi H _ (fun _ h => h) (fun O ho => ?_) (hp.trans ⟨⟨hp.sat.top, hp.sat.gens, Nat.succ_pos _, hp.sat.has, hp.sat.apart, hp.sat.wr⟩, ⟨Nat.le_refl _, fun _ _ h _ => h, rfl, rfl, Nat.le_succ _⟩, Grow.refl H s⟩))
    have h1 := Agr.of_append (pa := pa) (qa := []) (pt := pt) (qt := [s.toks]) (pi := pi) (qi := []) (O := O) (by rw [List.append_nil, List.append_nil]; exact ho)
    have h2 : Good F O (go O hs (k (O.tok pt.length)) ⟨H, pa.length, pt.length + 1, pi.length⟩) := hg O h1.1
    rw [show O.tok pt.length = s.toks from (List.cons.inj h1.2.2.1).1] at h2
    rw [List.length_append]
    exact h2
  | handled own k =>
    cases own with
    | true => exact (good_bad F (hg _ O1)).elim
    | false => exact x_handled (by rw [hA]; exact hgo hs (k none) pa pt pi H s (fun _ h => h) hg hp)
  | load a q k =>
    cases hs with
    | nil => exact (good_bad F (hg _ O1)).elim
    | cons hd hs =>
      cases hd with
      | top =>
        obtain ⟨o, e, _⟩ := good_gO F (hg _ O1)
        exact x_load (hp.sat.top a o (hT a o e)) (hgo hs (k o) pa pt pi H s (fun _ h => .tail _ h) (fun O ho => by have h := good_gOe F e (hg O ho); exact h) hp)
      | slot j =>
        obtain ⟨sl, e, h1⟩ := good_gO F (hg _ O1)
        rw [(good_eq1 F h1).1]
        exact x_load (hp.sat.has sl (getSlot_mem e)) (hgo hs (k sl.o) pa pt pi H s (fun _ h => .tail _ h) (fun O ho => by have h := good_gOe F e (hg O ho); exact (good_eq1 F h).2) hp)
      | call => exact (good_bad F (hg _ O1)).elim
      | sum h => exact (good_bad F (hg _ O1)).elim
      | sump h => exact (good_bad F (hg _ O1)).elim
  | update a q f k =>
    cases hs with
    | nil => exact (good_bad F (hg _ O1)).elim
    | cons hd hs =>
      cases hd with
      | top => exact (good_bad F (hg _ O1)).elim
      | call => exact (good_bad F (hg _ O1)).elim
      | sum h => exact (good_bad F (hg _ O1)).elim
      | sump h => exact (good_bad F (hg _ O1)).elim
      | slot j =>
        obtain ⟨sl, e, h1⟩ := good_gO F (hg _ O1)
        have h2 := good_gT F h1
        have h3 := good_gT F h2.2
        rw [(good_eq1 F h3.2).1]
        exact wpAny_bind (m := updatePart sl.a q f) (f := k) (wpAny_updatePart (hp.sat.has sl (getSlot_mem e)) (hgo hs (k ()) pa pt pi _ _ (fun _ h => .tail _ h) (fun O ho => by have h := good_gOe F e (hg O ho); exact (good_eq1 F (good_gT F (good_gT F h).2).2).2) (hp.trans (hp.sat.update e h2.1 (of_not h3.1)))))
  | alloc o k =>
    have h0 := good_gT F (hg _ O1)
    refine wpAny_bind (m := alloc o) (f := k) (wpAny_alloc (hgo hs (k s.heap.objs.size) (pa ++ [s.heap.objs.size]) pt pi _ _ (fun _ h => h) (fun O ho => ?_) (hp.trans (hp.sat.alloc (of_not h0.1)))))
    have h1 := Agr.of_append (pa := pa) (qa := [s.heap.objs.size]) (pt := pt) (qt := []) (pi := pi) (qi := []) (O := O) (by rw [List.append_nil, List.append_nil]; exact ho)
    have h2 : Good F O (go O hs (k (O.addr pa.length)) ⟨addSlot H ⟨true, O.addr pa.length, o⟩, pa.length + 1, pt.length, pi.length⟩) := (good_gT F (hg O h1.1)).2
    rw [show O.addr pa.length = s.heap.objs.size from (List.cons.inj h1.2.1).1] at h2
    rw [List.length_append]
    exact h2
  | call c hd g l k =>
    cases hd with
    | some v => exact (good_bad F (hg _ O1)).elim
    | none => exact hcall c k g l hg
  | unsupported what => exact (good_bad F (hg _ O1)).elim
  | finish e => exact (good_bad F (hg _ O1)).elim
  | loadIfAlive a k => exact (good_bad F (hg _ O1)).elim
  | register a k => exact (good_bad F (hg _ O1)).elim
  | choose src n k => exact (good_bad F (hg _ O1)).elim
  | os req live k => exact (good_bad F (hg _ O1)).elim
  | newGen c k => exact (good_bad F (hg _ O1)).elim
  | genState g k => exact (good_bad F (hg _ O1)).elim
  | resume g r live k => exact (good_bad F (hg _ O1)).elim
  | yield v gd live k => exact (good_bad F (hg _ O1)).elim
  | stack k => exact (good_bad F (hg _ O1)).elim
  | fork c k => exact (good_bad F (hg _ O1)).elim
  | thread k => exact (good_bad F (hg _ O1)).elim
  | await a tk tm live k => exact (good_bad F (hg _ O1)).elim
/-- where a call goes back to -/
inductive RetOk (A₀ : Around) (Q : α → Shared → Prop) (Er : Value → Shared → Prop) : List (Result → Sem Fin) → (Result → Sem α) → Around → (Result → Shared → Prop) → Prop where
  | base {b : Result → Sem α} {A : Around} {R : Result → Shared → Prop} (h1 : A.handled = none) (h2 : A.depth ≤ A₀.depth) (h3 : A.units ≤ A₀.units)
      (hr : ∀ r s, wpAny (model prog w) A₀ (b r) Q Er s → R r s) : RetOk A₀ Q Er [] b A R
  | cons {k : Result → Sem Fin} {ks : List (Result → Sem Fin)} {b : Result → Sem α} {A A1 : Around} {R R1 : Result → Shared → Prop} {c1 : Code} (h : RetOk A₀ Q Er ks b A1 R1) (hc : okCode c1 = true)
      (h1 : A.handled = none) (h2 : A.depth ≤ (A1.under c1).depth) (h3 : A.units ≤ (A1.under c1).units)
      (hr : ∀ r s, wpAny (model prog w) (A1.under c1) (k r) (postC' prog w A1 R1) (postE' R1) s → R r s) : RetOk A₀ Q Er (k :: ks) b A R
theorem under_depth (A : Around) (c : Code) : (A.under c).depth = A.depth + c.weight := rfl
theorem under_units (A : Around) (c : Code) : (A.under c).units = A.units + c.cUnits := rfl
theorem RetOk.bounds {A₀ A : Around} {Q : α → Shared → Prop} {Er : Value → Shared → Prop} {ks : List (Result → Sem Fin)} {b : Result → Sem α} {R : Result → Shared → Prop} (h : RetOk prog w A₀ Q Er ks b A R) :
    A.handled = none ∧ A.depth ≤ A₀.depth + 5 * ks.length ∧ A.units ≤ A₀.units + 10 * ks.length := by
  induction h with
  | base h1 h2 h3 hr => exact ⟨h1, by simpa using h2, by simpa using h3⟩
  | cons h hc h1 h2 h3 hr ih =>
    rename_i ks b A A1 R R1 c1
    have := okCode_weight hc
    have := cUnits_le c1
    rw [under_depth] at h2
    rw [under_units] at h3
    rw [List.length_cons]
    exact ⟨h1, by lia, by lia⟩
theorem few_le {β : Type} {l : List β} (h : few l = true) : l.length ≤ 4 := by
  exact Nat.le_of_ble_eq_true h
theorem call_in {β : Type} {A : Around} {c : Code} {g : Bool} {l : List Value} {k : Result → Sem β} {Q : β → Shared → Prop} {Er : Value → Shared → Prop} {s : Shared}
    (h : wpAny (model prog w) ((A.mark none).under c) (denoteZ c) (postC' prog w (A.mark none) (fun r s' => wpAny (model prog w) A (k r) Q Er s')) (postE' (fun r s' => wpAny (model prog w) A (k r) Q Er s')) s) :
    wpAny (model prog w) A (.call c none g l k) Q Er s := by
  refine x_call (x_code ?_) (by intro h; cases h)
  rw [denoteZ_eq]
  exact h
include hT in
theorem run_sound {A₀ : Around} {lv : Nat} (hA₀ : OkT lv A₀) {Q : α → Shared → Prop} {Er : Value → Shared → Prop} {H₀ : List Slot} {s₀ : Shared}
    (hF : ∀ O t H s, F O t H → Post T H₀ s₀ H s → (∀ a, t = .pure a → Q a s) ∧ ∀ e, t = .raise e → Er e s) (n : Nat) :
    (∀ hs : List Hint, (∀ h, Hint.sum h ∈ hs → HOk prog w T lv h) → (∀ h, Hint.sump h ∈ hs → HOkP prog w T lv h) → ∀ t pa pt pi H s,
      (∀ O, Agr pa pt pi O → Good F O (run (ev prog w tt O) n hs (.root t) ⟨H, pa.length, pt.length, pi.length⟩)) → Post T H₀ s₀ H s → wpAny (model prog w) A₀ t Q Er s) ∧
    (∀ hs : List Hint, (∀ h, Hint.sum h ∈ hs → HOk prog w T lv h) → (∀ h, Hint.sump h ∈ hs → HOkP prog w T lv h) → ∀ t ks b pa pt pi H s A R c,
      (∀ O, Agr pa pt pi O → Good F O (run (ev prog w tt O) n hs (.sub t ks b) ⟨H, pa.length, pt.length, pi.length⟩)) → Post T H₀ s₀ H s →
      RetOk prog w A₀ Q Er ks b A R → ks.length ≤ 5 → okCode c = true → wpAny (model prog w) (A.under c) t (postC' prog w A R) (postE' R) s) := by
  induction n with
  | zero =>
    refine ⟨fun hs _ _ t pa pt pi H s hg => ?_, fun hs _ _ t ks b pa pt pi H s A R c hg => ?_⟩
    · exact (good_bad F (hg _ (agr_some pa pt pi))).elim
    · exact (good_bad F (hg _ (agr_some pa pt pi))).elim
  | succ n ih =>
    -- a summed call
    have sumS : ∀ {β : Type} {A : Around} {c : Code} {g : Bool} {l : List Value} {k : Result → Sem β} {Q' : β → Shared → Prop} {Er' : Value → Shared → Prop} {hs : List Hint} {h : Handler} {pa pt : List Nat} {pi : List FrX} {H : List Slot} {s : Shared}
        (back : Result → Cfg α), OkA lv A → HOk prog w T lv h → Post T H₀ s₀ H s →
        (∀ r pa' pt' pi' H' s', (∀ O, Agr pa' pt' pi' O → Good F O (run (ev prog w tt O) n hs (back r) ⟨H', pa'.length, pt'.length, pi'.length⟩)) → Post T H₀ s₀ H' s' → wpAny (model prog w) A (k r) Q' Er' s') →
        (∀ O, Agr pa pt pi O → Good F O (gO (h c H) fun o => (run (ev prog w tt O) n hs (back (o.res (takeN O.addr pa.length o.nA) (takeN O.tok pt.length o.nT) (takeN O.fr pi.length o.nI)))
              ⟨o.slots (takeN O.addr pa.length o.nA) (takeN O.tok pt.length o.nT) (takeN O.fr pi.length o.nI), pa.length + o.nA, pt.length + o.nT, pi.length + o.nI⟩).more o.eqs o.eqc o.eqh o.conds)) → wpAny (model prog w) A (.call c none g l k) Q' Er' s := by
      intro β A c g l k Q' Er' hs h pa pt pi H s back hA hh hp hk hg
      obtain ⟨o, e, h0⟩ := good_gO F (hg _ (agr_some pa pt pi))
      · have k0 := good_more F h0
        refine hh c H o e ⟨k0.1, k0.2.1, k0.2.2.1, k0.2.2.2.1⟩ _ s hA hp.sat _ k g l Q' Er' ?_
        rintro r s' ⟨as, ts, is, la, lt, li, rfl, hp'⟩
        refine hk _ (pa ++ as) (pt ++ ts) (pi ++ is) _ s' (fun O ho => ?_) (hp.trans hp')
        obtain ⟨h1, h2, h3, h4⟩ := ho.of_append
        have hge := good_gOe F e (hg O h1)
        have := (good_more F hge).2.2.2.2
        rw [← la, ← lt, ← li, h2, h3, h4] at this
        rw [List.length_append, List.length_append, List.length_append]
        exact this
    -- one that says more
    have sumP : ∀ {β : Type} {A : Around} {c : Code} {g : Bool} {l : List Value} {k : Result → Sem β} {Q' : β → Shared → Prop} {Er' : Value → Shared → Prop} {hs : List Hint} {h : HandlerP} {pa pt : List Nat} {pi : List FrX} {H : List Slot} {s : Shared}
        (back : Result → Cfg α), OkA lv A → HOkP prog w T lv h → Post T H₀ s₀ H s →
        (∀ r pa' pt' pi' H' s', (∀ O, Agr pa' pt' pi' O → Good F O (run (ev prog w tt O) n hs (back r) ⟨H', pa'.length, pt'.length, pi'.length⟩)) → Post T H₀ s₀ H' s' → wpAny (model prog w) A (k r) Q' Er' s') →
        (∀ O, Agr pa pt pi O → Good F O (gO (h c H) fun o => (run (ev prog w tt O) n hs (back (o.out.res (takeN O.addr pa.length o.out.nA) (takeN O.tok pt.length o.out.nT) (takeN O.fr pi.length o.out.nI)))
              ⟨o.out.slots (takeN O.addr pa.length o.out.nA) (takeN O.tok pt.length o.out.nT) (takeN O.fr pi.length o.out.nI), pa.length + o.out.nA, pt.length + o.out.nT, pi.length + o.out.nI⟩).moreP o.out.eqs o.out.eqc o.out.eqh o.out.conds
              (o.post (takeN O.addr pa.length o.out.nA) (takeN O.tok pt.length o.out.nT) (takeN O.fr pi.length o.out.nI)))) → wpAny (model prog w) A (.call c none g l k) Q' Er' s := by
      intro β A c g l k Q' Er' hs h pa pt pi H s back hA hh hp hk hg
      obtain ⟨o, e, h0⟩ := good_gO F (hg _ (agr_some pa pt pi))
      · have k0 := good_moreP F h0
        refine hh c H o e ⟨k0.1, k0.2.1, k0.2.2.1, k0.2.2.2.1⟩ _ s hA hp.sat _ k g l Q' Er' ?_
        rintro r s' ⟨as, ts, is, la, lt, li, rfl, hpo, hp'⟩
        refine hk _ (pa ++ as) (pt ++ ts) (pi ++ is) _ s' (fun O ho => ?_) (hp.trans hp')
        obtain ⟨h1, h2, h3, h4⟩ := ho.of_append
        have hge := good_gOe F e (hg O h1)
        have := (good_moreP F hge).2.2.2.2
        rw [← la, ← lt, ← li, h2, h3, h4] at this
        rw [List.length_append, List.length_append, List.length_append]
        exact this hpo
    refine ⟨fun hs hok hokp t pa pt pi H s hg hp => ?_, fun hs hok hokp t ks b pa pt pi H s A R c hg hp hret hks hc => ?_⟩
    · -- the root
      refine node_sound prog w T F tt hT (go := fun O hs t s => run (ev prog w tt O) n hs (.root t) s) (leaf := fun O _ => ⟨[], [], [], [], [], some (t, H)⟩)
        (call := fun O hs c k => onCall (ev prog w tt O) (run (ev prog w tt O) n) hs c ⟨H, pa.length, pt.length, pi.length⟩ (fun r => .root (k r)) (fun t => .sub t [] k) true)
        hA₀.handled (fun hs' t' pa' pt' pi' H' s' hsub hg' hp' => ih.1 hs' (fun h hm => hok h (hsub hm)) (fun h hm => hokp h (hsub hm)) t' pa' pt' pi' H' s' hg' hp') (fun hl => ?_) (fun c k g l hgc => ?_) hg hp
      · obtain ⟨_, _, _, _, t', H', e, hf⟩ := hl _ (agr_some pa pt pi)
        cases e
        have q := hF _ _ _ _ (hf fun p hp => by cases hp) hp
        exact ⟨fun a ea => by subst ea; exact x_pure (q.1 a rfl), fun e ee => by subst ee; exact x_raise (q.2 e rfl)⟩
      · cases hs with
        | nil => exact (good_bad F (hgc _ (agr_some pa pt pi))).elim
        | cons hd hs =>
          cases hd with
          | top => exact (good_bad F (hgc _ (agr_some pa pt pi))).elim
          | slot j => exact (good_bad F (hgc _ (agr_some pa pt pi))).elim
          | call =>
            exact call_in prog w (ih.2 hs (fun h hm => hok h (.tail _ hm)) (fun h hm => hokp h (.tail _ hm)) (denoteZ c) [] k pa pt pi H s (A₀.mark none) _ c (fun O ho => (good_gT F (good_gT F (hgc O ho)).2).2) hp
              (.base (by show (none : Option Value).or A₀.handled = none; rw [hA₀.handled]; rfl) (Nat.le_refl _) (Nat.le_refl _) (fun r s' h => h)) (Nat.zero_le _) (good_gT F (hgc _ (agr_some pa pt pi))).1)
          | sum h =>
            exact sumS (fun r => .root (k r)) hA₀.ok (hok h (.head _)) hp (fun r pa' pt' pi' H' s' hg' hp' => ih.1 hs (fun h hm => hok h (.tail _ hm)) (fun h hm => hokp h (.tail _ hm)) (k r) pa' pt' pi' H' s' hg' hp') hgc
          | sump h =>
            exact sumP (fun r => .root (k r)) hA₀.ok (hokp h (.head _)) hp (fun r pa' pt' pi' H' s' hg' hp' => ih.1 hs (fun h hm => hok h (.tail _ hm)) (fun h hm => hokp h (.tail _ hm)) (k r) pa' pt' pi' H' s' hg' hp') hgc
    · -- within a call
      have bd := hret.bounds
      have hw := okCode_weight hc
      have hu := cUnits_le c
      have hAu : OkA lv (A.under c) := ⟨bd.1, by rw [under_depth]; have := hA₀.depth; lia, by rw [under_units]; have := hA₀.units; lia⟩
      -- back to the caller
      have back : ∀ (r : Result), (∀ O, Agr pa pt pi O → Good F O (run (ev prog w tt O) n hs (retTo r ks b) ⟨H, pa.length, pt.length, pi.length⟩)) → R r s := by
        intro r hgr
        cases hret with
        | base h1 h2 h3 hr => exact hr r s (ih.1 hs hok hokp (b r) pa pt pi H s hgr hp)
        | cons h hc1 h1 h2 h3 hr => exact hr r s (ih.2 hs hok hokp _ _ b pa pt pi H s _ _ _ hgr hp h (by simp only [List.length_cons] at hks; lia) hc1)
      refine node_sound prog w T F tt hT (go := fun O hs t s => run (ev prog w tt O) n hs (.sub t ks b) s) (leaf := fun O _ => subLeaf (run (ev prog w tt O) n) hs t ks b ⟨H, pa.length, pt.length, pi.length⟩)
        (call := fun O hs c k => onCall (ev prog w tt O) (run (ev prog w tt O) n) hs c ⟨H, pa.length, pt.length, pi.length⟩ (fun r => .sub (k r) ks b) (fun t => .sub t (k :: ks) b) (few ks))
        hAu.handled (fun hs' t' pa' pt' pi' H' s' hsub hg' hp' => ih.2 hs' (fun h hm => hok h (hsub hm)) (fun h hm => hokp h (hsub hm)) t' ks b pa' pt' pi' H' s' A R c hg' hp' hret hks hc) (fun hl => ?_) (fun c' k g l hgc => ?_) hg hp
      · refine ⟨fun a ea => ?_, fun e ee => ?_⟩
        · subst ea
          cases a with
          | done f => exact x_pure (back (.ok f) hl)
          | again c' =>
            have h1 := good_gT F (hl _ (agr_some pa pt pi))
            refine x_pure ⟨h1.1, x_code ?_⟩
            rw [denoteZ_eq]
            exact ih.2 hs hok hokp (denoteZ c') ks b pa pt pi H s A R c' (fun O ho => (good_gT F (good_gT F (hl O ho)).2).2) hp hret hks (good_gT F h1.2).1
        · subst ee
          exact x_raise (back (.error e) hl)
      · cases hs with
        | nil => exact (good_bad F (hgc _ (agr_some pa pt pi))).elim
        | cons hd hs =>
          cases hd with
          | top => exact (good_bad F (hgc _ (agr_some pa pt pi))).elim
          | slot j => exact (good_bad F (hgc _ (agr_some pa pt pi))).elim
          | call =>
            have h1 := good_gT F (hgc _ (agr_some pa pt pi))
            exact call_in prog w (ih.2 hs (fun h hm => hok h (.tail _ hm)) (fun h hm => hokp h (.tail _ hm)) (denoteZ c') (k :: ks) b pa pt pi H s ((A.under c).mark none) _ c' (fun O ho => (good_gT F (good_gT F (hgc O ho)).2).2) hp
              (.cons hret hc (by show (none : Option Value).or (A.under c).handled = none; rw [hAu.handled]; rfl) (Nat.le_refl _) (Nat.le_refl _) (fun r s' h => h)) (Nat.succ_le_succ (few_le (good_gT F h1.2).1)) h1.1)
          | sum h =>
            exact sumS (fun r => .sub (k r) ks b) hAu (hok h (.head _)) hp (fun r pa' pt' pi' H' s' hg' hp' => ih.2 hs (fun h hm => hok h (.tail _ hm)) (fun h hm => hokp h (.tail _ hm)) (k r) ks b pa' pt' pi' H' s' A R c hg' hp' hret hks hc) hgc
          | sump h =>
            exact sumP (fun r => .sub (k r) ks b) hAu (hokp h (.head _)) hp (fun r pa' pt' pi' H' s' hg' hp' => ih.2 hs (fun h hm => hok h (.tail _ hm)) (fun h hm => hokp h (.tail _ hm)) (k r) ks b pa' pt' pi' H' s' A R c hg' hp' hret hks hc) hgc
end
end Mine
namespace Mine
open PySem PySem.W
theorem nm0 : Str.ofString "__name__" = ⟨#[95, 95, 110, 97, 109, 101, 95, 95]⟩ := rfl
theorem nm1 : Str.ofString "cpy313.bisect" = ⟨#[99, 112, 121, 51, 49, 51, 46, 98, 105, 115, 101, 99, 116]⟩ := rfl
theorem nm2 : Str.ofString "insort_right" = ⟨#[105, 110, 115, 111, 114, 116, 95, 114, 105, 103, 104, 116]⟩ := rfl
theorem nm3 : Str.ofString "a" = ⟨#[97]⟩ := rfl
theorem nm4 : Str.ofString "x" = ⟨#[120]⟩ := rfl
theorem nm5 : Str.ofString "lo" = ⟨#[108, 111]⟩ := rfl
theorem nm6 : Str.ofString "hi" = ⟨#[104, 105]⟩ := rfl
theorem nm7 : Str.ofString "key" = ⟨#[107, 101, 121]⟩ := rfl
theorem nm8 : Str.ofString "bisect_right" = ⟨#[98, 105, 115, 101, 99, 116, 95, 114, 105, 103, 104, 116]⟩ := rfl
theorem nm9 : Str.ofString "insert" = ⟨#[105, 110, 115, 101, 114, 116]⟩ := rfl
theorem nm10 : Str.ofString "ValueError" = ⟨#[86, 97, 108, 117, 101, 69, 114, 114, 111, 114]⟩ := rfl
theorem nm11 : Str.ofString "lo must be non-negative" = ⟨#[108, 111, 32, 109, 117, 115, 116, 32, 98, 101, 32, 110, 111, 110, 45, 110, 101, 103, 97, 116, 105, 118, 101]⟩ := rfl
theorem nm12 : Str.ofString "len" = ⟨#[108, 101, 110]⟩ := rfl
theorem nm13 : Str.ofString "mid" = ⟨#[109, 105, 100]⟩ := rfl
theorem nm14 : Str.ofString "cpy313.heapq" = ⟨#[99, 112, 121, 51, 49, 51, 46, 104, 101, 97, 112, 113]⟩ := rfl
theorem nm15 : Str.ofString "heappop" = ⟨#[104, 101, 97, 112, 112, 111, 112]⟩ := rfl
theorem nm16 : Str.ofString "heap" = ⟨#[104, 101, 97, 112]⟩ := rfl
theorem nm17 : Str.ofString "lastelt" = ⟨#[108, 97, 115, 116, 101, 108, 116]⟩ := rfl
theorem nm18 : Str.ofString "pop" = ⟨#[112, 111, 112]⟩ := rfl
theorem nm19 : Str.ofString "returnitem" = ⟨#[114, 101, 116, 117, 114, 110, 105, 116, 101, 109]⟩ := rfl
theorem nm20 : Str.ofString "_siftup" = ⟨#[95, 115, 105, 102, 116, 117, 112]⟩ := rfl
theorem nm21 : Str.ofString "heapify" = ⟨#[104, 101, 97, 112, 105, 102, 121]⟩ := rfl
theorem nm22 : Str.ofString "n" = ⟨#[110]⟩ := rfl
theorem nm23 : Str.ofString "i" = ⟨#[105]⟩ := rfl
theorem nm24 : Str.ofString "reversed" = ⟨#[114, 101, 118, 101, 114, 115, 101, 100]⟩ := rfl
theorem nm25 : Str.ofString "range" = ⟨#[114, 97, 110, 103, 101]⟩ := rfl
theorem nm26 : Str.ofString "_siftdown" = ⟨#[95, 115, 105, 102, 116, 100, 111, 119, 110]⟩ := rfl
theorem nm27 : Str.ofString "startpos" = ⟨#[115, 116, 97, 114, 116, 112, 111, 115]⟩ := rfl
theorem nm28 : Str.ofString "pos" = ⟨#[112, 111, 115]⟩ := rfl
theorem nm29 : Str.ofString "newitem" = ⟨#[110, 101, 119, 105, 116, 101, 109]⟩ := rfl
theorem nm30 : Str.ofString "parentpos" = ⟨#[112, 97, 114, 101, 110, 116, 112, 111, 115]⟩ := rfl
theorem nm31 : Str.ofString "parent" = ⟨#[112, 97, 114, 101, 110, 116]⟩ := rfl
theorem nm32 : Str.ofString "endpos" = ⟨#[101, 110, 100, 112, 111, 115]⟩ := rfl
theorem nm33 : Str.ofString "childpos" = ⟨#[99, 104, 105, 108, 100, 112, 111, 115]⟩ := rfl
theorem nm34 : Str.ofString "rightpos" = ⟨#[114, 105, 103, 104, 116, 112, 111, 115]⟩ := rfl
theorem nm35 : Str.ofString "cpy313.netrc" = ⟨#[99, 112, 121, 51, 49, 51, 46, 110, 101, 116, 114, 99]⟩ := rfl
theorem nm36 : Str.ofString "_netrclex" = ⟨#[95, 110, 101, 116, 114, 99, 108, 101, 120]⟩ := rfl
theorem nm37 : Str.ofString "__init__" = ⟨#[95, 95, 105, 110, 105, 116, 95, 95]⟩ := rfl
theorem nm38 : Str.ofString "self" = ⟨#[115, 101, 108, 102]⟩ := rfl
theorem nm39 : Str.ofString "fp" = ⟨#[102, 112]⟩ := rfl
theorem nm40 : Str.ofString "lineno" = ⟨#[108, 105, 110, 101, 110, 111]⟩ := rfl
theorem nm41 : Str.ofString "instream" = ⟨#[105, 110, 115, 116, 114, 101, 97, 109]⟩ := rfl
theorem nm42 : Str.ofString "whitespace" = ⟨#[119, 104, 105, 116, 101, 115, 112, 97, 99, 101]⟩ := rfl
theorem nm43 : Str.ofString "\n\t\r " = ⟨#[10, 9, 13, 32]⟩ := rfl
theorem nm44 : Str.ofString "pushback" = ⟨#[112, 117, 115, 104, 98, 97, 99, 107]⟩ := rfl
theorem nm45 : Str.ofString "_read_char" = ⟨#[95, 114, 101, 97, 100, 95, 99, 104, 97, 114]⟩ := rfl
theorem nm46 : Str.ofString "ch" = ⟨#[99, 104]⟩ := rfl
theorem nm47 : Str.ofString "read" = ⟨#[114, 101, 97, 100]⟩ := rfl
theorem nm48 : Str.ofString "\n" = ⟨#[10]⟩ := rfl
theorem nm49 : Str.ofString "get_token" = ⟨#[103, 101, 116, 95, 116, 111, 107, 101, 110]⟩ := rfl
theorem nm50 : Str.ofString "token" = ⟨#[116, 111, 107, 101, 110]⟩ := rfl
theorem nm51 : Str.ofString "" = ⟨#[]⟩ := rfl
theorem nm52 : Str.ofString "fiter" = ⟨#[102, 105, 116, 101, 114]⟩ := rfl
theorem nm53 : Str.ofString "iter" = ⟨#[105, 116, 101, 114]⟩ := rfl
theorem nm54 : Str.ofString "\"" = ⟨#[34]⟩ := rfl
theorem nm55 : Str.ofString "\\" = ⟨#[92]⟩ := rfl
theorem nm56 : Str.ofString "push_token" = ⟨#[112, 117, 115, 104, 95, 116, 111, 107, 101, 110]⟩ := rfl
theorem nm57 : Str.ofString "append" = ⟨#[97, 112, 112, 101, 110, 100]⟩ := rfl
theorem nm58 : Str.ofString "law_qu0025_01" = ⟨#[108, 97, 119, 95, 113, 117, 48, 48, 50, 53, 95, 48, 49]⟩ := rfl
theorem nm59 : Str.ofString "_law_lexer" = ⟨#[95, 108, 97, 119, 95, 108, 101, 120, 101, 114]⟩ := rfl
theorem nm60 : Str.ofString "text" = ⟨#[116, 101, 120, 116]⟩ := rfl
theorem nm61 : Str.ofString "signs" = ⟨#[115, 105, 103, 110, 115]⟩ := rfl
theorem nm62 : Str.ofString "list" = ⟨#[108, 105, 115, 116]⟩ := rfl
theorem nm63 : Str.ofString "reverse" = ⟨#[114, 101, 118, 101, 114, 115, 101]⟩ := rfl
theorem nm64 : Str.ofString "stream" = ⟨#[115, 116, 114, 101, 97, 109]⟩ := rfl
theorem nm65 : Str.ofString "size" = ⟨#[115, 105, 122, 101]⟩ := rfl
theorem nm66 : Str.ofString "_law_written" = ⟨#[95, 108, 97, 119, 95, 119, 114, 105, 116, 116, 101, 110]⟩ := rfl
theorem nm67 : Str.ofString "box" = ⟨#[98, 111, 120]⟩ := rfl
theorem nm68 : Str.ofString "bare" = ⟨#[98, 97, 114, 101]⟩ := rfl
theorem nm69 : Str.ofString " " = ⟨#[32]⟩ := rfl
theorem nm70 : Str.ofString "replace" = ⟨#[114, 101, 112, 108, 97, 99, 101]⟩ := rfl
theorem nm71 : Str.ofString "\\\\" = ⟨#[92, 92]⟩ := rfl
theorem nm72 : Str.ofString "\\\"" = ⟨#[92, 34]⟩ := rfl
theorem nm73 : Str.ofString "_law_led" = ⟨#[95, 108, 97, 119, 95, 108, 101, 100]⟩ := rfl
theorem nm74 : Str.ofString "line" = ⟨#[108, 105, 110, 101]⟩ := rfl
theorem nm75 : Str.ofString "carrier" = ⟨#[99, 97, 114, 114, 105, 101, 114]⟩ := rfl
theorem nm76 : Str.ofString "boxes" = ⟨#[98, 111, 120, 101, 115]⟩ := rfl
theorem nm77 : Str.ofString "here" = ⟨#[104, 101, 114, 101]⟩ := rfl
theorem nm78 : Str.ofString "place" = ⟨#[112, 108, 97, 99, 101]⟩ := rfl
theorem nm79 : Str.ofString "_law_leapt" = ⟨#[95, 108, 97, 119, 95, 108, 101, 97, 112, 116]⟩ := rfl
theorem nm80 : Str.ofString "strip" = ⟨#[115, 116, 114, 105, 112]⟩ := rfl
theorem nm81 : Str.ofString "balls" = ⟨#[98, 97, 108, 108, 115]⟩ := rfl
theorem nm82 : Str.ofString "k" = ⟨#[107]⟩ := rfl
theorem nm83 : Str.ofString ".0" = ⟨#[46, 48]⟩ := rfl
theorem nm84 : Str.ofString "colour" = ⟨#[99, 111, 108, 111, 117, 114]⟩ := rfl
theorem nm85 : Str.ofString "spot" = ⟨#[115, 112, 111, 116]⟩ := rfl
theorem nm86 : Str.ofString "fast" = ⟨#[102, 97, 115, 116]⟩ := rfl
theorem nm87 : Str.ofString "_law_table" = ⟨#[95, 108, 97, 119, 95, 116, 97, 98, 108, 101]⟩ := rfl
theorem nm88 : Str.ofString "table" = ⟨#[116, 97, 98, 108, 101]⟩ := rfl
theorem nm89 : Str.ofString "ball" = ⟨#[98, 97, 108, 108]⟩ := rfl
theorem nm90 : Str.ofString "row" = ⟨#[114, 111, 119]⟩ := rfl
theorem nm91 : Str.ofString "law" = ⟨#[108, 97, 119]⟩ := rfl
theorem nm92 : Str.ofString "script" = ⟨#[115, 99, 114, 105, 112, 116]⟩ := rfl
theorem nm93 : Str.ofString "told" = ⟨#[116, 111, 108, 100]⟩ := rfl
theorem nm94 : Str.ofString "turn" = ⟨#[116, 117, 114, 110]⟩ := rfl
theorem nm95 : Str.ofString "due" = ⟨#[100, 117, 101]⟩ := rfl
theorem nm96 : Str.ofString "join" = ⟨#[106, 111, 105, 110]⟩ := rfl
theorem nm97 : Str.ofString "count" = ⟨#[99, 111, 117, 110, 116]⟩ := rfl
theorem nm98 : Str.ofString "/claim/cut.py" = ⟨#[47, 99, 108, 97, 105, 109, 47, 99, 117, 116, 46, 112, 121]⟩ := rfl
set_option maxHeartbeats 0 in
noncomputable def pg : {p : List Stmt // PySem.Challenge.pw_qu0025_01.main.body = p} := ⟨_, by
  dsimp only [PySem.Challenge.pw_qu0025_01, nm0, nm1, nm2, nm3, nm4, nm5, nm6, nm7, nm8, nm9, nm10, nm11, nm12, nm13, nm14, nm15, nm16, nm17, nm18, nm19, nm20, nm21, nm22, nm23, nm24, nm25, nm26, nm27, nm28, nm29, nm30, nm31, nm32, nm33, nm34, nm35, nm36, nm37, nm38, nm39, nm40, nm41, nm42, nm43, nm44, nm45, nm46, nm47, nm48, nm49, nm50, nm51, nm52, nm53, nm54, nm55, nm56, nm57, nm58, nm59, nm60, nm61, nm62, nm63, nm64, nm65, nm66, nm67, nm68, nm69, nm70, nm71, nm72, nm73, nm74, nm75, nm76, nm77, nm78, nm79, nm80, nm81, nm82, nm83, nm84, nm85, nm86, nm87, nm88, nm89, nm90, nm91, nm92, nm93, nm94, nm95, nm96, nm97, nm98]⟩
/-- params with the two rows of the reading said -/
noncomputable def mkP (P : Params) (b1 b2 : Bool) : Params := { P with followText := fun s => match S.eqLit 2510650655181157320538776789020469319833841985448949215332 s with
  | true => b1
  | false => match S.eqLit 10139888712337904147300001983332972444938612 s with
    | true => b2
    | false => P.followText s }
/-- the parts of a statement: expressions, blocks -/
noncomputable def sV : Stmt → List PySem.Expr × List (List Stmt) × Arguments × Scope
  | .For t i b _ _ => ([t, i], [b], default, default)
  | .While t b _ _ => ([t], [b], default, default)
  | .If t b e _ => ([t], [b, e], default, default)
  | .FunctionDef _ a b _ _ _ s _ _ _ => ([], [b], a, s)
  | .ClassDef _ _ _ b _ _ _ _ _ _ _ => ([], [b], default, default)
  | .Assign _ v _ => ([v], [], default, default)
  | .Return (some e) _ => ([e], [], default, default)
  | _ => ([], [], default, default)
/-- the parts of an expression -/
noncomputable def xV : PySem.Expr → List PySem.Expr × Arguments × Scope
  | .Compare l _ rs _ => (l :: rs, default, default)
  | .BoolOp _ xs _ => (xs, default, default)
  | .UnaryOp _ x _ => ([x], default, default)
  | .BinOp l _ r _ => ([l, r], default, default)
  | .Call f xs _ _ => (f :: xs, default, default)
  | .Attribute o _ _ => ([o], default, default)
  | .ListComp _ _ s _ => ([], default, s)
  | .Lambda a b s _ => ([b], a, s)
  | _ => ([], default, default)
noncomputable def st (i : Nat) : Stmt := pg.1.getD i default
noncomputable def ct (i : Nat) : Stmt := ((sV (st 9)).2.1.getD 0 []).getD i default
noncomputable def fnP (s : Stmt) : Arguments := (sV s).2.2.1
noncomputable def fnB (s : Stmt) : List Stmt := ((sV s).2.1.getD 0 [])
noncomputable def fnS (s : Stmt) : Scope := (sV s).2.2.2
noncomputable def to0 (P : Params) : Obj := ⟨(.type "dict"), none, (.dict #[⟨PyData.keyHash P s___name__, (.str s___name__ 1), (.str ⟨#[98, 117, 105, 108, 116, 105, 110, 115]⟩ 160)⟩, ⟨PyData.keyHash P s___doc__, (.str s___doc__ 2), (.builtin "builtins.__doc__:str#opaque")⟩, ⟨PyData.keyHash P s___package__, (.str s___package__ 3), (.builtin "builtins.__package__:str#opaque")⟩, ⟨PyData.keyHash P s___loader__, (.str s___loader__ 4), (.builtin "builtins.__loader__:shared#opaque")⟩, ⟨PyData.keyHash P s___spec__, (.str s___spec__ 5), (.builtin "builtins.__spec__#opaque")⟩, ⟨PyData.keyHash P s___build_class__, (.str s___build_class__ 6), (.builtin "__build_class__")⟩, ⟨PyData.keyHash P s___import__, (.str s___import__ 7), (.builtin "__import__")⟩, ⟨PyData.keyHash P s_abs, (.str s_abs 8), (.builtin "abs")⟩, ⟨PyData.keyHash P s_all, (.str s_all 9), (.builtin "all")⟩, ⟨PyData.keyHash P s_any, (.str s_any 10), (.builtin "any")⟩, ⟨PyData.keyHash P s_ascii, (.str s_ascii 11), (.builtin "ascii")⟩, ⟨PyData.keyHash P s_bin, (.str s_bin 12), (.builtin "bin")⟩, ⟨PyData.keyHash P s_breakpoint, (.str s_breakpoint 13), (.builtin "breakpoint")⟩, ⟨PyData.keyHash P s_callable, (.str s_callable 14), (.builtin "callable")⟩, ⟨PyData.keyHash P s_chr, (.str s_chr 15), (.builtin "chr")⟩, ⟨PyData.keyHash P s_compile, (.str s_compile 16), (.builtin "compile")⟩, ⟨PyData.keyHash P s_delattr, (.str s_delattr 17), (.builtin "delattr")⟩, ⟨PyData.keyHash P s_dir, (.str s_dir 18), (.builtin "dir")⟩, ⟨PyData.keyHash P s_divmod, (.str s_divmod 19), (.builtin "divmod")⟩, ⟨PyData.keyHash P s_eval, (.str s_eval 20), (.builtin "eval")⟩, ⟨PyData.keyHash P s_exec, (.str s_exec 21), (.builtin "exec")⟩, ⟨PyData.keyHash P s_format, (.str s_format 22), (.builtin "format")⟩, ⟨PyData.keyHash P s_getattr, (.str s_getattr 23), (.builtin "getattr")⟩, ⟨PyData.keyHash P s_globals, (.str s_globals 24), (.builtin "globals")⟩, ⟨PyData.keyHash P s_hasattr, (.str s_hasattr 25), (.builtin "hasattr")⟩, ⟨PyData.keyHash P s_hash, (.str s_hash 26), (.builtin "hash")⟩, ⟨PyData.keyHash P s_hex, (.str s_hex 27), (.builtin "hex")⟩, ⟨PyData.keyHash P s_id, (.str s_id 28), (.builtin "id")⟩, ⟨PyData.keyHash P s_input, (.str s_input 29), (.builtin "input")⟩, ⟨PyData.keyHash P s_isinstance, (.str s_isinstance 30), (.builtin "isinstance")⟩, ⟨PyData.keyHash P s_issubclass, (.str s_issubclass 31), (.builtin "issubclass")⟩, ⟨PyData.keyHash P s_iter, (.str s_iter 32), (.builtin "iter")⟩, ⟨PyData.keyHash P s_aiter, (.str s_aiter 33), (.builtin "aiter")⟩, ⟨PyData.keyHash P s_len, (.str s_len 34), (.builtin "len")⟩, ⟨PyData.keyHash P s_locals, (.str s_locals 35), (.builtin "locals")⟩, ⟨PyData.keyHash P s_max, (.str s_max 36), (.builtin "max")⟩, ⟨PyData.keyHash P s_min, (.str s_min 37), (.builtin "min")⟩, ⟨PyData.keyHash P s_next, (.str s_next 38), (.builtin "next")⟩, ⟨PyData.keyHash P s_anext, (.str s_anext 39), (.builtin "anext")⟩, ⟨PyData.keyHash P s_oct, (.str s_oct 40), (.builtin "oct")⟩, ⟨PyData.keyHash P s_ord, (.str s_ord 41), (.builtin "ord")⟩, ⟨PyData.keyHash P s_pow, (.str s_pow 42), (.builtin "pow")⟩, ⟨PyData.keyHash P s_print, (.str s_print 43), (.builtin "print")⟩, ⟨PyData.keyHash P s_repr, (.str s_repr 44), (.builtin "repr")⟩, ⟨PyData.keyHash P s_round, (.str s_round 45), (.builtin "round")⟩, ⟨PyData.keyHash P s_setattr, (.str s_setattr 46), (.builtin "setattr")⟩, ⟨PyData.keyHash P s_sorted, (.str s_sorted 47), (.builtin "sorted")⟩, ⟨PyData.keyHash P s_sum, (.str s_sum 48), (.builtin "sum")⟩, ⟨PyData.keyHash P s_vars, (.str s_vars 49), (.builtin "vars")⟩, ⟨PyData.keyHash P s_None, (.str s_None 50), .none⟩, ⟨PyData.keyHash P s_Ellipsis, (.str s_Ellipsis 51), .ellipsis⟩, ⟨PyData.keyHash P s_NotImplemented, (.str s_NotImplemented 52), .notImplemented⟩, ⟨PyData.keyHash P s_False, (.str s_False 53), (.bool false)⟩, ⟨PyData.keyHash P s_True, (.str s_True 54), (.bool true)⟩, ⟨PyData.keyHash P s_bool, (.str s_bool 55), (.type "bool")⟩, ⟨PyData.keyHash P s_memoryview, (.str s_memoryview 56), (.type "memoryview")⟩, ⟨PyData.keyHash P s_bytearray, (.str s_bytearray 57), (.type "bytearray")⟩, ⟨PyData.keyHash P s_bytes, (.str s_bytes 58), (.type "bytes")⟩, ⟨PyData.keyHash P s_classmethod, (.str s_classmethod 59), (.type "classmethod")⟩, ⟨PyData.keyHash P s_complex, (.str s_complex 60), (.type "complex")⟩, ⟨PyData.keyHash P s_dict, (.str s_dict 61), (.type "dict")⟩, ⟨PyData.keyHash P s_enumerate, (.str s_enumerate 62), (.type "enumerate")⟩, ⟨PyData.keyHash P s_filter, (.str s_filter 63), (.type "filter")⟩, ⟨PyData.keyHash P s_float, (.str s_float 64), (.type "float")⟩, ⟨PyData.keyHash P s_frozenset, (.str s_frozenset 65), (.type "frozenset")⟩, ⟨PyData.keyHash P s_property, (.str s_property 66), (.type "property")⟩, ⟨PyData.keyHash P s_int, (.str s_int 67), (.type "int")⟩, ⟨PyData.keyHash P s_list, (.str s_list 68), (.type "list")⟩, ⟨PyData.keyHash P s_map, (.str s_map 69), (.type "map")⟩, ⟨PyData.keyHash P s_object, (.str s_object 70), (.type "object")⟩, ⟨PyData.keyHash P s_range, (.str s_range 71), (.type "range")⟩, ⟨PyData.keyHash P s_reversed, (.str s_reversed 72), (.type "reversed")⟩, ⟨PyData.keyHash P s_set, (.str s_set 73), (.type "set")⟩, ⟨PyData.keyHash P s_slice, (.str s_slice 74), (.type "slice")⟩, ⟨PyData.keyHash P s_staticmethod, (.str s_staticmethod 75), (.type "staticmethod")⟩, ⟨PyData.keyHash P s_str, (.str s_str 76), (.type "str")⟩, ⟨PyData.keyHash P s_super, (.str s_super 77), (.type "super")⟩, ⟨PyData.keyHash P s_tuple, (.str s_tuple 78), (.type "tuple")⟩, ⟨PyData.keyHash P s_type, (.str s_type 79), (.type "type")⟩, ⟨PyData.keyHash P s_zip, (.str s_zip 80), (.type "zip")⟩, ⟨PyData.keyHash P s___debug__, (.str s___debug__ 81), (.bool true)⟩, ⟨PyData.keyHash P s_BaseException, (.str s_BaseException 82), (.type "BaseException")⟩, ⟨PyData.keyHash P s_BaseExceptionGroup, (.str s_BaseExceptionGroup 83), (.type "BaseExceptionGroup")⟩, ⟨PyData.keyHash P s_Exception, (.str s_Exception 84), (.type "Exception")⟩, ⟨PyData.keyHash P s_GeneratorExit, (.str s_GeneratorExit 85), (.type "GeneratorExit")⟩, ⟨PyData.keyHash P s_KeyboardInterrupt, (.str s_KeyboardInterrupt 86), (.type "KeyboardInterrupt")⟩, ⟨PyData.keyHash P s_SystemExit, (.str s_SystemExit 87), (.type "SystemExit")⟩, ⟨PyData.keyHash P s_ArithmeticError, (.str s_ArithmeticError 88), (.type "ArithmeticError")⟩, ⟨PyData.keyHash P s_AssertionError, (.str s_AssertionError 89), (.type "AssertionError")⟩, ⟨PyData.keyHash P s_AttributeError, (.str s_AttributeError 90), (.type "AttributeError")⟩, ⟨PyData.keyHash P s_BufferError, (.str s_BufferError 91), (.type "BufferError")⟩, ⟨PyData.keyHash P s_EOFError, (.str s_EOFError 92), (.type "EOFError")⟩, ⟨PyData.keyHash P s_ImportError, (.str s_ImportError 93), (.type "ImportError")⟩, ⟨PyData.keyHash P s_LookupError, (.str s_LookupError 94), (.type "LookupError")⟩, ⟨PyData.keyHash P s_MemoryError, (.str s_MemoryError 95), (.type "MemoryError")⟩, ⟨PyData.keyHash P s_NameError, (.str s_NameError 96), (.type "NameError")⟩, ⟨PyData.keyHash P s_OSError, (.str s_OSError 97), (.type "OSError")⟩, ⟨PyData.keyHash P s_ReferenceError, (.str s_ReferenceError 98), (.type "ReferenceError")⟩, ⟨PyData.keyHash P s_RuntimeError, (.str s_RuntimeError 99), (.type "RuntimeError")⟩, ⟨PyData.keyHash P s_StopAsyncIteration, (.str s_StopAsyncIteration 100), (.type "StopAsyncIteration")⟩, ⟨PyData.keyHash P s_StopIteration, (.str s_StopIteration 101), (.type "StopIteration")⟩, ⟨PyData.keyHash P s_SyntaxError, (.str s_SyntaxError 102), (.type "SyntaxError")⟩, ⟨PyData.keyHash P s_SystemError, (.str s_SystemError 103), (.type "SystemError")⟩, ⟨PyData.keyHash P s_TypeError, (.str s_TypeError 104), (.type "TypeError")⟩, ⟨PyData.keyHash P s_ValueError, (.str s_ValueError 105), (.type "ValueError")⟩, ⟨PyData.keyHash P s_Warning, (.str s_Warning 106), (.type "Warning")⟩, ⟨PyData.keyHash P s_FloatingPointError, (.str s_FloatingPointError 107), (.type "FloatingPointError")⟩, ⟨PyData.keyHash P s_OverflowError, (.str s_OverflowError 108), (.type "OverflowError")⟩, ⟨PyData.keyHash P s_ZeroDivisionError, (.str s_ZeroDivisionError 109), (.type "ZeroDivisionError")⟩, ⟨PyData.keyHash P s_BytesWarning, (.str s_BytesWarning 110), (.type "BytesWarning")⟩, ⟨PyData.keyHash P s_DeprecationWarning, (.str s_DeprecationWarning 111), (.type "DeprecationWarning")⟩, ⟨PyData.keyHash P s_EncodingWarning, (.str s_EncodingWarning 112), (.type "EncodingWarning")⟩, ⟨PyData.keyHash P s_FutureWarning, (.str s_FutureWarning 113), (.type "FutureWarning")⟩, ⟨PyData.keyHash P s_ImportWarning, (.str s_ImportWarning 114), (.type "ImportWarning")⟩, ⟨PyData.keyHash P s_PendingDeprecationWarning, (.str s_PendingDeprecationWarning 115), (.type "PendingDeprecationWarning")⟩, ⟨PyData.keyHash P s_ResourceWarning, (.str s_ResourceWarning 116), (.type "ResourceWarning")⟩, ⟨PyData.keyHash P s_RuntimeWarning, (.str s_RuntimeWarning 117), (.type "RuntimeWarning")⟩, ⟨PyData.keyHash P s_SyntaxWarning, (.str s_SyntaxWarning 118), (.type "SyntaxWarning")⟩, ⟨PyData.keyHash P s_UnicodeWarning, (.str s_UnicodeWarning 119), (.type "UnicodeWarning")⟩, ⟨PyData.keyHash P s_UserWarning, (.str s_UserWarning 120), (.type "UserWarning")⟩, ⟨PyData.keyHash P s_BlockingIOError, (.str s_BlockingIOError 121), (.type "BlockingIOError")⟩, ⟨PyData.keyHash P s_ChildProcessError, (.str s_ChildProcessError 122), (.type "ChildProcessError")⟩, ⟨PyData.keyHash P s_ConnectionError, (.str s_ConnectionError 123), (.type "ConnectionError")⟩, ⟨PyData.keyHash P s_FileExistsError, (.str s_FileExistsError 124), (.type "FileExistsError")⟩, ⟨PyData.keyHash P s_FileNotFoundError, (.str s_FileNotFoundError 125), (.type "FileNotFoundError")⟩, ⟨PyData.keyHash P s_InterruptedError, (.str s_InterruptedError 126), (.type "InterruptedError")⟩, ⟨PyData.keyHash P s_IsADirectoryError, (.str s_IsADirectoryError 127), (.type "IsADirectoryError")⟩, ⟨PyData.keyHash P s_NotADirectoryError, (.str s_NotADirectoryError 128), (.type "NotADirectoryError")⟩, ⟨PyData.keyHash P s_PermissionError, (.str s_PermissionError 129), (.type "PermissionError")⟩, ⟨PyData.keyHash P s_ProcessLookupError, (.str s_ProcessLookupError 130), (.type "ProcessLookupError")⟩, ⟨PyData.keyHash P s_TimeoutError, (.str s_TimeoutError 131), (.type "TimeoutError")⟩, ⟨PyData.keyHash P s_IndentationError, (.str s_IndentationError 132), (.type "IndentationError")⟩, ⟨PyData.keyHash P s__IncompleteInputError, (.str s__IncompleteInputError 133), (.type "_IncompleteInputError")⟩, ⟨PyData.keyHash P s_IndexError, (.str s_IndexError 134), (.type "IndexError")⟩, ⟨PyData.keyHash P s_KeyError, (.str s_KeyError 135), (.type "KeyError")⟩, ⟨PyData.keyHash P s_ModuleNotFoundError, (.str s_ModuleNotFoundError 136), (.type "ModuleNotFoundError")⟩, ⟨PyData.keyHash P s_NotImplementedError, (.str s_NotImplementedError 137), (.type "NotImplementedError")⟩, ⟨PyData.keyHash P s_PythonFinalizationError, (.str s_PythonFinalizationError 138), (.type "PythonFinalizationError")⟩, ⟨PyData.keyHash P s_RecursionError, (.str s_RecursionError 139), (.type "RecursionError")⟩, ⟨PyData.keyHash P s_UnboundLocalError, (.str s_UnboundLocalError 140), (.type "UnboundLocalError")⟩, ⟨PyData.keyHash P s_UnicodeError, (.str s_UnicodeError 141), (.type "UnicodeError")⟩, ⟨PyData.keyHash P s_BrokenPipeError, (.str s_BrokenPipeError 142), (.type "BrokenPipeError")⟩, ⟨PyData.keyHash P s_ConnectionAbortedError, (.str s_ConnectionAbortedError 143), (.type "ConnectionAbortedError")⟩, ⟨PyData.keyHash P s_ConnectionRefusedError, (.str s_ConnectionRefusedError 144), (.type "ConnectionRefusedError")⟩, ⟨PyData.keyHash P s_ConnectionResetError, (.str s_ConnectionResetError 145), (.type "ConnectionResetError")⟩, ⟨PyData.keyHash P s_TabError, (.str s_TabError 146), (.type "TabError")⟩, ⟨PyData.keyHash P s_UnicodeDecodeError, (.str s_UnicodeDecodeError 147), (.type "UnicodeDecodeError")⟩, ⟨PyData.keyHash P s_UnicodeEncodeError, (.str s_UnicodeEncodeError 148), (.type "UnicodeEncodeError")⟩, ⟨PyData.keyHash P s_UnicodeTranslateError, (.str s_UnicodeTranslateError 149), (.type "UnicodeTranslateError")⟩, ⟨PyData.keyHash P s_ExceptionGroup, (.str s_ExceptionGroup 150), (.type "ExceptionGroup")⟩, ⟨PyData.keyHash P s_EnvironmentError, (.str s_EnvironmentError 151), (.type "OSError")⟩, ⟨PyData.keyHash P s_IOError, (.str s_IOError 152), (.type "OSError")⟩, ⟨PyData.keyHash P s_open, (.str s_open 153), (.builtin "open")⟩, ⟨PyData.keyHash P s_quit, (.str s_quit 154), (.builtin "builtins.quit#opaque")⟩, ⟨PyData.keyHash P s_exit, (.str s_exit 155), (.builtin "builtins.exit#opaque")⟩, ⟨PyData.keyHash P s_copyright, (.str s_copyright 156), (.builtin "builtins.copyright#opaque")⟩, ⟨PyData.keyHash P s_credits, (.str s_credits 157), (.builtin "builtins.credits#opaque")⟩, ⟨PyData.keyHash P s_license, (.str s_license 158), (.builtin "builtins.license#opaque")⟩, ⟨PyData.keyHash P s_help, (.str s_help 159), (.builtin "builtins.help#opaque")⟩] 159), #[]⟩
noncomputable def to2 (P : Params) : Obj := ⟨.none, none, (.dict #[] 0), #[]⟩
noncomputable def to3 (P : Params) : Obj := ⟨(.type "dict"), none, (.dict #[⟨PyData.keyHash P s___name__, (.str s___name__ 165), (.str s_law_qu0025_01 321)⟩, ⟨PyData.keyHash P s___doc__, (.str s___doc__ 166), .none⟩, ⟨PyData.keyHash P s___package__, (.str s___package__ 167), .none⟩, ⟨PyData.keyHash P s___loader__, (.str s___loader__ 168), (.builtin "__main__.__loader__#opaque")⟩, ⟨PyData.keyHash P s___spec__, (.str s___spec__ 169), .none⟩, ⟨PyData.keyHash P s___annotations__, (.str s___annotations__ 170), (.ref 6)⟩, ⟨PyData.keyHash P s___builtins__, (.str s___builtins__ 171), (.ref 4)⟩, ⟨PyData.keyHash P s___file__, (.str s___file__ 173), (.str sx3 172)⟩, ⟨PyData.keyHash P s___cached__, (.str s___cached__ 174), .none⟩, ⟨PyData.keyHash P s_insort_right, (.str s_insort_right 201), (.ref 23)⟩, ⟨PyData.keyHash P s_bisect_right, (.str s_bisect_right 215), (.ref 32)⟩, ⟨PyData.keyHash P s_heappop, (.str s_heappop 226), (.ref 39)⟩, ⟨PyData.keyHash P s_heapify, (.str s_heapify 235), (.ref 46)⟩, ⟨PyData.keyHash P s__siftdown, (.str s__siftdown 247), (.ref 53)⟩, ⟨PyData.keyHash P s__siftup, (.str s__siftup 260), (.ref 60)⟩, ⟨PyData.keyHash P s__netrclex, (.str s__netrclex 320), (.ref 98)⟩, ⟨PyData.keyHash P s__law_lexer, (.str s__law_lexer 331), (.ref 109)⟩, ⟨PyData.keyHash P s__law_written, (.str s__law_written 339), (.ref 116)⟩, ⟨PyData.keyHash P s__law_led, (.str s__law_led 352), (.ref 123)⟩, ⟨PyData.keyHash P s__law_leapt, (.str s__law_leapt 358), (.ref 128)⟩, ⟨PyData.keyHash P s__law_table, (.str s__law_table 369), (.ref 135)⟩, ⟨PyData.keyHash P s_law, (.str s_law 375), (.ref 140)⟩] 22), #[]⟩
noncomputable def to4 (P : Params) : Obj := ⟨(.type "module"), (some 0), .plain, #[]⟩
noncomputable def to15 (P : Params) : Obj := ⟨(.type "tuple"), none, (.seq #[(.int 0 189), .none] 0), #[]⟩
noncomputable def to16 (P : Params) : Obj := ⟨(.type "dict"), none, (.dict #[⟨PyData.keyHash P s_key, (.str s_key 190), .none⟩] 1), #[]⟩
noncomputable def to22 (P : Params) : Obj := ⟨(.type "code"), none, (.fields #[(.str s_insort_right 191), (.str s_insort_right 192), (.str sx3 193), (.int 2 0), (.int 4 0), (.int 0 0), (.int 1 0), (.int 3 0), (.ref 17), (.bool true), (.int 181 0), (.ref 18), .none, (.ref 19), (.ref 20), (.ref 21), (.int 199 0), (.int 2 0), (.str sx3 200)]), #[]⟩
noncomputable def to23 (P : Params) : Obj := ⟨(.type "function"), none, (.func { name := s_insort_right, qualname := s_insort_right, params := fnP (st 1), body := .stmts (fnB (st 1)), scope := fnS (st 1), globals := 3, closure := [], defaults := (.ref 15), kwdefaults := (.ref 16), doc := .none, pyModule := (.str sx18 187), annotations := none, code := (.ref 22), closureTuple := .none, builtins := 0 }), #[]⟩
noncomputable def to24 (P : Params) : Obj := ⟨(.type "tuple"), none, (.seq #[(.int 0 202), .none] 0), #[]⟩
noncomputable def to25 (P : Params) : Obj := ⟨(.type "dict"), none, (.dict #[⟨PyData.keyHash P s_key, (.str s_key 203), .none⟩] 1), #[]⟩
noncomputable def to31 (P : Params) : Obj := ⟨(.type "code"), none, (.fields #[(.str s_bisect_right 204), (.str s_bisect_right 205), (.str sx3 206), (.int 8 0), (.int 4 0), (.int 0 0), (.int 1 0), (.int 3 0), (.ref 26), (.bool true), (.int 181 0), (.ref 27), .none, (.ref 28), (.ref 29), (.ref 30), (.int 213 0), (.int 8 0), (.str sx3 214)]), #[]⟩
noncomputable def to32 (P : Params) : Obj := ⟨(.type "function"), none, (.func { name := s_bisect_right, qualname := s_bisect_right, params := fnP (st 2), body := .stmts (fnB (st 2)), scope := fnS (st 2), globals := 3, closure := [], defaults := (.ref 24), kwdefaults := (.ref 25), doc := .none, pyModule := (.str sx18 187), annotations := none, code := (.ref 31), closureTuple := .none, builtins := 0 }), #[]⟩
noncomputable def to38 (P : Params) : Obj := ⟨(.type "code"), none, (.fields #[(.str s_heappop 218), (.str s_heappop 219), (.str sx3 220), (.int 29 0), (.int 1 0), (.int 0 0), (.int 0 0), (.int 3 0), (.ref 33), (.bool true), (.int 181 0), (.ref 34), .none, (.ref 35), (.ref 36), (.ref 37), (.int 224 0), (.int 29 0), (.str sx3 225)]), #[]⟩
noncomputable def to39 (P : Params) : Obj := ⟨(.type "function"), none, (.func { name := s_heappop, qualname := s_heappop, params := fnP (st 4), body := .stmts (fnB (st 4)), scope := fnS (st 4), globals := 3, closure := [], defaults := .none, kwdefaults := .none, doc := .none, pyModule := (.str sx7 216), annotations := none, code := (.ref 38), closureTuple := .none, builtins := 0 }), #[]⟩
noncomputable def to45 (P : Params) : Obj := ⟨(.type "code"), none, (.fields #[(.str s_heapify 227), (.str s_heapify 228), (.str sx3 229), (.int 37 0), (.int 1 0), (.int 0 0), (.int 0 0), (.int 3 0), (.ref 40), (.bool true), (.int 181 0), (.ref 41), .none, (.ref 42), (.ref 43), (.ref 44), (.int 233 0), (.int 37 0), (.str sx3 234)]), #[]⟩
noncomputable def to46 (P : Params) : Obj := ⟨(.type "function"), none, (.func { name := s_heapify, qualname := s_heapify, params := fnP (st 5), body := .stmts (fnB (st 5)), scope := fnS (st 5), globals := 3, closure := [], defaults := .none, kwdefaults := .none, doc := .none, pyModule := (.str sx7 216), annotations := none, code := (.ref 45), closureTuple := .none, builtins := 0 }), #[]⟩
noncomputable def to52 (P : Params) : Obj := ⟨(.type "code"), none, (.fields #[(.str s__siftdown 236), (.str s__siftdown 237), (.str sx3 238), (.int 41 0), (.int 3 0), (.int 0 0), (.int 0 0), (.int 3 0), (.ref 47), (.bool true), (.int 181 0), (.ref 48), .none, (.ref 49), (.ref 50), (.ref 51), (.int 245 0), (.int 41 0), (.str sx3 246)]), #[]⟩
noncomputable def to53 (P : Params) : Obj := ⟨(.type "function"), none, (.func { name := s__siftdown, qualname := s__siftdown, params := fnP (st 6), body := .stmts (fnB (st 6)), scope := fnS (st 6), globals := 3, closure := [], defaults := .none, kwdefaults := .none, doc := .none, pyModule := (.str sx7 216), annotations := none, code := (.ref 52), closureTuple := .none, builtins := 0 }), #[]⟩
noncomputable def to59 (P : Params) : Obj := ⟨(.type "code"), none, (.fields #[(.str s__siftup 248), (.str s__siftup 249), (.str sx3 250), (.int 52 0), (.int 2 0), (.int 0 0), (.int 0 0), (.int 3 0), (.ref 54), (.bool true), (.int 181 0), (.ref 55), .none, (.ref 56), (.ref 57), (.ref 58), (.int 258 0), (.int 52 0), (.str sx3 259)]), #[]⟩
noncomputable def to60 (P : Params) : Obj := ⟨(.type "function"), none, (.func { name := s__siftup, qualname := s__siftup, params := fnP (st 7), body := .stmts (fnB (st 7)), scope := fnS (st 7), globals := 3, closure := [], defaults := .none, kwdefaults := .none, doc := .none, pyModule := (.str sx7 216), annotations := none, code := (.ref 59), closureTuple := .none, builtins := 0 }), #[]⟩
noncomputable def to73 (P : Params) : Obj := ⟨(.type "code"), none, (.fields #[(.str s___init__ 275), (.str sx19 276), (.str sx3 277), (.int 69 0), (.int 2 0), (.int 0 0), (.int 0 0), (.int 3 0), (.ref 68), (.bool true), (.int 181 0), (.ref 69), .none, (.ref 70), (.ref 71), (.ref 72), (.int 280 0), (.int 69 0), (.str sx3 281)]), #[]⟩
noncomputable def to74 (P : Params) : Obj := ⟨(.type "function"), none, (.func { name := s___init__, qualname := sx19, params := fnP (ct 0), body := .stmts (fnB (ct 0)), scope := fnS (ct 0), globals := 3, closure := [], defaults := .none, kwdefaults := .none, doc := .none, pyModule := (.str sx5 261), annotations := none, code := (.ref 73), closureTuple := .none, builtins := 0 }), #[]⟩
noncomputable def to80 (P : Params) : Obj := ⟨(.type "code"), none, (.fields #[(.str s__read_char 283), (.str sx20 284), (.str sx3 285), (.int 75 0), (.int 1 0), (.int 0 0), (.int 0 0), (.int 3 0), (.ref 75), (.bool true), (.int 181 0), (.ref 76), .none, (.ref 77), (.ref 78), (.ref 79), (.int 288 0), (.int 75 0), (.str sx3 289)]), #[]⟩
noncomputable def to81 (P : Params) : Obj := ⟨(.type "function"), none, (.func { name := s__read_char, qualname := sx20, params := fnP (ct 1), body := .stmts (fnB (ct 1)), scope := fnS (ct 1), globals := 3, closure := [], defaults := .none, kwdefaults := .none, doc := .none, pyModule := (.str sx5 261), annotations := none, code := (.ref 80), closureTuple := .none, builtins := 0 }), #[]⟩
noncomputable def to87 (P : Params) : Obj := ⟨(.type "code"), none, (.fields #[(.str s_get_token 291), (.str sx21 292), (.str sx3 293), (.int 81 0), (.int 1 0), (.int 0 0), (.int 0 0), (.int 3 0), (.ref 82), (.bool true), (.int 181 0), (.ref 83), .none, (.ref 84), (.ref 85), (.ref 86), (.int 298 0), (.int 81 0), (.str sx3 299)]), #[]⟩
noncomputable def to88 (P : Params) : Obj := ⟨(.type "function"), none, (.func { name := s_get_token, qualname := sx21, params := fnP (ct 2), body := .stmts (fnB (ct 2)), scope := fnS (ct 2), globals := 3, closure := [], defaults := .none, kwdefaults := .none, doc := .none, pyModule := (.str sx5 261), annotations := none, code := (.ref 87), closureTuple := .none, builtins := 0 }), #[]⟩
noncomputable def to94 (P : Params) : Obj := ⟨(.type "code"), none, (.fields #[(.str s_push_token 301), (.str sx22 302), (.str sx3 303), (.int 108 0), (.int 2 0), (.int 0 0), (.int 0 0), (.int 3 0), (.ref 89), (.bool true), (.int 181 0), (.ref 90), .none, (.ref 91), (.ref 92), (.ref 93), (.int 306 0), (.int 108 0), (.str sx3 307)]), #[]⟩
noncomputable def to95 (P : Params) : Obj := ⟨(.type "function"), none, (.func { name := s_push_token, qualname := sx22, params := fnP (ct 3), body := .stmts (fnB (ct 3)), scope := fnS (ct 3), globals := 3, closure := [], defaults := .none, kwdefaults := .none, doc := .none, pyModule := (.str sx5 261), annotations := none, code := (.ref 94), closureTuple := .none, builtins := 0 }), #[]⟩
noncomputable def to97 (P : Params) : Obj := ⟨(.type "dict"), none, (.dict #[⟨PyData.keyHash P s___module__, (.str s___module__ 270), (.str sx5 261)⟩, ⟨PyData.keyHash P s___firstlineno__, (.str s___firstlineno__ 274), (.int 67 273)⟩, ⟨PyData.keyHash P s___init__, (.str s___init__ 282), (.ref 74)⟩, ⟨PyData.keyHash P s__read_char, (.str s__read_char 290), (.ref 81)⟩, ⟨PyData.keyHash P s_get_token, (.str s_get_token 300), (.ref 88)⟩, ⟨PyData.keyHash P s_push_token, (.str s_push_token 308), (.ref 95)⟩, ⟨PyData.keyHash P s___static_attributes__, (.str s___static_attributes__ 313), (.ref 96)⟩, ⟨PyData.keyHash P s___dict__, (.str s___dict__ 315), (.ref 99)⟩, ⟨PyData.keyHash P s___weakref__, (.str s___weakref__ 317), (.ref 100)⟩, ⟨PyData.keyHash P s___doc__, (.str s___doc__ 318), .none⟩] 4), #[]⟩
noncomputable def to98 (P : Params) : Obj := ⟨(.type "type"), none, (.cls { name := s__netrclex, bases := [(.type "object")], mro := [(.ref 98), (.type "object")], ns := 97, qualname := s__netrclex }), #[none, none, (some (.str s__netrclex 263)), (some (.str s__netrclex 271)), (some (.builtin "object.__new__")), (some (.bool true))]⟩
noncomputable def to108 (P : Params) : Obj := ⟨(.type "code"), none, (.fields #[(.str s__law_lexer 323), (.str s__law_lexer 324), (.str sx3 325), (.int 111 0), (.int 1 0), (.int 0 0), (.int 0 0), (.int 3 0), (.ref 103), (.bool true), (.int 181 0), (.ref 104), .none, (.ref 105), (.ref 106), (.ref 107), (.int 329 0), (.int 111 0), (.str sx3 330)]), #[]⟩
noncomputable def to109 (P : Params) : Obj := ⟨(.type "function"), none, (.func { name := s__law_lexer, qualname := s__law_lexer, params := fnP (st 11), body := .stmts (fnB (st 11)), scope := fnS (st 11), globals := 3, closure := [], defaults := .none, kwdefaults := .none, doc := .none, pyModule := (.str s_law_qu0025_01 321), annotations := none, code := (.ref 108), closureTuple := .none, builtins := 0 }), #[]⟩
noncomputable def to115 (P : Params) : Obj := ⟨(.type "code"), none, (.fields #[(.str s__law_written 332), (.str s__law_written 333), (.str sx3 334), (.int 117 0), (.int 2 0), (.int 0 0), (.int 0 0), (.int 3 0), (.ref 110), (.bool true), (.int 181 0), (.ref 111), .none, (.ref 112), (.ref 113), (.ref 114), (.int 337 0), (.int 117 0), (.str sx3 338)]), #[]⟩
noncomputable def to116 (P : Params) : Obj := ⟨(.type "function"), none, (.func { name := s__law_written, qualname := s__law_written, params := fnP (st 12), body := .stmts (fnB (st 12)), scope := fnS (st 12), globals := 3, closure := [], defaults := .none, kwdefaults := .none, doc := .none, pyModule := (.str s_law_qu0025_01 321), annotations := none, code := (.ref 115), closureTuple := .none, builtins := 0 }), #[]⟩
noncomputable def to122 (P : Params) : Obj := ⟨(.type "code"), none, (.fields #[(.str s__law_led 340), (.str s__law_led 341), (.str sx3 342), (.int 121 0), (.int 2 0), (.int 0 0), (.int 0 0), (.int 3 0), (.ref 117), (.bool true), (.int 181 0), (.ref 118), .none, (.ref 119), (.ref 120), (.ref 121), (.int 350 0), (.int 121 0), (.str sx3 351)]), #[]⟩
noncomputable def to123 (P : Params) : Obj := ⟨(.type "function"), none, (.func { name := s__law_led, qualname := s__law_led, params := fnP (st 13), body := .stmts (fnB (st 13)), scope := fnS (st 13), globals := 3, closure := [], defaults := .none, kwdefaults := .none, doc := .none, pyModule := (.str s_law_qu0025_01 321), annotations := none, code := (.ref 122), closureTuple := .none, builtins := 0 }), #[]⟩
noncomputable def to127 (P : Params) : Obj := ⟨(.type "code"), none, (.fields #[(.str s__law_leapt 353), (.str s__law_leapt 354), (.str sx3 355), (.int 133 0), (.int 1 0), (.int 0 0), (.int 0 0), (.int 3 0), (.ref 124), (.bool true), (.int 181 0), (.ref 125), .none, .none, .none, (.ref 126), (.int 356 0), (.int 133 0), (.str sx3 357)]), #[]⟩
noncomputable def to128 (P : Params) : Obj := ⟨(.type "function"), none, (.func { name := s__law_leapt, qualname := s__law_leapt, params := fnP (st 14), body := .stmts (fnB (st 14)), scope := fnS (st 14), globals := 3, closure := [], defaults := .none, kwdefaults := .none, doc := .none, pyModule := (.str s_law_qu0025_01 321), annotations := none, code := (.ref 127), closureTuple := .none, builtins := 0 }), #[]⟩
noncomputable def to134 (P : Params) : Obj := ⟨(.type "code"), none, (.fields #[(.str s__law_table 359), (.str s__law_table 360), (.str sx3 361), (.int 145 0), (.int 1 0), (.int 0 0), (.int 0 0), (.int 3 0), (.ref 129), (.bool true), (.int 181 0), (.ref 130), .none, (.ref 131), (.ref 132), (.ref 133), (.int 367 0), (.int 145 0), (.str sx3 368)]), #[]⟩
noncomputable def to135 (P : Params) : Obj := ⟨(.type "function"), none, (.func { name := s__law_table, qualname := s__law_table, params := fnP (st 15), body := .stmts (fnB (st 15)), scope := fnS (st 15), globals := 3, closure := [], defaults := .none, kwdefaults := .none, doc := .none, pyModule := (.str s_law_qu0025_01 321), annotations := none, code := (.ref 134), closureTuple := .none, builtins := 0 }), #[]⟩
noncomputable def to139 (P : Params) : Obj := ⟨(.type "code"), none, (.fields #[(.str s_law 370), (.str s_law 371), (.str sx3 372), (.int 159 0), (.int 1 0), (.int 0 0), (.int 0 0), (.int 3 0), (.ref 136), (.bool true), (.int 181 0), (.ref 137), .none, .none, .none, (.ref 138), (.int 373 0), (.int 159 0), (.str sx3 374)]), #[]⟩
noncomputable def to140 (P : Params) : Obj := ⟨(.type "function"), none, (.func { name := s_law, qualname := s_law, params := fnP (st 16), body := .stmts (fnB (st 16)), scope := fnS (st 16), globals := 3, closure := [], defaults := .none, kwdefaults := .none, doc := .none, pyModule := (.str s_law_qu0025_01 321), annotations := none, code := (.ref 139), closureTuple := .none, builtins := 0 }), #[]⟩
noncomputable def topT (P : Params) : TT := (.node 74 (to74 P) (.node 31 (to31 P) (.node 16 (to16 P) (.node 3 (to3 P) (.node 2 (to2 P) (.node 0 (to0 P) .nil .nil) .nil) (.node 15 (to15 P) (.node 4 (to4 P) .nil .nil) .nil)) (.node 24 (to24 P) (.node 23 (to23 P) (.node 22 (to22 P) .nil .nil) .nil) (.node 25 (to25 P) .nil .nil))) (.node 52 (to52 P) (.node 39 (to39 P) (.node 38 (to38 P) (.node 32 (to32 P) .nil .nil) .nil) (.node 46 (to46 P) (.node 45 (to45 P) .nil .nil) .nil)) (.node 60 (to60 P) (.node 59 (to59 P) (.node 53 (to53 P) .nil .nil) .nil) (.node 73 (to73 P) .nil .nil)))) (.node 115 (to115 P) (.node 95 (to95 P) (.node 87 (to87 P) (.node 81 (to81 P) (.node 80 (to80 P) .nil .nil) .nil) (.node 94 (to94 P) (.node 88 (to88 P) .nil .nil) .nil)) (.node 108 (to108 P) (.node 98 (to98 P) (.node 97 (to97 P) .nil .nil) .nil) (.node 109 (to109 P) .nil .nil))) (.node 128 (to128 P) (.node 123 (to123 P) (.node 122 (to122 P) (.node 116 (to116 P) .nil .nil) .nil) (.node 127 (to127 P) .nil .nil)) (.node 139 (to139 P) (.node 135 (to135 P) (.node 134 (to134 P) .nil .nil) .nil) (.node 140 (to140 P) .nil .nil)))))
noncomputable abbrev eE (prog : Program) (P : Params) (b1 b2 : Bool) (O : Orc) : Env0 := ⟨prog, mkP P b1 b2, topT P, O⟩
end Mine
namespace Mine
open PySem PySem.W PySem.W.X PyProof.Rows
section
variable (prog : Program) (w : World)
/-- from the slots H the code ends, with Φ -/
noncomputable def Tri (lv : Nat) (T : Tops) (c : Code) (H : List Slot) (Φ : Result → List Slot → Prop) : Prop :=
  ∀ A s, OkA lv A → Sat T s H → codeAny (model prog w) A c (fun r s' => ∃ H', Φ r H' ∧ Post T H s H' s') s
theorem Tri.mono {lv lv' : Nat} {T : Tops} {c : Code} {H : List Slot} {Φ Ψ : Result → List Slot → Prop} (h : Tri prog w lv T c H Φ) (hl : lv ≤ lv') (hi : ∀ r H', Φ r H' → Ψ r H') : Tri prog w lv' T c H Ψ :=
  fun A s hA hS => codeAny_mono (h A s (hA.mono hl) hS) fun r s' ⟨H', p, q⟩ => ⟨H', hi r H' p, q⟩
/-- what a run says -/
structure Seg {α : Type} (out : Out α) (cs : List Prop) (t : Sem α) (H' : List Slot) : Prop where
  eqs : out.eqs.map (·.1) = out.eqs.map (·.2)
  eqc : out.eqc.map (·.1) = out.eqc.map (·.2)
  eqh : out.eqh.map (·.1) = out.eqh.map (·.2)
  conds : out.conds = cs
  fin : out.fin = some (t, H')
noncomputable def outL {α : Type} (out : Out α) := (out.eqs.map (·.1), out.eqc.map (·.1), out.eqh.map (·.1), out.conds, out.fin)
noncomputable def outR {α : Type} (out : Out α) (cs : List Prop) (t : Sem α) (H' : List Slot) := (out.eqs.map (·.2), out.eqc.map (·.2), out.eqh.map (·.2), cs, some (t, H'))
theorem sg5 {α : Type} {out : Out α} {cs : List Prop} {t : Sem α} {H' : List Slot} (h : outL out = outR out cs t H') : Seg out cs t H' := by
  unfold outL outR at h
  injection h with h1 h
  injection h with h2 h
  injection h with h3 h
  injection h with h4 h5
  exact ⟨h1, h2, h3, h4, h5⟩
theorem lt5 {P : Nat → Prop} (h0 : P 0) (h1 : P 1) (h2 : P 2) (h3 : P 3) (h4 : P 4) : ∀ k, k < 5 → P k
  | 0, _ => h0
  | 1, _ => h1
  | 2, _ => h2
  | 3, _ => h3
  | 4, _ => h4
  | k + 5, h => absurd h (by lia)
theorem eq_of_maps {β : Type} : ∀ {l : List (β × β)}, l.map (·.1) = l.map (·.2) → ∀ p ∈ l, p.1 = p.2
  | [], _, _, h => by cases h
  | x :: l, h, p, hp => by
    simp only [List.map_cons, List.cons.injEq] at h
    rcases List.mem_cons.mp hp with rfl | hp
    · exact h.1
    · exact eq_of_maps h.2 p hp
theorem Seg.good {α : Type} {F : Orc → Sem α → List Slot → Prop} {O : Orc} {out : Out α} {cs : List Prop} {t : Sem α} {H' : List Slot} (h : Seg out cs t H') (hc : ∀ p ∈ cs, p) (hf : F O t H') : Good F O out :=
  ⟨eq_of_maps h.eqs, eq_of_maps h.eqc, eq_of_maps h.eqh, h.conds ▸ hc, t, H', h.fin, fun _ => hf⟩
/-- what a run says, with what its calls tell -/
structure SegP {α : Type} (out : Out α) (cs ps : List Prop) (t : Sem α) (H' : List Slot) : Prop extends Seg out cs t H' where
  posts : out.posts = ps
theorem SegP.good {α : Type} {F : Orc → Sem α → List Slot → Prop} {O : Orc} {out : Out α} {cs ps : List Prop} {t : Sem α} {H' : List Slot} (h : SegP out cs ps t H') (hc : ∀ p ∈ cs, p) (hf : (∀ p ∈ ps, p) → F O t H') : Good F O out :=
  ⟨eq_of_maps h.eqs, eq_of_maps h.eqc, eq_of_maps h.eqh, h.conds ▸ hc, t, H', h.fin, fun hp => hf (h.posts ▸ hp)⟩
noncomputable def HOks (T : Tops) (lv : Nat) (hs : List Hint) : Prop := (∀ h, Hint.sum h ∈ hs → HOk prog w T lv h) ∧ (∀ h, Hint.sump h ∈ hs → HOkP prog w T lv h)
theorem hoks_call {T : Tops} {lv : Nat} : HOks prog w T lv [.call] := ⟨fun h hm => (by cases hm; rename_i hm; cases hm), fun h hm => (by cases hm; rename_i hm; cases hm)⟩
theorem OkA.under {lv : Nat} {A : Around} {c : Code} (h : OkA (lv + 1) A) (hc : okCode c = true) : OkT lv (A.under c) := by
  have := okCode_weight hc
  have := cUnits_le c
  refine ⟨h.handled, ?_, ?_⟩
  · rw [under_depth]; have := h.depth; lia
  · rw [under_units]; have := h.units; lia
variable {prog w}
/-- a tree by its run -/
theorem wp_run {α : Type} {T : Tops} {tt : TT} (hT : ∀ a o, tt.get a = some o → T a o) {A : Around} {lv : Nat} (hA : OkT lv A) {t : Sem α} {H : List Slot} {s : Shared} (hS : Sat T s H)
    {n : Nat} {hs : List Hint} (hok : HOks prog w T lv hs) {F : Orc → Sem α → List Slot → Prop}
    (hg : ∀ O, Good F O (run ⟨prog, w.params, tt, O⟩ n hs (.root t) ⟨H, 0, 0, 0⟩)) {Q : α → Shared → Prop} {E : Value → Shared → Prop}
    (hF : ∀ O t' H' s', F O t' H' → Post T H s H' s' → (∀ a, t' = .pure a → Q a s') ∧ ∀ e, t' = .raise e → E e s') : wpAny (model prog w) A t Q E s :=
  (run_sound prog w T F tt hT hA hF n).1 hs hok.1 hok.2 t [] [] [] H s (fun O _ => hg O) (Post.refl hS)
/-- a code by its run -/
theorem tri_run {T : Tops} {tt : TT} (hT : ∀ a o, tt.get a = some o → T a o) {lv : Nat} {c : Code} (hc : okCode c = true) {H : List Slot} {Φ : Result → List Slot → Prop}
    {n : Nat} {hs : List Hint} (hok : HOks prog w T lv hs) {F : Orc → Sem Fin → List Slot → Prop}
    (hg : ∀ O, Good F O (run ⟨prog, w.params, tt, O⟩ n hs (.root (denoteZ c)) ⟨H, 0, 0, 0⟩))
    (hF : ∀ O t H', F O t H' → (∃ f, t = .pure (.done f) ∧ Φ (.ok f) H') ∨ (∃ c', t = .pure (.again c') ∧ c'.quiet = true ∧ Tri prog w (lv + 1) T c' H' Φ) ∨ ∃ e, t = .raise e ∧ Φ (.error e) H') :
    Tri prog w (lv + 1) T c H Φ := fun A s hA hS => by
  refine x_code ?_
  rw [denoteZ_eq]
  refine wp_run hT (hA.under hc) hS hok hg fun O t' H' s' hf hp => ⟨fun a e => ?_, fun a e => ?_⟩
  · rcases hF O t' H' hf with ⟨f, e', hΦ⟩ | ⟨c', e', hq, hc'⟩ | ⟨e1, e', hΦ⟩
    · rw [e] at e'; cases e'
      exact ⟨H', hΦ, hp⟩
    · rw [e] at e'; cases e'
      exact ⟨hq, codeAny_mono (hc' A s' hA hp.sat) fun r s2 ⟨H2, p, q⟩ => ⟨H2, p, hp.trans q⟩⟩
    · rw [e] at e'; cases e'
  · rcases hF O t' H' hf with ⟨f, e', hΦ⟩ | ⟨c', e', hq, hc'⟩ | ⟨e1, e', hΦ⟩
    · rw [e] at e'; cases e'
    · rw [e] at e'; cases e'
    · rw [e] at e'; cases e'
      exact ⟨H', hΦ, hp⟩
theorem nolimit {h : Heap} {so : Obj} (h2 : h.get? 2 = some so) (hso : so.data = .dict #[] 0) : h.NoLimit :=
  ⟨fun _ => none, ⟨so, #[], 0, h2, hso, fun e he => by simp at he, fun name => rfl⟩, rfl⟩
noncomputable def preZ (a : Nat) (fd : FuncData) (args : Args) : Sem Env :=
  R.bindR (ZFast.zw9782568553167038054 fd args) fun binds => ZFast.zw11113344188204177931 fd.scope fd.globals fd.closure binds (fd.qualname ++ sx8) (some a) fd.code none fd.builtins
theorem locals_str : (".<locals>." : Str) = sx8 := by kernel_rfl
/-- a call of a def of the program's -/
theorem tri_call {T : Tops} {tt : TT} (hT : ∀ a o, tt.get a = some o → T a o) {lv : Nat} {a : Nat} {args : Args} {o : Obj} {fd : FuncData} {body : List Stmt} {H : List Slot} {Φ : Result → List Slot → Prop}
    (ho : T a o) (hd : o.data = .func fd) (hco : fd.scope.isCoroutine = false) (hgen : fd.scope.isGenerator = false) (hbody : fd.body = .stmts body)
    {ca : Nat} {co : Obj} {vs : Array Value} {tq : Nat} (hcd : fd.code = .ref ca) (hca : T ca co) (hcv : co.data = .fields vs) (hq : vs[1]? = some (.str fd.qualname tq))
    {so : Obj} (h2 : T 2 so) (hso : so.data = .dict #[] 0)
    {n : Nat} {hs : List Hint} (hok : HOks prog w T lv hs) {F : Orc → Sem Env → List Slot → Prop}
    (hg : ∀ O, Good F O (run ⟨prog, w.params, tt, O⟩ n hs (.root (preZ a fd args)) ⟨H, 0, 0, 0⟩))
    (hF : ∀ O t H', F O t H' → ∃ env, t = .pure env ∧ Tri prog w (lv + 1) T (.func body env) H' Φ) : Tri prog w (lv + 1) T (.call (.ref a) args) H Φ := fun A s hA hS => by
  have hT1 : OkT lv A.in1 := ⟨hA.handled, by have := hA.depth; show A.depth + _ + _ ≤ _; lia, by have := hA.units; show A.units + 1 + _ + _ ≤ _; lia⟩
  have key := wp_run (Q := fun env s₂ => s₂.heap.NoLimit ∧ codeAny (model prog w) A (.func body env) (fun r s' => ∃ H', Φ r H' ∧ Post T H s H' s') s₂) (E := fun e s' => ∃ H', Φ (.error e) H' ∧ Post T H s H' s') hT hT1 hS hok hg fun O t' H' s' hf hp => by
    obtain ⟨env, e, htri⟩ := hF O t' H' hf
    refine ⟨fun x hx => ?_, fun x hx => ?_⟩
    · rw [e] at hx; cases hx
      exact ⟨nolimit (hp.sat.top 2 so h2) hso, codeAny_mono (htri A s' hA hp.sat) fun r s2 ⟨H2, p, q⟩ => ⟨H2, p, hp.trans q⟩⟩
    · rw [e] at hx; cases hx
  unfold preZ at key
  rw [← R.bindR_eq, ← ZFast.ze9782568553167038054, ← ZFast.ze11113344188204177931, ← locals_str] at key
  refine codeAny_of_tree ?_
  show wpAny _ A.in1 (callAny (.ref a) args) _ _ s
  simp only [callAny]
  refine wpAny_bind (wpAny_load (hS.top a o ho) ?_)
  simp only [hd, callFunction, hco, hgen, hbody, hcd]
  refine wpAny_bind (m := field (.ref ca) 1) (wpAny_field (hS.top ca co hca) hcv hq (wpAny_bind (wpAny_pure ?_)))
  rw [hcd] at key
  have fin := wpAny_bind (f := fun env => enterFrame >>= fun _ => again (.func body env)) (wpAny_mono (Q' := fun env s' => wpAny (model prog w) A.in1 (enterFrame >>= fun _ => again (.func body env)) (fun fin s' => match fin with
    | .done f => (fun r s' => ∃ H', Φ r H' ∧ Post T H s H' s') (.ok f) s'
    | .again c' => c'.quiet = true ∧ codeAny (model prog w) A c' (fun r s' => ∃ H', Φ r H' ∧ Post T H s H' s') s') (fun e s' => (fun r s' => ∃ H', Φ r H' ∧ Post T H s H' s') (.error e) s') s') key
    (fun env s₂ h₂ => wpAny_bind (wpAny_enterFrame h₂.1 (by have := hA.depth; show A.depth < 1000; lia) (wpAny_pure (And.intro rfl h₂.2)))) fun _ _ h' => h')
  rw [show ∀ (m : Sem (List (Str × Value))) (f : List (Str × Value) → Sem Env) (g : Env → Sem Fin), (Sem.bind m f >>= g) = (m >>= fun x => f x >>= g) from fun m f g => Sem.bind_assoc m f g] at fin
  exact fin
/-- a call of a lambda -/
theorem tri_lam {T : Tops} {tt : TT} (hT : ∀ a o, tt.get a = some o → T a o) {lv : Nat} {a : Nat} {args : Args} {o : Obj} {fd : FuncData} {body : PySem.Expr} {H : List Slot} {Φ : Result → List Slot → Prop}
    (ho : ∀ s, Sat T s H → s.heap.get? a = some o) (hd : o.data = .func fd) (hco : fd.scope.isCoroutine = false) (hgen : fd.scope.isGenerator = false) (hbody : fd.body = .expr body)
    {ca : Nat} {co : Obj} {vs : Array Value} {tq : Nat} (hcd : fd.code = .ref ca) (hca : ∀ s, Sat T s H → s.heap.get? ca = some co) (hcv : co.data = .fields vs) (hq : vs[1]? = some (.str fd.qualname tq))
    {so : Obj} (h2 : T 2 so) (hso : so.data = .dict #[] 0)
    {n : Nat} {hs : List Hint} (hok : HOks prog w T lv hs) {F : Orc → Sem Env → List Slot → Prop}
    (hg : ∀ O, Good F O (run ⟨prog, w.params, tt, O⟩ n hs (.root (preZ a fd args)) ⟨H, 0, 0, 0⟩))
    (hF : ∀ O t H', F O t H' → ∃ env, t = .pure env ∧ Tri prog w (lv + 1) T (.expr body env) H' Φ) : Tri prog w (lv + 1) T (.call (.ref a) args) H Φ := fun A s hA hS => by
  have hT1 : OkT lv A.in1 := ⟨hA.handled, by have := hA.depth; show A.depth + _ + _ ≤ _; lia, by have := hA.units; show A.units + 1 + _ + _ ≤ _; lia⟩
  have key := wp_run (Q := fun env s₂ => s₂.heap.NoLimit ∧ codeAny (model prog w) A (.expr body env) (fun r s' => ∃ H', Φ r H' ∧ Post T H s H' s') s₂) (E := fun e s' => ∃ H', Φ (.error e) H' ∧ Post T H s H' s') hT hT1 hS hok hg fun O t' H' s' hf hp => by
    obtain ⟨env, e, htri⟩ := hF O t' H' hf
    refine ⟨fun x hx => ?_, fun x hx => ?_⟩
    · rw [e] at hx; cases hx
      exact ⟨nolimit (hp.sat.top 2 so h2) hso, codeAny_mono (htri A s' hA hp.sat) fun r s2 ⟨H2, p, q⟩ => ⟨H2, p, hp.trans q⟩⟩
    · rw [e] at hx; cases hx
  unfold preZ at key
  rw [← R.bindR_eq, ← ZFast.ze9782568553167038054, ← ZFast.ze11113344188204177931, ← locals_str] at key
  refine codeAny_of_tree ?_
  show wpAny _ A.in1 (callAny (.ref a) args) _ _ s
  simp only [callAny]
  refine wpAny_bind (wpAny_load (ho s hS) ?_)
  simp only [hd, callFunction, hco, hgen, hbody, hcd]
  refine wpAny_bind (m := field (.ref ca) 1) (wpAny_field (hca s hS) hcv hq (wpAny_bind (wpAny_pure ?_)))
  rw [hcd] at key
  have fin := wpAny_bind (f := fun env => enterFrame >>= fun _ => again (.expr body env)) (wpAny_mono (Q' := fun env s' => wpAny (model prog w) A.in1 (enterFrame >>= fun _ => again (.expr body env)) (fun fin s' => match fin with
    | .done f => (fun r s' => ∃ H', Φ r H' ∧ Post T H s H' s') (.ok f) s'
    | .again c' => c'.quiet = true ∧ codeAny (model prog w) A c' (fun r s' => ∃ H', Φ r H' ∧ Post T H s H' s') s') (fun e s' => (fun r s' => ∃ H', Φ r H' ∧ Post T H s H' s') (.error e) s') s') key
    (fun env s₂ h₂ => wpAny_bind (wpAny_enterFrame h₂.1 (by have := hA.depth; show A.depth < 1000; lia) (wpAny_pure (And.intro rfl h₂.2)))) fun _ _ h' => h')
  rw [show ∀ (m : Sem (List (Str × Value))) (f : List (Str × Value) → Sem Env) (g : Env → Sem Fin), (Sem.bind m f >>= g) = (m >>= fun x => f x >>= g) from fun m f g => Sem.bind_assoc m f g] at fin
  exact fin
end
noncomputable abbrev wd (d : Source → Nat → Nat) (P : Params) (b1 b2 : Bool) : World := ⟨d, mkP P b1 b2⟩
noncomputable def hz (prog : Program) (P : Params) (n : Str) : Int := match ZFast.zw2939129504906810491 n with
  | .ask k => (match k ⟨prog, P⟩ with | .pure h => h | _ => 0)
  | _ => 0
noncomputable def frmE (κ : Nat → Int) (τ : Nat → Nat) : Nat → List (Str × Value) → List DictEntry
  | _, [] => []
  | i, (n, v) :: r => ⟨κ i, .str n (τ i), v⟩ :: frmE κ τ (i + 1) r
noncomputable def frm (κ : Nat → Int) (τ : Nat → Nat) (nv : List (Str × Value)) : Obj := ⟨.type "frame", none, .dict ⟨frmE κ τ 0 nv⟩ nv.length, #[]⟩
noncomputable def lst (vs : List Value) (ep : Nat) : Obj := ⟨.type "list", none, .seq ⟨vs⟩ ep, #[]⟩
noncomputable def fdOf (o : Obj) : FuncData := match o.data with
  | .func fd => fd
  | _ => default
/-- the frame's env of a def -/
noncomputable def envOf (a : Nat) (fd : FuncData) (L : Nat) : Env := { scope := fd.scope, locals := L, globals := fd.globals, cells := fd.closure, qual := fd.qualname ++ sx8, func := some a, code := fd.code, frame := some L, builtins := fd.builtins }
section
variable {β : Type} {o : β}
noncomputable def onC (c : Code) (k : Value → List Value → Option β) : Option β := match c with
  | .call f ⟨p, []⟩ => k f p
  | _ => none
theorem onC_elim {P : Code → Prop} {c : Code} {k : Value → List Value → Option β} (e : onC c k = some o) (h : ∀ f p, k f p = some o → P (.call f ⟨p, []⟩)) : P c := by
  unfold onC at e
  split at e
  · exact h _ _ e
  · cases e
noncomputable def onBC (c : Code) (k : String → List Value → Option β) : Option β := match c with
  | .builtin f ⟨p, []⟩ => k f p
  | _ => none
theorem onBC_elim {P : Code → Prop} {c : Code} {k : String → List Value → Option β} (e : onBC c k = some o) (h : ∀ f p, k f p = some o → P (.builtin f ⟨p, []⟩)) : P c := by
  unfold onBC at e
  split at e
  · exact h _ _ e
  · cases e
noncomputable def onIf (b : Bool) (k : Option β) : Option β := match b with
  | true => k
  | false => none
theorem onIf_elim {P : Prop} {b : Bool} {k : Option β} (e : onIf b k = some o) (h : b = true → k = some o → P) : P := by
  cases b
  · cases e
  · exact h rfl e
noncomputable def onNil (p : List Value) (k : Option β) : Option β := match p with
  | [] => k
  | _ :: _ => none
theorem onNil_elim {P : List Value → Prop} {p : List Value} {k : Option β} (e : onNil p k = some o) (h : k = some o → P []) : P p := by
  cases p
  · exact h e
  · cases e
noncomputable def onCons (p : List Value) (k : Value → List Value → Option β) : Option β := match p with
  | [] => none
  | v :: p => k v p
theorem onCons_elim {P : List Value → Prop} {p : List Value} {k : Value → List Value → Option β} (e : onCons p k = some o) (h : ∀ v p, k v p = some o → P (v :: p)) : P p := by
  cases p
  · cases e
  · exact h _ _ e
theorem onCons_ex {p : List Value} {k : Value → List Value → Option β} (e : onCons p k = some o) : ∃ v q, p = v :: q ∧ k v q = some o := by
  cases p
  · cases e
  · exact ⟨_, _, rfl, e⟩
noncomputable def onR (v : Value) (k : Nat → Option β) : Option β := match v with
  | .ref a => k a
  | _ => none
theorem onR_elim {P : Value → Prop} {v : Value} {k : Nat → Option β} (e : onR v k = some o) (h : ∀ a, k a = some o → P (.ref a)) : P v := by
  unfold onR at e
  split at e
  · exact h _ e
  · cases e
noncomputable def onI (v : Value) (k : Int → Nat → Option β) : Option β := match v with
  | .int i t => k i t
  | _ => none
theorem onI_elim {P : Value → Prop} {v : Value} {k : Int → Nat → Option β} (e : onI v k = some o) (h : ∀ i t, k i t = some o → P (.int i t)) : P v := by
  unfold onI at e
  split at e
  · exact h _ _ e
  · cases e
noncomputable def onS (v : Value) (k : Str → Nat → Option β) : Option β := match v with
  | .str s t => k s t
  | _ => none
theorem onS_elim {P : Value → Prop} {v : Value} {k : Str → Nat → Option β} (e : onS v k = some o) (h : ∀ s t, k s t = some o → P (.str s t)) : P v := by
  unfold onS at e
  split at e
  · exact h _ _ e
  · cases e
theorem onS_ex {v : Value} {k : Str → Nat → Option β} (e : onS v k = some o) : ∃ s t, v = .str s t ∧ k s t = some o := onS_elim (P := fun v => ∃ s t, v = .str s t ∧ k s t = some o) e fun s t e => ⟨s, t, rfl, e⟩
noncomputable def onB (v : Value) (k : Bool → Option β) : Option β := match v with
  | .bool b => k b
  | _ => none
theorem onB_elim {P : Value → Prop} {v : Value} {k : Bool → Option β} (e : onB v k = some o) (h : ∀ b, k b = some o → P (.bool b)) : P v := by
  unfold onB at e
  split at e
  · exact h _ e
  · cases e
noncomputable def onBi (v : Value) (k : String → Option β) : Option β := match v with
  | .builtin s => k s
  | _ => none
theorem onBi_elim {P : Value → Prop} {v : Value} {k : String → Option β} (e : onBi v k = some o) (h : ∀ s, k s = some o → P (.builtin s)) : P v := by
  unfold onBi at e
  split at e
  · exact h _ e
  · cases e
noncomputable def onTy (v : Value) (k : String → Option β) : Option β := match v with
  | .type s => k s
  | _ => none
theorem onTy_elim {P : Value → Prop} {v : Value} {k : String → Option β} (e : onTy v k = some o) (h : ∀ s, k s = some o → P (.type s)) : P v := by
  unfold onTy at e
  split at e
  · exact h _ e
  · cases e
noncomputable def BR (is : String → Bool) (c : Code) (k : Nat → Option β) : Option β := onBC c fun id p0 => onIf (is id) (onCons p0 fun x0 p1 => onR x0 fun a0 => onNil p1 (k a0))
theorem BR_elim {P : Code → Prop} {is : String → Bool} {c : Code} {k : Nat → Option β} (e : BR is c k = some o) (h : ∀ id a0, is id = true → k a0 = some o → P (.builtin id ⟨[.ref a0], []⟩)) : P c :=
  onBC_elim e fun id p0 e => onIf_elim e fun hi e => onCons_elim (P := fun q => P (.builtin id ⟨q, []⟩)) e fun x0 p1 e => onR_elim (P := fun q => P (.builtin id ⟨q :: p1, []⟩)) e fun a0 e => onNil_elim (P := fun q => P (.builtin id ⟨.ref a0 :: q, []⟩)) e fun e => h id a0 hi e
noncomputable def bII (is : String → Bool) (c : Code) (k : Int → Nat → Int → Nat → Option β) : Option β := onC c fun g p0 => onBi g fun id => onIf (is id) (onCons p0 fun x0 p1 => onI x0 fun i0 t0 => onCons p1 fun x1 p2 => onI x1 fun i1 t1 => onNil p2 (k i0 t0 i1 t1))
theorem bII_elim {P : Code → Prop} {is : String → Bool} {c : Code} {k : Int → Nat → Int → Nat → Option β} (e : bII is c k = some o) (h : ∀ id i0 t0 i1 t1, is id = true → k i0 t0 i1 t1 = some o → P (.call (.builtin id) ⟨[.int i0 t0, .int i1 t1], []⟩)) : P c :=
  onC_elim e fun g p0 e => onBi_elim (P := fun g => P (.call g ⟨p0, []⟩)) e fun id e => onIf_elim e fun hi e => onCons_elim (P := fun q => P (.call (.builtin id) ⟨q, []⟩)) e fun x0 p1 e => onI_elim (P := fun q => P (.call (.builtin id) ⟨q :: p1, []⟩)) e fun i0 t0 e => onCons_elim (P := fun q => P (.call (.builtin id) ⟨.int i0 t0 :: q, []⟩)) e fun x1 p2 e => onI_elim (P := fun q => P (.call (.builtin id) ⟨.int i0 t0 :: q :: p2, []⟩)) e fun i1 t1 e => onNil_elim (P := fun q => P (.call (.builtin id) ⟨.int i0 t0 :: .int i1 t1 :: q, []⟩)) e fun e => h id i0 t0 i1 t1 hi e
noncomputable def bR (is : String → Bool) (c : Code) (k : Nat → Option β) : Option β := onC c fun g p0 => onBi g fun id => onIf (is id) (onCons p0 fun x0 p1 => onR x0 fun a0 => onNil p1 (k a0))
theorem bR_elim {P : Code → Prop} {is : String → Bool} {c : Code} {k : Nat → Option β} (e : bR is c k = some o) (h : ∀ id a0, is id = true → k a0 = some o → P (.call (.builtin id) ⟨[.ref a0], []⟩)) : P c :=
  onC_elim e fun g p0 e => onBi_elim (P := fun g => P (.call g ⟨p0, []⟩)) e fun id e => onIf_elim e fun hi e => onCons_elim (P := fun q => P (.call (.builtin id) ⟨q, []⟩)) e fun x0 p1 e => onR_elim (P := fun q => P (.call (.builtin id) ⟨q :: p1, []⟩)) e fun a0 e => onNil_elim (P := fun q => P (.call (.builtin id) ⟨.ref a0 :: q, []⟩)) e fun e => h id a0 hi e
noncomputable def bRI (is : String → Bool) (c : Code) (k : Nat → Int → Nat → Option β) : Option β := onC c fun g p0 => onBi g fun id => onIf (is id) (onCons p0 fun x0 p1 => onR x0 fun a0 => onCons p1 fun x1 p2 => onI x1 fun i1 t1 => onNil p2 (k a0 i1 t1))
theorem bRI_elim {P : Code → Prop} {is : String → Bool} {c : Code} {k : Nat → Int → Nat → Option β} (e : bRI is c k = some o) (h : ∀ id a0 i1 t1, is id = true → k a0 i1 t1 = some o → P (.call (.builtin id) ⟨[.ref a0, .int i1 t1], []⟩)) : P c :=
  onC_elim e fun g p0 e => onBi_elim (P := fun g => P (.call g ⟨p0, []⟩)) e fun id e => onIf_elim e fun hi e => onCons_elim (P := fun q => P (.call (.builtin id) ⟨q, []⟩)) e fun x0 p1 e => onR_elim (P := fun q => P (.call (.builtin id) ⟨q :: p1, []⟩)) e fun a0 e => onCons_elim (P := fun q => P (.call (.builtin id) ⟨.ref a0 :: q, []⟩)) e fun x1 p2 e => onI_elim (P := fun q => P (.call (.builtin id) ⟨.ref a0 :: q :: p2, []⟩)) e fun i1 t1 e => onNil_elim (P := fun q => P (.call (.builtin id) ⟨.ref a0 :: .int i1 t1 :: q, []⟩)) e fun e => h id a0 i1 t1 hi e
noncomputable def bRIV (is : String → Bool) (c : Code) (k : Nat → Int → Nat → Value → Option β) : Option β := onC c fun g p0 => onBi g fun id => onIf (is id) (onCons p0 fun x0 p1 => onR x0 fun a0 => onCons p1 fun x1 p2 => onI x1 fun i1 t1 => onCons p2 fun v2 p3 => onNil p3 (k a0 i1 t1 v2))
theorem bRIV_elim {P : Code → Prop} {is : String → Bool} {c : Code} {k : Nat → Int → Nat → Value → Option β} (e : bRIV is c k = some o) (h : ∀ id a0 i1 t1 v2, is id = true → k a0 i1 t1 v2 = some o → P (.call (.builtin id) ⟨[.ref a0, .int i1 t1, v2], []⟩)) : P c :=
  onC_elim e fun g p0 e => onBi_elim (P := fun g => P (.call g ⟨p0, []⟩)) e fun id e => onIf_elim e fun hi e => onCons_elim (P := fun q => P (.call (.builtin id) ⟨q, []⟩)) e fun x0 p1 e => onR_elim (P := fun q => P (.call (.builtin id) ⟨q :: p1, []⟩)) e fun a0 e => onCons_elim (P := fun q => P (.call (.builtin id) ⟨.ref a0 :: q, []⟩)) e fun x1 p2 e => onI_elim (P := fun q => P (.call (.builtin id) ⟨.ref a0 :: q :: p2, []⟩)) e fun i1 t1 e => onCons_elim (P := fun q => P (.call (.builtin id) ⟨.ref a0 :: .int i1 t1 :: q, []⟩)) e fun v2 p3 e => onNil_elim (P := fun q => P (.call (.builtin id) ⟨.ref a0 :: .int i1 t1 :: v2 :: q, []⟩)) e fun e => h id a0 i1 t1 v2 hi e
noncomputable def bRR (is : String → Bool) (c : Code) (k : Nat → Nat → Option β) : Option β := onC c fun g p0 => onBi g fun id => onIf (is id) (onCons p0 fun x0 p1 => onR x0 fun a0 => onCons p1 fun x1 p2 => onR x1 fun a1 => onNil p2 (k a0 a1))
theorem bRR_elim {P : Code → Prop} {is : String → Bool} {c : Code} {k : Nat → Nat → Option β} (e : bRR is c k = some o) (h : ∀ id a0 a1, is id = true → k a0 a1 = some o → P (.call (.builtin id) ⟨[.ref a0, .ref a1], []⟩)) : P c :=
  onC_elim e fun g p0 e => onBi_elim (P := fun g => P (.call g ⟨p0, []⟩)) e fun id e => onIf_elim e fun hi e => onCons_elim (P := fun q => P (.call (.builtin id) ⟨q, []⟩)) e fun x0 p1 e => onR_elim (P := fun q => P (.call (.builtin id) ⟨q :: p1, []⟩)) e fun a0 e => onCons_elim (P := fun q => P (.call (.builtin id) ⟨.ref a0 :: q, []⟩)) e fun x1 p2 e => onR_elim (P := fun q => P (.call (.builtin id) ⟨.ref a0 :: q :: p2, []⟩)) e fun a1 e => onNil_elim (P := fun q => P (.call (.builtin id) ⟨.ref a0 :: .ref a1 :: q, []⟩)) e fun e => h id a0 a1 hi e
noncomputable def bRV (is : String → Bool) (c : Code) (k : Nat → Value → Option β) : Option β := onC c fun g p0 => onBi g fun id => onIf (is id) (onCons p0 fun x0 p1 => onR x0 fun a0 => onCons p1 fun v1 p2 => onNil p2 (k a0 v1))
theorem bRV_elim {P : Code → Prop} {is : String → Bool} {c : Code} {k : Nat → Value → Option β} (e : bRV is c k = some o) (h : ∀ id a0 v1, is id = true → k a0 v1 = some o → P (.call (.builtin id) ⟨[.ref a0, v1], []⟩)) : P c :=
  onC_elim e fun g p0 e => onBi_elim (P := fun g => P (.call g ⟨p0, []⟩)) e fun id e => onIf_elim e fun hi e => onCons_elim (P := fun q => P (.call (.builtin id) ⟨q, []⟩)) e fun x0 p1 e => onR_elim (P := fun q => P (.call (.builtin id) ⟨q :: p1, []⟩)) e fun a0 e => onCons_elim (P := fun q => P (.call (.builtin id) ⟨.ref a0 :: q, []⟩)) e fun v1 p2 e => onNil_elim (P := fun q => P (.call (.builtin id) ⟨.ref a0 :: v1 :: q, []⟩)) e fun e => h id a0 v1 hi e
noncomputable def bSR (is : String → Bool) (c : Code) (k : Str → Nat → Nat → Option β) : Option β := onC c fun g p0 => onBi g fun id => onIf (is id) (onCons p0 fun x0 p1 => onS x0 fun s0 t0 => onCons p1 fun x1 p2 => onR x1 fun a1 => onNil p2 (k s0 t0 a1))
theorem bSR_elim {P : Code → Prop} {is : String → Bool} {c : Code} {k : Str → Nat → Nat → Option β} (e : bSR is c k = some o) (h : ∀ id s0 t0 a1, is id = true → k s0 t0 a1 = some o → P (.call (.builtin id) ⟨[.str s0 t0, .ref a1], []⟩)) : P c :=
  onC_elim e fun g p0 e => onBi_elim (P := fun g => P (.call g ⟨p0, []⟩)) e fun id e => onIf_elim e fun hi e => onCons_elim (P := fun q => P (.call (.builtin id) ⟨q, []⟩)) e fun x0 p1 e => onS_elim (P := fun q => P (.call (.builtin id) ⟨q :: p1, []⟩)) e fun s0 t0 e => onCons_elim (P := fun q => P (.call (.builtin id) ⟨.str s0 t0 :: q, []⟩)) e fun x1 p2 e => onR_elim (P := fun q => P (.call (.builtin id) ⟨.str s0 t0 :: q :: p2, []⟩)) e fun a1 e => onNil_elim (P := fun q => P (.call (.builtin id) ⟨.str s0 t0 :: .ref a1 :: q, []⟩)) e fun e => h id s0 t0 a1 hi e
noncomputable def bSS (is : String → Bool) (c : Code) (k : Str → Nat → Str → Nat → Option β) : Option β := onC c fun g p0 => onBi g fun id => onIf (is id) (onCons p0 fun x0 p1 => onS x0 fun s0 t0 => onCons p1 fun x1 p2 => onS x1 fun s1 t1 => onNil p2 (k s0 t0 s1 t1))
theorem bSS_elim {P : Code → Prop} {is : String → Bool} {c : Code} {k : Str → Nat → Str → Nat → Option β} (e : bSS is c k = some o) (h : ∀ id s0 t0 s1 t1, is id = true → k s0 t0 s1 t1 = some o → P (.call (.builtin id) ⟨[.str s0 t0, .str s1 t1], []⟩)) : P c :=
  onC_elim e fun g p0 e => onBi_elim (P := fun g => P (.call g ⟨p0, []⟩)) e fun id e => onIf_elim e fun hi e => onCons_elim (P := fun q => P (.call (.builtin id) ⟨q, []⟩)) e fun x0 p1 e => onS_elim (P := fun q => P (.call (.builtin id) ⟨q :: p1, []⟩)) e fun s0 t0 e => onCons_elim (P := fun q => P (.call (.builtin id) ⟨.str s0 t0 :: q, []⟩)) e fun x1 p2 e => onS_elim (P := fun q => P (.call (.builtin id) ⟨.str s0 t0 :: q :: p2, []⟩)) e fun s1 t1 e => onNil_elim (P := fun q => P (.call (.builtin id) ⟨.str s0 t0 :: .str s1 t1 :: q, []⟩)) e fun e => h id s0 t0 s1 t1 hi e
noncomputable def rN (c : Code) (k : Nat → Option β) : Option β := onC c fun g p0 => onR g fun f => onNil p0 (k f)
theorem rN_elim {P : Code → Prop} {c : Code} {k : Nat → Option β} (e : rN c k = some o) (h : ∀ f, k f = some o → P (.call (.ref f) ⟨[], []⟩)) : P c :=
  onC_elim e fun g p0 e => onR_elim (P := fun g => P (.call g ⟨p0, []⟩)) e fun f e => onNil_elim (P := fun q => P (.call (.ref f) ⟨q, []⟩)) e fun e => h f e
noncomputable def rI (c : Code) (k : Nat → Int → Nat → Option β) : Option β := onC c fun g p0 => onR g fun f => onCons p0 fun x0 p1 => onI x0 fun i0 t0 => onNil p1 (k f i0 t0)
theorem rI_elim {P : Code → Prop} {c : Code} {k : Nat → Int → Nat → Option β} (e : rI c k = some o) (h : ∀ f i0 t0, k f i0 t0 = some o → P (.call (.ref f) ⟨[.int i0 t0], []⟩)) : P c :=
  onC_elim e fun g p0 e => onR_elim (P := fun g => P (.call g ⟨p0, []⟩)) e fun f e => onCons_elim (P := fun q => P (.call (.ref f) ⟨q, []⟩)) e fun x0 p1 e => onI_elim (P := fun q => P (.call (.ref f) ⟨q :: p1, []⟩)) e fun i0 t0 e => onNil_elim (P := fun q => P (.call (.ref f) ⟨.int i0 t0 :: q, []⟩)) e fun e => h f i0 t0 e
noncomputable def rR (c : Code) (k : Nat → Nat → Option β) : Option β := onC c fun g p0 => onR g fun f => onCons p0 fun x0 p1 => onR x0 fun a0 => onNil p1 (k f a0)
theorem rR_elim {P : Code → Prop} {c : Code} {k : Nat → Nat → Option β} (e : rR c k = some o) (h : ∀ f a0, k f a0 = some o → P (.call (.ref f) ⟨[.ref a0], []⟩)) : P c :=
  onC_elim e fun g p0 e => onR_elim (P := fun g => P (.call g ⟨p0, []⟩)) e fun f e => onCons_elim (P := fun q => P (.call (.ref f) ⟨q, []⟩)) e fun x0 p1 e => onR_elim (P := fun q => P (.call (.ref f) ⟨q :: p1, []⟩)) e fun a0 e => onNil_elim (P := fun q => P (.call (.ref f) ⟨.ref a0 :: q, []⟩)) e fun e => h f a0 e
noncomputable def rRI (c : Code) (k : Nat → Nat → Int → Nat → Option β) : Option β := onC c fun g p0 => onR g fun f => onCons p0 fun x0 p1 => onR x0 fun a0 => onCons p1 fun x1 p2 => onI x1 fun i1 t1 => onNil p2 (k f a0 i1 t1)
theorem rRI_elim {P : Code → Prop} {c : Code} {k : Nat → Nat → Int → Nat → Option β} (e : rRI c k = some o) (h : ∀ f a0 i1 t1, k f a0 i1 t1 = some o → P (.call (.ref f) ⟨[.ref a0, .int i1 t1], []⟩)) : P c :=
  onC_elim e fun g p0 e => onR_elim (P := fun g => P (.call g ⟨p0, []⟩)) e fun f e => onCons_elim (P := fun q => P (.call (.ref f) ⟨q, []⟩)) e fun x0 p1 e => onR_elim (P := fun q => P (.call (.ref f) ⟨q :: p1, []⟩)) e fun a0 e => onCons_elim (P := fun q => P (.call (.ref f) ⟨.ref a0 :: q, []⟩)) e fun x1 p2 e => onI_elim (P := fun q => P (.call (.ref f) ⟨.ref a0 :: q :: p2, []⟩)) e fun i1 t1 e => onNil_elim (P := fun q => P (.call (.ref f) ⟨.ref a0 :: .int i1 t1 :: q, []⟩)) e fun e => h f a0 i1 t1 e
noncomputable def rRII (c : Code) (k : Nat → Nat → Int → Nat → Int → Nat → Option β) : Option β := onC c fun g p0 => onR g fun f => onCons p0 fun x0 p1 => onR x0 fun a0 => onCons p1 fun x1 p2 => onI x1 fun i1 t1 => onCons p2 fun x2 p3 => onI x2 fun i2 t2 => onNil p3 (k f a0 i1 t1 i2 t2)
theorem rRII_elim {P : Code → Prop} {c : Code} {k : Nat → Nat → Int → Nat → Int → Nat → Option β} (e : rRII c k = some o) (h : ∀ f a0 i1 t1 i2 t2, k f a0 i1 t1 i2 t2 = some o → P (.call (.ref f) ⟨[.ref a0, .int i1 t1, .int i2 t2], []⟩)) : P c :=
  onC_elim e fun g p0 e => onR_elim (P := fun g => P (.call g ⟨p0, []⟩)) e fun f e => onCons_elim (P := fun q => P (.call (.ref f) ⟨q, []⟩)) e fun x0 p1 e => onR_elim (P := fun q => P (.call (.ref f) ⟨q :: p1, []⟩)) e fun a0 e => onCons_elim (P := fun q => P (.call (.ref f) ⟨.ref a0 :: q, []⟩)) e fun x1 p2 e => onI_elim (P := fun q => P (.call (.ref f) ⟨.ref a0 :: q :: p2, []⟩)) e fun i1 t1 e => onCons_elim (P := fun q => P (.call (.ref f) ⟨.ref a0 :: .int i1 t1 :: q, []⟩)) e fun x2 p3 e => onI_elim (P := fun q => P (.call (.ref f) ⟨.ref a0 :: .int i1 t1 :: q :: p3, []⟩)) e fun i2 t2 e => onNil_elim (P := fun q => P (.call (.ref f) ⟨.ref a0 :: .int i1 t1 :: .int i2 t2 :: q, []⟩)) e fun e => h f a0 i1 t1 i2 t2 e
noncomputable def rRR (c : Code) (k : Nat → Nat → Nat → Option β) : Option β := onC c fun g p0 => onR g fun f => onCons p0 fun x0 p1 => onR x0 fun a0 => onCons p1 fun x1 p2 => onR x1 fun a1 => onNil p2 (k f a0 a1)
theorem rRR_elim {P : Code → Prop} {c : Code} {k : Nat → Nat → Nat → Option β} (e : rRR c k = some o) (h : ∀ f a0 a1, k f a0 a1 = some o → P (.call (.ref f) ⟨[.ref a0, .ref a1], []⟩)) : P c :=
  onC_elim e fun g p0 e => onR_elim (P := fun g => P (.call g ⟨p0, []⟩)) e fun f e => onCons_elim (P := fun q => P (.call (.ref f) ⟨q, []⟩)) e fun x0 p1 e => onR_elim (P := fun q => P (.call (.ref f) ⟨q :: p1, []⟩)) e fun a0 e => onCons_elim (P := fun q => P (.call (.ref f) ⟨.ref a0 :: q, []⟩)) e fun x1 p2 e => onR_elim (P := fun q => P (.call (.ref f) ⟨.ref a0 :: q :: p2, []⟩)) e fun a1 e => onNil_elim (P := fun q => P (.call (.ref f) ⟨.ref a0 :: .ref a1 :: q, []⟩)) e fun e => h f a0 a1 e
noncomputable def rRS (c : Code) (k : Nat → Nat → Str → Nat → Option β) : Option β := onC c fun g p0 => onR g fun f => onCons p0 fun x0 p1 => onR x0 fun a0 => onCons p1 fun x1 p2 => onS x1 fun s1 t1 => onNil p2 (k f a0 s1 t1)
theorem rRS_elim {P : Code → Prop} {c : Code} {k : Nat → Nat → Str → Nat → Option β} (e : rRS c k = some o) (h : ∀ f a0 s1 t1, k f a0 s1 t1 = some o → P (.call (.ref f) ⟨[.ref a0, .str s1 t1], []⟩)) : P c :=
  onC_elim e fun g p0 e => onR_elim (P := fun g => P (.call g ⟨p0, []⟩)) e fun f e => onCons_elim (P := fun q => P (.call (.ref f) ⟨q, []⟩)) e fun x0 p1 e => onR_elim (P := fun q => P (.call (.ref f) ⟨q :: p1, []⟩)) e fun a0 e => onCons_elim (P := fun q => P (.call (.ref f) ⟨.ref a0 :: q, []⟩)) e fun x1 p2 e => onS_elim (P := fun q => P (.call (.ref f) ⟨.ref a0 :: q :: p2, []⟩)) e fun s1 t1 e => onNil_elim (P := fun q => P (.call (.ref f) ⟨.ref a0 :: .str s1 t1 :: q, []⟩)) e fun e => h f a0 s1 t1 e
noncomputable def rS (c : Code) (k : Nat → Str → Nat → Option β) : Option β := onC c fun g p0 => onR g fun f => onCons p0 fun x0 p1 => onS x0 fun s0 t0 => onNil p1 (k f s0 t0)
theorem rS_elim {P : Code → Prop} {c : Code} {k : Nat → Str → Nat → Option β} (e : rS c k = some o) (h : ∀ f s0 t0, k f s0 t0 = some o → P (.call (.ref f) ⟨[.str s0 t0], []⟩)) : P c :=
  onC_elim e fun g p0 e => onR_elim (P := fun g => P (.call g ⟨p0, []⟩)) e fun f e => onCons_elim (P := fun q => P (.call (.ref f) ⟨q, []⟩)) e fun x0 p1 e => onS_elim (P := fun q => P (.call (.ref f) ⟨q :: p1, []⟩)) e fun s0 t0 e => onNil_elim (P := fun q => P (.call (.ref f) ⟨.str s0 t0 :: q, []⟩)) e fun e => h f s0 t0 e
noncomputable def rSB (c : Code) (k : Nat → Str → Nat → Bool → Option β) : Option β := onC c fun g p0 => onR g fun f => onCons p0 fun x0 p1 => onS x0 fun s0 t0 => onCons p1 fun x1 p2 => onB x1 fun b1 => onNil p2 (k f s0 t0 b1)
theorem rSB_elim {P : Code → Prop} {c : Code} {k : Nat → Str → Nat → Bool → Option β} (e : rSB c k = some o) (h : ∀ f s0 t0 b1, k f s0 t0 b1 = some o → P (.call (.ref f) ⟨[.str s0 t0, .bool b1], []⟩)) : P c :=
  onC_elim e fun g p0 e => onR_elim (P := fun g => P (.call g ⟨p0, []⟩)) e fun f e => onCons_elim (P := fun q => P (.call (.ref f) ⟨q, []⟩)) e fun x0 p1 e => onS_elim (P := fun q => P (.call (.ref f) ⟨q :: p1, []⟩)) e fun s0 t0 e => onCons_elim (P := fun q => P (.call (.ref f) ⟨.str s0 t0 :: q, []⟩)) e fun x1 p2 e => onB_elim (P := fun q => P (.call (.ref f) ⟨.str s0 t0 :: q :: p2, []⟩)) e fun b1 e => onNil_elim (P := fun q => P (.call (.ref f) ⟨.str s0 t0 :: .bool b1 :: q, []⟩)) e fun e => h f s0 t0 b1 e
noncomputable def tS (is : String → Bool) (c : Code) (k : Str → Nat → Option β) : Option β := onC c fun g p0 => onTy g fun id => onIf (is id) (onCons p0 fun x0 p1 => onS x0 fun s0 t0 => onNil p1 (k s0 t0))
theorem tS_elim {P : Code → Prop} {is : String → Bool} {c : Code} {k : Str → Nat → Option β} (e : tS is c k = some o) (h : ∀ id s0 t0, is id = true → k s0 t0 = some o → P (.call (.type id) ⟨[.str s0 t0], []⟩)) : P c :=
  onC_elim e fun g p0 e => onTy_elim (P := fun g => P (.call g ⟨p0, []⟩)) e fun id e => onIf_elim e fun hi e => onCons_elim (P := fun q => P (.call (.type id) ⟨q, []⟩)) e fun x0 p1 e => onS_elim (P := fun q => P (.call (.type id) ⟨q :: p1, []⟩)) e fun s0 t0 e => onNil_elim (P := fun q => P (.call (.type id) ⟨.str s0 t0 :: q, []⟩)) e fun e => h id s0 t0 hi e
noncomputable def onNo (v : Value) (k : Option β) : Option β := match v with
  | .none => k
  | _ => none
theorem onNo_elim {P : Value → Prop} {v : Value} {k : Option β} (e : onNo v k = some o) (h : k = some o → P .none) : P v := by
  unfold onNo at e
  split at e
  · exact h e
  · cases e
noncomputable def onEnd (p : List Value) (k : Option β) (k2 : Int → Nat → Option β) : Option β := match p with
  | [] => k
  | v :: p => onI v fun i t => onCons p fun n p => onNo n (onNil p (k2 i t))
theorem onEnd_elim {P : List Value → Prop} {p : List Value} {k : Option β} {k2 : Int → Nat → Option β} (e : onEnd p k k2 = some o) (h : k = some o → P []) (h2 : ∀ i t, k2 i t = some o → P [.int i t, .none]) : P p := by
  cases p with
  | nil => exact h e
  | cons v p => exact onI_elim (P := fun v => P (v :: p)) e fun i t e => onCons_elim (P := fun p => P (.int i t :: p)) e fun n p e => onNo_elim (P := fun n => P (.int i t :: n :: p)) e fun e => onNil_elim (P := fun p => P (.int i t :: .none :: p)) e fun e => h2 i t e
/-- bisect's two calls -/
noncomputable def rBs (c : Code) (k : Nat → Nat → Str → Nat → Option β) (k2 : Nat → Nat → Str → Nat → Int → Nat → Option β) : Option β := onC c fun g p0 => onR g fun f => onCons p0 fun x0 p1 => onR x0 fun a => onCons p1 fun x1 p2 => onS x1 fun s t => onEnd p2 (k f a s t) (k2 f a s t)
theorem rBs_elim {P : Code → Prop} {c : Code} {k : Nat → Nat → Str → Nat → Option β} {k2 : Nat → Nat → Str → Nat → Int → Nat → Option β} (e : rBs c k k2 = some o) (h : ∀ f a s t, k f a s t = some o → P (.call (.ref f) ⟨[.ref a, .str s t], []⟩)) (h2 : ∀ f a s t i ti, k2 f a s t i ti = some o → P (.call (.ref f) ⟨[.ref a, .str s t, .int i ti, .none], []⟩)) : P c :=
  onC_elim e fun g p0 e => onR_elim (P := fun g => P (.call g ⟨p0, []⟩)) e fun f e => onCons_elim (P := fun q => P (.call (.ref f) ⟨q, []⟩)) e fun x0 p1 e => onR_elim (P := fun q => P (.call (.ref f) ⟨q :: p1, []⟩)) e fun a e => onCons_elim (P := fun q => P (.call (.ref f) ⟨.ref a :: q, []⟩)) e fun x1 p2 e => onS_elim (P := fun q => P (.call (.ref f) ⟨.ref a :: q :: p2, []⟩)) e fun s t e =>
    onEnd_elim (P := fun q => P (.call (.ref f) ⟨.ref a :: .str s t :: q, []⟩)) e (fun e => h f a s t e) fun i ti e => h2 f a s t i ti e
end
end Mine
namespace Mine
open PySem PySem.W PySem.W.X PyProof.Rows PySem.Calls
theorem eqLit_iff {b : String} {n : Nat} (h : PySem.code b = n) {id : String} (e : S.eqLit n id = true) : id = b := by
  have := congrFun (S.eqLit_eq b n h) id
  rw [← this] at e
  exact eq_of_beq e
noncomputable def is_list (id : String) : Bool := S.eqLit 1970563693 id
theorem is_list_eq {id : String} (h : is_list id = true) : id = "list" := eqLit_iff (by kernel_rfl) h
noncomputable def is_int___lt__ (id : String) : Bool := S.eqLit 455126531311803185852266 id
theorem is_int___lt___eq {id : String} (h : is_int___lt__ id = true) : id = "int.__lt__" := eqLit_iff (by kernel_rfl) h
noncomputable def is_int___gt__ (id : String) : Bool := S.eqLit 455126529904428302298986 id
theorem is_int___gt___eq {id : String} (h : is_int___gt__ id = true) : id = "int.__gt__" := eqLit_iff (by kernel_rfl) h
noncomputable def is_int___eq__ (id : String) : Bool := S.eqLit 455126313168696235093866 id
theorem is_int___eq___eq {id : String} (h : is_int___eq__ id = true) : id = "int.__eq__" := eqLit_iff (by kernel_rfl) h
noncomputable def is_str___lt__ (id : String) : Bool := S.eqLit 455126531311803185722740 id
theorem is_str___lt___eq {id : String} (h : is_str___lt__ id = true) : id = "str.__lt__" := eqLit_iff (by kernel_rfl) h
noncomputable def is_str___eq__ (id : String) : Bool := S.eqLit 455126313168696234964340 id
theorem is_str___eq___eq {id : String} (h : is_str___eq__ id = true) : id = "str.__eq__" := eqLit_iff (by kernel_rfl) h
noncomputable def is_str___ne__ (id : String) : Bool := S.eqLit 455125451010842570225012 id
theorem is_str___ne___eq {id : String} (h : is_str___ne__ id = true) : id = "str.__ne__" := eqLit_iff (by kernel_rfl) h
noncomputable def is_list___getitem__ (id : String) : Bool := S.eqLit 128106587276438692081757506308484131437 id
theorem is_list___getitem___eq {id : String} (h : is_list___getitem__ id = true) : id = "list.__getitem__" := eqLit_iff (by kernel_rfl) h
noncomputable def is_list___setitem__ (id : String) : Bool := S.eqLit 128106587276438692082622197436939266669 id
theorem is_list___setitem___eq {id : String} (h : is_list___setitem__ id = true) : id = "list.__setitem__" := eqLit_iff (by kernel_rfl) h
noncomputable def is_list_append (id : String) : Bool := S.eqLit 122627580202994350266018413 id
theorem is_list_append_eq {id : String} (h : is_list_append id = true) : id = "list.append" := eqLit_iff (by kernel_rfl) h
noncomputable def is_list_pop (id : String) : Bool := S.eqLit 8174157772325415533 id
theorem is_list_pop_eq {id : String} (h : is_list_pop id = true) : id = "list.pop" := eqLit_iff (by kernel_rfl) h
noncomputable def is_list_insert (id : String) : Bool := S.eqLit 141989282998378523895556717 id
theorem is_list_insert_eq {id : String} (h : is_list_insert id = true) : id = "list.insert" := eqLit_iff (by kernel_rfl) h
noncomputable def is_len (id : String) : Bool := S.eqLit 7300717 id
theorem is_len_eq {id : String} (h : is_len id = true) : id = "len" := eqLit_iff (by kernel_rfl) h
noncomputable def asList (o : Obj) : Option (List Value × Nat) := match o with
  | ⟨.type id, none, .seq ⟨vs⟩ ep, ⟨[]⟩⟩ => match is_list id with
    | true => some (vs, ep)
    | false => none
  | _ => none
theorem asList_eq {o : Obj} {vs : List Value} {ep : Nat} (h : asList o = some (vs, ep)) : o = lst vs ep := by
  unfold asList at h
  split at h
  · rename_i id vs' ep'
    split at h
    · rename_i hid
      cases h
      rw [is_list_eq hid]; rfl
    · cases h
  · cases h
section
variable {prog : Program} {w : World} {T : Tops}
theorem Post.toks {H H' : List Slot} {s s' : Shared} (h : Post T H s H' s') {t : Nat} (ht : s'.toks ≤ t) : Post T H s H' { s' with toks := t } :=
  ⟨⟨h.sat.top, h.sat.gens, Nat.lt_of_lt_of_le h.sat.toks ht, h.sat.has, h.sat.apart, h.sat.wr⟩, ⟨h.keep.size, h.keep.keep, h.keep.drawn, h.keep.os, Nat.le_trans h.keep.toks ht⟩, h.grow⟩
theorem getSlot_obj {H : List Slot} {s : Shared} (h : Sat T s H) {j : Nat} {sl : Slot} (hg : getSlot H j = some sl) : s.heap.get? sl.a = some sl.o := h.has sl (getSlot_mem hg)
theorem codeAny_meets {A : Around} {s : Shared} {R : Result → Shared → Prop} {Ty : String} {name : Str} {id : String} {B : Builtin} {self : Value} {rest : List Value} {S : PySem.Spec} (slot : PySem.Slot Ty name id) (hT : s.TypeIs self Ty)
    (entry : entryFor table id = some B) (args : argsOk id ⟨self :: rest, []⟩) (g : Meets (B ⟨self :: rest, []⟩) S) (h : S A R s) : codeAny (model prog w) A (.call (.builtin id) ⟨self :: rest, []⟩) R s :=
  codeAny_call_builtin slot.plain entry (slot.check _ _ _ _ _ _ _ _ hT args (g prog w A R s h))
theorem typeIs_lst {s : Shared} {a : Nat} {vs : List Value} {ep : Nat} (h : s.heap.get? a = some (lst vs ep)) : s.TypeIs (.ref a) "list" := ⟨_, h, rfl⟩
theorem isList_lst {s : Shared} {a : Nat} {vs : List Value} {ep : Nat} (h : s.heap.get? a = some (lst vs ep)) : s.heap.IsList a ⟨vs⟩ := ⟨_, h, rfl, ep, rfl⟩
/-- a call that is run through -/
theorem calls_run {tt : TT} (hT : ∀ a o, tt.get a = some o → T a o) {A : Around} {lv : Nat} (hA : OkA (lv + 1) A) {f : Value} {args : List Value} {H : List Slot} {s : Shared} (hS : Sat T s H)
    {n : Nat} {hs : List Hint} (hok : HOks prog w T lv hs) {F : Orc → Sem Value → List Slot → Prop}
    (hg : ∀ O, Good F O (run ⟨prog, w.params, tt, O⟩ n hs (.root (PySem.call f args)) ⟨H, 0, 0, 0⟩))
    (hF : ∀ O e H', ¬ F O (.raise e) H') : CallsTo prog w A (.call f ⟨args, []⟩) s (fun r s' => ∃ O v H', r = .ok (.ret v) ∧ F O (.pure v) H' ∧ Post T H s H' s') := by
  have hAt : OkT lv A := ⟨hA.handled, by have := hA.depth; lia, by have := hA.units; lia⟩
  refine (CallsTo.of_call prog w (R := fun v s' => ∃ O H', F O (.pure v) H' ∧ Post T H s H' s') ?_).mono prog w fun r s' ⟨v, e, O, H', hf, hp⟩ => ⟨O, v, H', e, hf, hp⟩
  exact wp_run hT hAt hS hok hg fun O t' H' s' hf hp => ⟨fun a e => ⟨O, H', e ▸ hf, hp⟩, fun e he => (hF O e H' (he ▸ hf)).elim⟩
noncomputable def hILtO (b : Bool) (H : List Slot) (i : Int) (j : Int) : HOut := ⟨[], [], [], [(decide (i < j)) = b], 0, 0, 0, fun _ _ _ => .ok (.ret (.bool b)), fun _ _ _ => H⟩
noncomputable def hILt (b : Bool) : Handler := fun c H => bII is_int___lt__ c (fun i _ j _ => some (hILtO b H i j))
theorem hILt_run (E : Env0) {i j : Int} {ti tj : Nat} (H : List Slot) :
    Seg (run E 10 [.call] (.root (PySem.call (.builtin "int.__lt__") [.int i ti, .int j tj])) ⟨H, 0, 0, 0⟩) [] (.pure (.bool (@decide (i < j) (Z.ltZ i j)))) H := ⟨by kernel_rfl, by kernel_rfl, by kernel_rfl, by kernel_rfl, by kernel_rfl⟩
theorem hILt_ok {tt : TT} (hT : ∀ a o, tt.get a = some o → T a o) (b : Bool) : HOk prog w T 1 (hILt b) := by
  intro c H out e hi A s hA hS
  unfold hILt at e
  refine bII_elim (P := fun c => CallsTo _ _ A c s _) e fun id i ti j tj hid e1 => ?_
  clear e
  cases e1
  obtain ⟨h1, h2, hh, h3⟩ := hi
  have hc := h3 _ (.head _)
  clear h1 h2 hh h3
  rw [is_int___lt___eq hid]
  refine (calls_run (lv := 0) hT hA hS (F := fun O t H' => t = .pure (.bool (@decide (i < j) (Z.ltZ i j))) ∧ H' = H) (n := 10) (hs := [.call]) (hoks_call prog w) (fun O => (hILt_run _ H).good (by intro p hp; cases hp) ⟨rfl, rfl⟩) (by rintro O e H' ⟨h, _⟩; cases h)).mono prog w ?_
  rintro r s' ⟨O, v, H', rfl, ⟨hv, rfl⟩, hp⟩
  cases hv
  refine ⟨[], [], [], rfl, rfl, rfl, ?_, hp⟩
  rw [← hc]
  congr
noncomputable def hIGtO (b : Bool) (H : List Slot) (i : Int) (j : Int) : HOut := ⟨[], [], [], [(decide (j < i)) = b], 0, 0, 0, fun _ _ _ => .ok (.ret (.bool b)), fun _ _ _ => H⟩
noncomputable def hIGt (b : Bool) : Handler := fun c H => bII is_int___gt__ c (fun i _ j _ => some (hIGtO b H i j))
theorem hIGt_run (E : Env0) {i j : Int} {ti tj : Nat} (H : List Slot) :
    Seg (run E 10 [.call] (.root (PySem.call (.builtin "int.__gt__") [.int i ti, .int j tj])) ⟨H, 0, 0, 0⟩) [] (.pure (.bool (@decide (j < i) (Z.ltZ j i)))) H := ⟨by kernel_rfl, by kernel_rfl, by kernel_rfl, by kernel_rfl, by kernel_rfl⟩
theorem hIGt_ok {tt : TT} (hT : ∀ a o, tt.get a = some o → T a o) (b : Bool) : HOk prog w T 1 (hIGt b) := by
  intro c H out e hi A s hA hS
  unfold hIGt at e
  refine bII_elim (P := fun c => CallsTo _ _ A c s _) e fun id i ti j tj hid e1 => ?_
  clear e
  cases e1
  obtain ⟨h1, h2, hh, h3⟩ := hi
  have hc := h3 _ (.head _)
  clear h1 h2 hh h3
  rw [is_int___gt___eq hid]
  refine (calls_run (lv := 0) hT hA hS (F := fun O t H' => t = .pure (.bool (@decide (j < i) (Z.ltZ j i))) ∧ H' = H) (n := 10) (hs := [.call]) (hoks_call prog w) (fun O => (hIGt_run _ H).good (by intro p hp; cases hp) ⟨rfl, rfl⟩) (by rintro O e H' ⟨h, _⟩; cases h)).mono prog w ?_
  rintro r s' ⟨O, v, H', rfl, ⟨hv, rfl⟩, hp⟩
  cases hv
  refine ⟨[], [], [], rfl, rfl, rfl, ?_, hp⟩
  rw [← hc]
  congr
noncomputable def hIEqO (b : Bool) (H : List Slot) (i : Int) (j : Int) : HOut := ⟨[], [], [], [(decide (i = j)) = b], 0, 0, 0, fun _ _ _ => .ok (.ret (.bool b)), fun _ _ _ => H⟩
noncomputable def hIEq (b : Bool) : Handler := fun c H => bII is_int___eq__ c (fun i _ j _ => some (hIEqO b H i j))
theorem hIEq_run (E : Env0) {i j : Int} {ti tj : Nat} (H : List Slot) :
    Seg (run E 10 [.call] (.root (PySem.call (.builtin "int.__eq__") [.int i ti, .int j tj])) ⟨H, 0, 0, 0⟩) [] (.pure (.bool (@decide (i = j) (Z.eqZ i j)))) H := ⟨by kernel_rfl, by kernel_rfl, by kernel_rfl, by kernel_rfl, by kernel_rfl⟩
theorem hIEq_ok {tt : TT} (hT : ∀ a o, tt.get a = some o → T a o) (b : Bool) : HOk prog w T 1 (hIEq b) := by
  intro c H out e hi A s hA hS
  unfold hIEq at e
  refine bII_elim (P := fun c => CallsTo _ _ A c s _) e fun id i ti j tj hid e1 => ?_
  clear e
  cases e1
  obtain ⟨h1, h2, hh, h3⟩ := hi
  have hc := h3 _ (.head _)
  clear h1 h2 hh h3
  rw [is_int___eq___eq hid]
  refine (calls_run (lv := 0) hT hA hS (F := fun O t H' => t = .pure (.bool (@decide (i = j) (Z.eqZ i j))) ∧ H' = H) (n := 10) (hs := [.call]) (hoks_call prog w) (fun O => (hIEq_run _ H).good (by intro p hp; cases hp) ⟨rfl, rfl⟩) (by rintro O e H' ⟨h, _⟩; cases h)).mono prog w ?_
  rintro r s' ⟨O, v, H', rfl, ⟨hv, rfl⟩, hp⟩
  cases hv
  refine ⟨[], [], [], rfl, rfl, rfl, ?_, hp⟩
  rw [← hc]
  congr
noncomputable def hSLtO (b : Bool) (H : List Slot) (i : Str) (j : Str) : HOut := ⟨[], [], [], [(decide (i.cps.toList < j.cps.toList)) = b], 0, 0, 0, fun _ _ _ => .ok (.ret (.bool b)), fun _ _ _ => H⟩
noncomputable def hSLt (b : Bool) : Handler := fun c H => bSS is_str___lt__ c (fun i _ j _ => some (hSLtO b H i j))
theorem hSLt_run (E : Env0) {i j : Str} {ti tj : Nat} (H : List Slot) :
    Seg (run E 10 [.call] (.root (PySem.call (.builtin "str.__lt__") [.str i ti, .str j tj])) ⟨H, 0, 0, 0⟩) [] (.pure (.bool (decide (i.cps.toList < j.cps.toList)))) H := ⟨by kernel_rfl, by kernel_rfl, by kernel_rfl, by kernel_rfl, by kernel_rfl⟩
theorem hSLt_ok {tt : TT} (hT : ∀ a o, tt.get a = some o → T a o) (b : Bool) : HOk prog w T 1 (hSLt b) := by
  intro c H out e hi A s hA hS
  unfold hSLt at e
  refine bSS_elim (P := fun c => CallsTo _ _ A c s _) e fun id i ti j tj hid e1 => ?_
  clear e
  cases e1
  obtain ⟨h1, h2, hh, h3⟩ := hi
  have hc := h3 _ (.head _)
  clear h1 h2 hh h3
  rw [is_str___lt___eq hid]
  refine (calls_run (lv := 0) hT hA hS (F := fun O t H' => t = .pure (.bool (decide (i.cps.toList < j.cps.toList))) ∧ H' = H) (n := 10) (hs := [.call]) (hoks_call prog w) (fun O => (hSLt_run _ H).good (by intro p hp; cases hp) ⟨rfl, rfl⟩) (by rintro O e H' ⟨h, _⟩; cases h)).mono prog w ?_
  rintro r s' ⟨O, v, H', rfl, ⟨hv, rfl⟩, hp⟩
  cases hv
  refine ⟨[], [], [], rfl, rfl, rfl, ?_, hp⟩
  rw [← hc]; rfl
noncomputable def hSEqO (b : Bool) (H : List Slot) (i : Str) (j : Str) : HOut := ⟨[], [], [], [((i.cps.toList == j.cps.toList)) = b], 0, 0, 0, fun _ _ _ => .ok (.ret (.bool b)), fun _ _ _ => H⟩
noncomputable def hSEq (b : Bool) : Handler := fun c H => bSS is_str___eq__ c (fun i _ j _ => some (hSEqO b H i j))
theorem hSEq_run (E : Env0) {i j : Str} {ti tj : Nat} (H : List Slot) :
    Seg (run E 10 [.call] (.root (PySem.call (.builtin "str.__eq__") [.str i ti, .str j tj])) ⟨H, 0, 0, 0⟩) [] (.pure (.bool ((i.cps.toList == j.cps.toList)))) H := ⟨by kernel_rfl, by kernel_rfl, by kernel_rfl, by kernel_rfl, by kernel_rfl⟩
theorem hSEq_ok {tt : TT} (hT : ∀ a o, tt.get a = some o → T a o) (b : Bool) : HOk prog w T 1 (hSEq b) := by
  intro c H out e hi A s hA hS
  unfold hSEq at e
  refine bSS_elim (P := fun c => CallsTo _ _ A c s _) e fun id i ti j tj hid e1 => ?_
  clear e
  cases e1
  obtain ⟨h1, h2, hh, h3⟩ := hi
  have hc := h3 _ (.head _)
  clear h1 h2 hh h3
  rw [is_str___eq___eq hid]
  refine (calls_run (lv := 0) hT hA hS (F := fun O t H' => t = .pure (.bool ((i.cps.toList == j.cps.toList))) ∧ H' = H) (n := 10) (hs := [.call]) (hoks_call prog w) (fun O => (hSEq_run _ H).good (by intro p hp; cases hp) ⟨rfl, rfl⟩) (by rintro O e H' ⟨h, _⟩; cases h)).mono prog w ?_
  rintro r s' ⟨O, v, H', rfl, ⟨hv, rfl⟩, hp⟩
  cases hv
  refine ⟨[], [], [], rfl, rfl, rfl, ?_, hp⟩
  rw [← hc]; rfl
noncomputable def hSNeO (b : Bool) (H : List Slot) (i : Str) (j : Str) : HOut := ⟨[], [], [], [(!(i.cps.toList == j.cps.toList)) = b], 0, 0, 0, fun _ _ _ => .ok (.ret (.bool b)), fun _ _ _ => H⟩
noncomputable def hSNe (b : Bool) : Handler := fun c H => bSS is_str___ne__ c (fun i _ j _ => some (hSNeO b H i j))
theorem hSNe_run (E : Env0) {i j : Str} {ti tj : Nat} (H : List Slot) :
    Seg (run E 10 [.call] (.root (PySem.call (.builtin "str.__ne__") [.str i ti, .str j tj])) ⟨H, 0, 0, 0⟩) [] (.pure (.bool (!(i.cps.toList == j.cps.toList)))) H := ⟨by kernel_rfl, by kernel_rfl, by kernel_rfl, by kernel_rfl, by kernel_rfl⟩
theorem hSNe_ok {tt : TT} (hT : ∀ a o, tt.get a = some o → T a o) (b : Bool) : HOk prog w T 1 (hSNe b) := by
  intro c H out e hi A s hA hS
  unfold hSNe at e
  refine bSS_elim (P := fun c => CallsTo _ _ A c s _) e fun id i ti j tj hid e1 => ?_
  clear e
  cases e1
  obtain ⟨h1, h2, hh, h3⟩ := hi
  have hc := h3 _ (.head _)
  clear h1 h2 hh h3
  rw [is_str___ne___eq hid]
  refine (calls_run (lv := 0) hT hA hS (F := fun O t H' => t = .pure (.bool (!(i.cps.toList == j.cps.toList))) ∧ H' = H) (n := 10) (hs := [.call]) (hoks_call prog w) (fun O => (hSNe_run _ H).good (by intro p hp; cases hp) ⟨rfl, rfl⟩) (by rintro O e H' ⟨h, _⟩; cases h)).mono prog w ?_
  rintro r s' ⟨O, v, H', rfl, ⟨hv, rfl⟩, hp⟩
  cases hv
  refine ⟨[], [], [], rfl, rfl, rfl, ?_, hp⟩
  rw [← hc]; rfl
/-- a list's slot -/
noncomputable def lstAt (H : List Slot) (j : Nat) : Option (Bool × Nat × List Value × Nat) := match getSlot H j with
  | some sl => match asList sl.o with
    | some (vs, ep) => some (sl.w, sl.a, vs, ep)
    | none => none
  | none => none
theorem lstAt_eq {H : List Slot} {j : Nat} {w : Bool} {a : Nat} {vs : List Value} {ep : Nat} (h : lstAt H j = some (w, a, vs, ep)) : getSlot H j = some ⟨w, a, lst vs ep⟩ := by
  unfold lstAt at h
  split at h
  · rename_i sl hs
    split at h
    · rename_i vs' ep' hv
      cases h
      rw [hs, ← asList_eq hv]
    · cases h
  · cases h
section
variable {β : Type} {o : β} {H : List Slot} {j : Nat} {P : Prop}
noncomputable def onLa (H : List Slot) (j : Nat) (k : Nat → List Value → Nat → Option β) : Option β := match lstAt H j with
  | some (_, a, vs, ep) => k a vs ep
  | none => none
theorem onLa_elim {k : Nat → List Value → Nat → Option β} (e : onLa H j k = some o) (h : ∀ w a vs ep, lstAt H j = some (w, a, vs, ep) → k a vs ep = some o → P) : P := by
  unfold onLa at e
  split at e
  · rename_i hl; exact h _ _ _ _ hl e
  · cases e
noncomputable def onL (H : List Slot) (j : Nat) (k : Nat → List Value → Nat → Option β) : Option β := match lstAt H j with
  | some (true, a, vs, ep) => k a vs ep
  | _ => none
theorem onL_elim {k : Nat → List Value → Nat → Option β} (e : onL H j k = some o) (h : ∀ a vs ep, lstAt H j = some (true, a, vs, ep) → k a vs ep = some o → P) : P := by
  unfold onL at e
  split at e
  · rename_i hl; exact h _ _ _ hl e
  · cases e
noncomputable def on1 (vs : List Value) (k : Value → Option β) : Option β := match vs with
  | [v] => k v
  | _ => none
theorem on1_elim {vs : List Value} {k : Value → Option β} (e : on1 vs k = some o) (h : ∀ v, vs = [v] → k v = some o → P) : P := by
  unfold on1 at e
  split at e
  · exact h _ rfl e
  · cases e
noncomputable def onSl (H : List Slot) (j : Nat) (k : Nat → Obj → Option β) : Option β := match getSlot H j with
  | some ⟨true, a, x⟩ => k a x
  | _ => none
theorem onSl_elim {k : Nat → Obj → Option β} (e : onSl H j k = some o) (h : ∀ a x, getSlot H j = some ⟨true, a, x⟩ → k a x = some o → P) : P := by
  unfold onSl at e
  split at e
  · rename_i hl; exact h _ _ hl e
  · cases e
end
-- item
noncomputable def hLGetO (v : Value) (H : List Slot) (a : Nat) (i : Int) (a' : Nat) (vs : List Value) : HOut := ⟨[(a, a')], [], [], [0 ≤ i ∧ i < 1000000, vs[i.toNat]? = some v], 0, 0, 0, fun _ _ _ => .ok (.ret v), fun _ _ _ => H⟩
noncomputable def hLGet (j : Nat) (v : Value) : Handler := fun c H => bRI is_list___getitem__ c (fun a i _ => onLa H j fun a' vs _ => some (hLGetO v H a i a' vs))
theorem hLGet_ok (j : Nat) (v : Value) : HOk prog w T 0 (hLGet j v) := by
  intro c H out e hi A s hA hS
  unfold hLGet at e
  refine bRI_elim (P := fun c => CallsTo _ _ A c s _) e fun id a i ti hid e1 => ?_
  refine onLa_elim e1 fun w' a' vs ep hl e2 => ?_
  clear e e1
  cases e2
  obtain ⟨h1, h2, hh, h3⟩ := hi
  have ea : a = a' := h1 (a, a') (.head _)
  have hc := h3 _ (.head _)
  have hx := h3 _ (.tail _ (.head _))
  clear h1 h2 hh h3
  rw [is_list___getitem___eq hid]
  subst ea
  have ho := getSlot_obj hS (lstAt_eq hl)
  refine (CallsTo.of_call prog w (R := fun x s' => x = v ∧ s' = s) ?_).mono prog w ?_
  · refine wpAny_call_entry slot_list_getitem (isList_lst ho).typeIs entry_list_getitem ?_ (args_list_getitem _ _)
    show wpAny _ _ (Builtin.List.listSubscript? (.int i ti) >>= _) _ _ s
    refine wpAny_bind (wpAny_listSubscript_int (fitsIndex_of hc.1 (by have := hc.2; lia)) ?_)
    obtain ⟨k, rfl⟩ := Int.eq_ofNat_of_zero_le hc.1
    have hx' : (⟨vs⟩ : Array Value)[k]? = some v := by simpa using hx
    show wpAny _ _ ((seqItemAt a k >>= fun r => pure (r.map (k, ·))) >>= _) _ _ s
    refine wpAny_bind (wpAny_bind (wpAny_seqItemAt ho rfl (wpAny_pure ?_)))
    rw [hx']
    first
      | exact wpAny_bind (wpAny_pure (wpAny_pure ⟨v, rfl, rfl, rfl⟩))
      | exact wpAny_pure ⟨v, rfl, rfl, rfl⟩
  · rintro r s' ⟨x, rfl, rfl, rfl⟩
    exact ⟨[], [], [], rfl, rfl, rfl, rfl, Post.refl hS⟩
-- an update of a list by its own function
theorem upd_lst {H : List Slot} {s : Shared} (hS : Sat T s H) {j a : Nat} {vs vs' : List Value} {ep ep' : Nat} (hg : getSlot H j = some ⟨true, a, lst vs ep⟩) {f : Obj → Obj} (hf : f (lst vs ep) = lst vs' ep') :
    Post T H s (setSlot H j (lst vs' ep')) { s with heap := s.heap.update a f } := by
  have := hS.update hg rfl (f := f) (by show (f (lst vs ep)).isFreed = false; rw [hf]; rfl)
  simp only [hf] at this
  exact this
noncomputable def hLSetO (j : Nat) (H : List Slot) (a : Nat) (i : Int) (v : Value) (a' : Nat) (vs : List Value) (ep : Nat) : HOut := ⟨[(a, a')], [], [], [0 ≤ i ∧ i < vs.length ∧ vs.length < 1000000], 0, 0, 0, fun _ _ _ => .ok (.ret .none), fun _ _ _ => setSlot H j (lst (vs.set i.toNat v) ep)⟩
noncomputable def hLSet (j : Nat) : Handler := fun c H => bRIV is_list___setitem__ c (fun a i _ v => onL H j fun a' vs ep => some (hLSetO j H a i v a' vs ep))
theorem hLSet_ok (j : Nat) : HOk prog w T 0 (hLSet j) := by
  intro c H out e hi A s hA hS
  unfold hLSet at e
  refine bRIV_elim (P := fun c => CallsTo _ _ A c s _) e fun id a i ti v hid e1 => ?_
  refine onL_elim e1 fun a' vs ep hl e2 => ?_
  clear e e1
  cases e2
  obtain ⟨h1, h2, hh, h3⟩ := hi
  have ea : a = a' := h1 (a, a') (.head _)
  have hc := h3 _ (.head _)
  clear h1 h2 hh h3
  rw [is_list___setitem___eq hid]
  subst ea
  have hg := lstAt_eq hl
  have ho := getSlot_obj hS hg
  refine (CallsTo.of_call prog w (R := fun x s' => x = .none ∧ s' = { s with heap := s.heap.update a (Obj.mapSeq (·.setIfInBounds i.toNat v)) }) ?_).mono prog w ?_
  · refine wpAny_call_entry slot_list_setitem (isList_lst ho).typeIs entry_list_setitem ?_ (args_list_setitem _ _ _)
    show wpAny _ _ (Builtin.List.listSubscript? (.int i ti) >>= _) _ _ s
    refine wpAny_bind (wpAny_listSubscript_int (fitsIndex_of hc.1 (by have := hc.2; lia)) ?_)
    obtain ⟨k, rfl⟩ := Int.eq_ofNat_of_zero_le hc.1
    have hk : k < vs.length := by have := hc.2.1; lia
    have hx' : (⟨vs⟩ : Array Value)[k]? = some vs[k] := by simp [hk]
    show wpAny _ _ ((seqItemAt a k >>= fun r => pure (r.map (k, ·))) >>= _) _ _ s
    refine wpAny_bind (wpAny_bind (wpAny_seqItemAt ho rfl (wpAny_pure ?_)))
    rw [hx']
    show wpAny _ _ (setSeqItemAt a k v >>= _) _ _ s
    refine wpAny_bind (wpAny_setSeqItemAt ho rfl ?_)
    first
      | exact wpAny_bind (wpAny_pure (wpAny_pure ⟨.none, rfl, rfl, rfl⟩))
      | exact wpAny_pure ⟨.none, rfl, rfl, rfl⟩
  · rintro r s' ⟨x, rfl, rfl, rfl⟩
    refine ⟨[], [], [], rfl, rfl, rfl, rfl, upd_lst hS hg ?_⟩
    simp [Obj.mapSeq, lst]
noncomputable def hLAppO (j : Nat) (H : List Slot) (a : Nat) (v : Value) (a' : Nat) (vs : List Value) (ep : Nat) : HOut := ⟨[(a, a')], [], [], [vs.length < 1000000], 0, 0, 0, fun _ _ _ => .ok (.ret .none), fun _ _ _ => setSlot H j (lst (vs ++ [v]) (ep + 1))⟩
noncomputable def hLApp (j : Nat) : Handler := fun c H => bRV is_list_append c (fun a v => onL H j fun a' vs ep => some (hLAppO j H a v a' vs ep))
theorem hLApp_ok (j : Nat) : HOk prog w T 0 (hLApp j) := by
  intro c H out e hi A s hA hS
  unfold hLApp at e
  refine bRV_elim (P := fun c => CallsTo _ _ A c s _) e fun id a v hid e1 => ?_
  refine onL_elim e1 fun a' vs ep hl e2 => ?_
  clear e e1
  cases e2
  obtain ⟨h1, h2, hh, h3⟩ := hi
  have ea : a = a' := h1 (a, a') (.head _)
  have hc := h3 _ (.head _)
  clear h1 h2 hh h3
  rw [is_list_append_eq hid]
  subst ea
  have hg := lstAt_eq hl
  have ho := getSlot_obj hS hg
  refine CallsTo.of_code prog w (codeAny_meets PySem.F.slot_list_append (typeIs_lst ho) PySem.F.entry_list_append (PySem.F.args_list_append_2 _ _) (PySem.AutoListH.list_append_list_val_0 a ⟨vs⟩ ep v (by show vs.length ≤ 2 ^ 24; lia)) ⟨ho, ?_⟩)
  refine ⟨[], [], [], rfl, rfl, rfl, rfl, upd_lst hS hg ?_⟩
  simp [Obj.mapSeq, lst]
noncomputable def hLPopAtO (j : Nat) (v : Value) (H : List Slot) (a : Nat) (i : Int) (a' : Nat) (vs : List Value) (ep : Nat) : HOut := ⟨[(a, a')], [], [], [0 ≤ i ∧ vs.length < 1000000, vs[i.toNat]? = some v], 0, 0, 0, fun _ _ _ => .ok (.ret v), fun _ _ _ => setSlot H j (lst (vs.eraseIdx i.toNat) (ep + 1))⟩
noncomputable def hLPopAt (j : Nat) (v : Value) : Handler := fun c H => bRI is_list_pop c (fun a i _ => onL H j fun a' vs ep => some (hLPopAtO j v H a i a' vs ep))
theorem seqIndex_at {i : Int} {n : Nat} (h0 : 0 ≤ i) (h1 : i < n) : seqIndex? i n = some i.toNat := by
  unfold seqIndex?
  have : ¬ i < 0 := by lia
  simp [this]
  lia
theorem hLPopAt_ok (j : Nat) (v : Value) : HOk prog w T 0 (hLPopAt j v) := by
  intro c H out e hi A s hA hS
  unfold hLPopAt at e
  refine bRI_elim (P := fun c => CallsTo _ _ A c s _) e fun id a i ti hid e1 => ?_
  refine onL_elim e1 fun a' vs ep hl e2 => ?_
  clear e e1
  cases e2
  obtain ⟨h1, h2, hh, h3⟩ := hi
  have ea : a = a' := h1 (a, a') (.head _)
  have hc := h3 _ (.head _)
  have hx := h3 _ (.tail _ (.head _))
  clear h1 h2 hh h3
  rw [is_list_pop_eq hid]
  subst ea
  have hg := lstAt_eq hl
  have ho := getSlot_obj hS hg
  have hlt : i.toNat < vs.length := by
    have := List.getElem?_eq_some_iff.mp hx
    exact this.1
  refine CallsTo.of_code prog w (codeAny_meets PySem.F.slot_list_pop (typeIs_lst ho) PySem.F.entry_list_pop (PySem.F.args_list_pop_2 _ _) (PySem.MeetsSeq.list_pop_at a ⟨vs⟩ ep i ti i.toNat v (fitsIndex_of hc.1 (by have := hc.2; lia)) (seqIndex_at hc.1 (by show i < (vs.length : Nat); lia)) (by simpa using hx) (by show vs.length ≤ 2 ^ 24; lia)) ⟨ho, ?_⟩)
  refine ⟨[], [], [], rfl, rfl, rfl, rfl, upd_lst hS hg ?_⟩
  simp [Obj.mapSeq, lst, Array.eraseIdxIfInBounds, hlt, List.length_eraseIdx]
  lia
noncomputable def hLPopO (j : Nat) (v : Value) (H : List Slot) (a : Nat) (a' : Nat) (vs : List Value) (ep : Nat) : HOut := ⟨[(a, a')], [], [], [vs.length < 1000000, vs.getLast? = some v], 0, 0, 0, fun _ _ _ => .ok (.ret v), fun _ _ _ => setSlot H j (lst vs.dropLast (ep + 1))⟩
noncomputable def hLPop (j : Nat) (v : Value) : Handler := fun c H => bR is_list_pop c (fun a => onL H j fun a' vs ep => some (hLPopO j v H a a' vs ep))
theorem hLPop_ok (j : Nat) (v : Value) : HOk prog w T 0 (hLPop j v) := by
  intro c H out e hi A s hA hS
  unfold hLPop at e
  refine bR_elim (P := fun c => CallsTo _ _ A c s _) e fun id a hid e1 => ?_
  refine onL_elim e1 fun a' vs ep hl e2 => ?_
  clear e e1
  cases e2
  obtain ⟨h1, h2, hh, h3⟩ := hi
  have ea : a = a' := h1 (a, a') (.head _)
  have hc := h3 _ (.head _)
  have hx := h3 _ (.tail _ (.head _))
  clear h1 h2 hh h3
  rw [is_list_pop_eq hid]
  subst ea
  have hg := lstAt_eq hl
  have ho := getSlot_obj hS hg
  have hx' : vs[vs.length - 1]? = some v := by rw [← hx, List.getLast?_eq_getElem?]
  have hlt : 0 < vs.length := by
    cases vs with
    | nil => cases hx
    | cons x l => simp
  refine CallsTo.of_code prog w (codeAny_meets PySem.F.slot_list_pop (typeIs_lst ho) PySem.F.entry_list_pop (PySem.F.args_list_pop_1 _) (PySem.MeetsSeq.list_pop_last a ⟨vs⟩ ep v (by simpa using hx') (by show vs.length ≤ 2 ^ 24; lia)) ⟨ho, ?_⟩)
  refine ⟨[], [], [], rfl, rfl, rfl, rfl, upd_lst hS hg ?_⟩
  have hlt' : vs.length - 1 < vs.length := by lia
  simp [Obj.mapSeq, lst, Array.eraseIdxIfInBounds, hlt']
  lia
noncomputable def hLInsO (j : Nat) (H : List Slot) (a : Nat) (i : Int) (v : Value) (a' : Nat) (vs : List Value) (ep : Nat) : HOut := ⟨[(a, a')], [], [], [0 ≤ i ∧ i ≤ vs.length ∧ vs.length < 1000000], 0, 0, 0, fun _ _ _ => .ok (.ret .none), fun _ _ _ => setSlot H j (lst (vs.take i.toNat ++ v :: vs.drop i.toNat) (ep + 1))⟩
noncomputable def hLIns (j : Nat) : Handler := fun c H => bRIV is_list_insert c (fun a i _ v => onL H j fun a' vs ep => some (hLInsO j H a i v a' vs ep))
theorem hLIns_ok (j : Nat) : HOk prog w T 0 (hLIns j) := by
  intro c H out e hi A s hA hS
  unfold hLIns at e
  refine bRIV_elim (P := fun c => CallsTo _ _ A c s _) e fun id a i ti v hid e1 => ?_
  refine onL_elim e1 fun a' vs ep hl e2 => ?_
  clear e e1
  cases e2
  obtain ⟨h1, h2, hh, h3⟩ := hi
  have ea : a = a' := h1 (a, a') (.head _)
  have hc := h3 _ (.head _)
  clear h1 h2 hh h3
  rw [is_list_insert_eq hid]
  subst ea
  have hg := lstAt_eq hl
  have ho := getSlot_obj hS hg
  have hf : Builtin.List.listFitsIndex i = true := fitsIndex_of hc.1 (by have := hc.2; lia)
  refine CallsTo.of_code prog w (codeAny_meets PySem.F.slot_list_insert (typeIs_lst ho) PySem.F.entry_list_insert (PySem.F.args_list_insert_3 _ _ _) (PySem.AutoSeq1.list_insert_list_int_val_1 a ⟨vs⟩ ep i ti v (by simp [hf]) (by show vs.length ≤ 2 ^ 24; lia)) ⟨ho, ?_⟩)
  refine ⟨[], [], [], rfl, rfl, rfl, rfl, upd_lst hS hg ?_⟩
  have hn : ¬ i < 0 := by lia
  have hm : min i.toNat vs.length = i.toNat := by lia
  simp [Obj.mapSeq, lst, hn, hm]
  exact ⟨List.take_of_length_le (by rw [List.length_drop]; lia), by lia⟩
noncomputable def hLenO (H : List Slot) (a : Nat) (a' : Nat) (vs : List Value) : HOut := ⟨[(a, a')], [], [], [vs.length < 1000000], 0, 1, 0, fun _ ts _ => .ok (.ret (.int vs.length (ts.getD 0 0))), fun _ _ _ => H⟩
noncomputable def hLen (j : Nat) : Handler := fun c H => bR is_len c (fun a => onLa H j fun a' vs _ => some (hLenO H a a' vs))
theorem hLen_ok (j : Nat) : HOk prog w T 0 (hLen j) := by
  intro c H out e hi A s hA hS
  unfold hLen at e
  refine bR_elim (P := fun c => CallsTo _ _ A c s _) e fun id a hid e1 => ?_
  refine onLa_elim e1 fun w' a' vs ep hl e2 => ?_
  clear e e1
  cases e2
  obtain ⟨h1, h2, hh, h3⟩ := hi
  have ea : a = a' := h1 (a, a') (.head _)
  have hc := h3 _ (.head _)
  clear h1 h2 hh h3
  rw [is_len_eq hid]
  subst ea
  have ho := getSlot_obj hS (lstAt_eq hl)
  refine (CallsTo.of_call prog w (R := fun x s' => x = .int vs.length (s.toks + 1) ∧ s' = { s with toks := s.toks + 1 + 1 }) (call_len_list (isList_lst ho) (by show ((vs.length : Nat) : Int) < 2 ^ 63; lia) ⟨rfl, rfl⟩)).mono prog w ?_
  rintro r s' ⟨x, rfl, rfl, rfl⟩
  exact ⟨[], [s.toks + 1], [], rfl, rfl, rfl, rfl, (Post.refl hS).toks (by show s.toks ≤ _; lia)⟩
noncomputable def hLenBO (H : List Slot) (a : Nat) (a' : Nat) (vs : List Value) : HOut := ⟨[(a, a')], [], [], [vs.length < 1000000], 0, 1, 0, fun _ ts _ => .ok (.ret (.int vs.length (ts.getD 0 0))), fun _ _ _ => H⟩
noncomputable def hLenB (j : Nat) : Handler := fun c H => BR is_len c (fun a => onLa H j fun a' vs _ => some (hLenBO H a a' vs))
theorem hLenB_ok (j : Nat) : HOk prog w T 0 (hLenB j) := by
  intro c H out e hi A s hA hS
  unfold hLenB at e
  refine BR_elim (P := fun c => CallsTo _ _ A c s _) e fun id a hid e1 => ?_
  refine onLa_elim e1 fun w' a' vs ep hl e2 => ?_
  clear e e1
  cases e2
  obtain ⟨h1, h2, hh, h3⟩ := hi
  have ea : a = a' := h1 (a, a') (.head _)
  have hc := h3 _ (.head _)
  clear h1 h2 hh h3
  rw [is_len_eq hid]
  subst ea
  have ho := getSlot_obj hS (lstAt_eq hl)
  have hl := isList_lst ho
  refine CallsTo.of_code prog w (codeAny_builtin entry_len ?_)
  unfold Builtin.«len»
  refine wpAny_bind (m := oneArg "len" _) (wpAny_pure ?_)
  refine wpAny_bind (m := callSpecial? (.ref a) (Str.ofString "__len__")) (wpAny_callSpecial?_slot (name := Str.ofString "__len__") hl.typeIs slot_list_len
    (wpAny_call_entry slot_list_len hl.typeIs entry_list_len ?_ (args_list_len _)))
  show wpAny _ _ (do retInt (← seqSize a)) _ _ s
  unfold seqSize
  refine wpAny_bind (wpAny_bind (wpAny_load ho ?_))
  refine wpAny_pure (wpAny_bind (wpAny_mkInt (wpAny_pure ⟨_, rfl, ?_⟩)))
  refine wpAny_bind (wpAny_holding (wpAny_pure ?_))
  refine wpAny_bind (wpAny_letGo ?_)
  show wpAny _ _ (if (vs.length : Int) < 0 then _ else _) _ _ _
  rw [if_neg (by lia)]
  show wpAny _ _ (if (vs.length : Int) ≥ 2 ^ 63 then _ else _) _ _ _
  rw [if_neg (by lia)]
  refine wpAny_bind (wpAny_mkInt (wpAny_pure ?_))
  exact ⟨[], [s.toks + 1], [], rfl, rfl, rfl, rfl, (Post.refl hS).toks (t := s.toks + 1 + 1) (by show s.toks ≤ _; lia)⟩
end
end Mine
namespace Mine
open PySem PySem.W
noncomputable def ext {β : Type} (κ : Nat → β) (i : Nat) (l : List β) [Inhabited β] : Nat → β := fun n => match Nat.blt n i with
  | true => κ n
  | false => l.getD (n - i) default
noncomputable def zeroI : Nat → Int := fun _ => 0
noncomputable def zeroN : Nat → Nat := fun _ => 0
noncomputable def ifB (s : Stmt) : List Stmt := ((sV s).2.1.getD 0 [])
noncomputable def whT (s : Stmt) : PySem.Expr := ((sV s).1.getD 0 default)
noncomputable def whB (s : Stmt) : List Stmt := ((sV s).2.1.getD 0 [])
noncomputable def bisW : Stmt := (ifB ((fnB (st 2)).getD 2 default)).getD 0 default
noncomputable def bisCode (P : Params) (L : Nat) : Code := .whileLoop (whT bisW) (whB bisW) [] (envOf 32 (fdOf (to32 P)) L)
end Mine
namespace Mine
open PySem PySem.W PySem.W.X PyProof.Rows
section
variable {T : Tops} {H H' sub sub' : List Slot} {s s' : Shared}
noncomputable abbrev Apart (H : List Slot) : Prop := H.Pairwise fun x y => (x.w = true ∨ y.w = true) → x.a ≠ y.a
/-- what a call does to its own slots, in a wider list -/
theorem Post.lift (hS : Sat T s H) (hP : Post T sub s sub' s') (h1 : ∀ x ∈ sub, x.w = true → ∃ y ∈ H, y.w = true ∧ y.a = x.a)
    (h2 : ∀ y ∈ H', (∃ x ∈ sub', x.a = y.a ∧ x.o = y.o ∧ (y.w = true → x.w = true ∨ ∃ z ∈ H, z.w = true ∧ z.a = y.a)) ∨ (y ∈ H ∧ ∀ x ∈ sub, x.w = true → x.a ≠ y.a))
    (h3 : Apart H') : Post T H s H' s' := by
  refine ⟨⟨hP.sat.top, hP.sat.gens, hP.sat.toks, fun y hy => ?_, h3, fun y hy hw o => ?_⟩, ⟨hP.keep.size, fun a o ha hn => ?_, hP.keep.drawn, hP.keep.os, hP.keep.toks⟩, fun y hy hw => ?_⟩
  · rcases h2 y hy with ⟨x, hx, ea, eo, _⟩ | ⟨hyH, hn⟩
    · rw [← ea, ← eo]; exact hP.sat.has x hx
    · exact hP.keep.keep _ _ (hS.has y hyH) hn
  · rcases h2 y hy with ⟨x, hx, ea, eo, hxw⟩ | ⟨hyH, hn⟩
    · rcases hxw hw with h | ⟨z, hz, zw, ez⟩
      · rw [← ea]; exact hP.sat.wr x hx h o
      · rw [← ez]; exact hS.wr z hz zw o
    · exact hS.wr y hyH hw o
  · refine hP.keep.keep a o ha fun x hx hw => ?_
    obtain ⟨y, hy, yw, e⟩ := h1 x hx hw
    rw [← e]; exact hn y hy yw
  · rcases h2 y hy with ⟨x, hx, ea, eo, hxw⟩ | ⟨hyH, hn⟩
    · rcases hxw hw with h | ⟨z, hz, zw, ez⟩
      · rcases hP.grow x hx h with ⟨x0, hx0, w0, e0⟩ | hle
        · obtain ⟨y0, hy0, yw, e⟩ := h1 x0 hx0 w0
          exact .inl ⟨y0, hy0, yw, e.trans (e0.trans ea)⟩
        · exact .inr (ea ▸ hle)
      · exact .inl ⟨z, hz, zw, ez⟩
    · exact .inl ⟨y, hyH, hw, rfl⟩
/-- nothing of the old is written -/
theorem Post.liftR (hS : Sat T s H) (hP : Post T sub s sub' s') (h1 : ∀ x ∈ sub, x.w = false) : Post T H s H s' :=
  hP.lift hS (fun x hx hw => by rw [h1 x hx] at hw; cases hw) (fun y hy => .inr ⟨hy, fun x hx hw => by rw [h1 x hx] at hw; cases hw⟩) hS.apart
/-- one slot is written -/
theorem Post.liftW (hS : Sat T s H) (hP : Post T sub s sub' s') {j a : Nat} {o o' : Obj} (hg : getSlot H j = some ⟨true, a, o⟩) (h1 : ∀ x ∈ sub, x.w = true → x.a = a) (h2 : ∃ x ∈ sub', x.a = a ∧ x.o = o') : Post T H s (setSlot H j o') s' := by
  have hm := getSlot_mem hg
  refine hP.lift hS (fun x hx hw => ⟨_, hm, rfl, (h1 x hx hw).symm⟩) (fun y hy => ?_) (setSlot_apart H j hS.apart)
  rcases setSlot_mem (sl := ⟨true, a, o⟩) rfl H j hS.apart hg hy with rfl | ⟨hy, hne⟩
  · obtain ⟨x, hx, ea, eo⟩ := h2
    exact .inl ⟨x, hx, ea, eo, fun _ => .inr ⟨_, hm, rfl, rfl⟩⟩
  · exact .inr ⟨hy, fun x hx hw e => hne (e.symm.trans (h1 x hx hw))⟩
/-- a new slot comes -/
theorem Post.liftN (hS : Sat T s H) (hP : Post T H s H' s') {a : Nat} {o : Obj} (ho : s'.heap.get? a = some o) (hnew : s.heap.objs.size ≤ a) (hH : ∀ y ∈ H', y.a < s.heap.objs.size) : Post T H s (addSlot H' ⟨true, a, o⟩) s' := by
  refine ⟨⟨hP.sat.top, hP.sat.gens, hP.sat.toks, fun y hy => ?_, ?_, fun y hy hw => ?_⟩, hP.keep, fun y hy hw => ?_⟩
  · rw [addSlot_eq] at hy
    rcases List.mem_append.mp hy with hy | hy
    · exact hP.sat.has y hy
    · rw [List.mem_singleton.mp hy]; exact ho
  · rw [addSlot_eq]
    refine List.pairwise_append.mpr ⟨hP.sat.apart, by simp, fun x hx y hy _ => ?_⟩
    rw [List.mem_singleton.mp hy]
    exact Nat.ne_of_lt (Nat.lt_of_lt_of_le (hH x hx) hnew)
  · rw [addSlot_eq] at hy
    rcases List.mem_append.mp hy with hy | hy
    · exact hP.sat.wr y hy hw
    · rw [List.mem_singleton.mp hy]
      exact fun o' hT => absurd (Heap.lt_size (hS.top _ _ hT)) (Nat.not_lt.mpr hnew)
  · rw [addSlot_eq] at hy
    rcases List.mem_append.mp hy with hy | hy
    · exact hP.grow y hy hw
    · rw [List.mem_singleton.mp hy]; exact .inr hnew
end
section
variable (prog : Program) (w : World)
noncomputable def HsOk (T : Tops) (lv : Nat) : List Hint → Prop
  | [] => True
  | .sum h :: r => HOk prog w T lv h ∧ HsOk T lv r
  | .sump h :: r => HOkP prog w T lv h ∧ HsOk T lv r
  | .top :: r => HsOk T lv r
  | .slot _ :: r => HsOk T lv r
  | .call :: r => HsOk T lv r
variable {prog w}
theorem HsOk.get {T : Tops} {lv : Nat} : ∀ {hs : List Hint}, HsOk prog w T lv hs → HOks prog w T lv hs
  | [], _ => ⟨fun h hm => (by cases hm), fun h hm => (by cases hm)⟩
  | .sum h' :: r, ho => ⟨fun h hm => (List.mem_cons.mp hm).elim (fun e => by cases e; exact ho.1) ((HsOk.get (hs := r) ho.2).1 h), fun h hm => (List.mem_cons.mp hm).elim (fun e => by cases e) ((HsOk.get (hs := r) ho.2).2 h)⟩
  | .sump h' :: r, ho => ⟨fun h hm => (List.mem_cons.mp hm).elim (fun e => by cases e) ((HsOk.get (hs := r) ho.2).1 h), fun h hm => (List.mem_cons.mp hm).elim (fun e => by cases e; exact ho.1) ((HsOk.get (hs := r) ho.2).2 h)⟩
  | .top :: r, ho => ⟨fun h hm => (List.mem_cons.mp hm).elim (fun e => by cases e) ((HsOk.get (hs := r) ho).1 h), fun h hm => (List.mem_cons.mp hm).elim (fun e => by cases e) ((HsOk.get (hs := r) ho).2 h)⟩
  | .slot _ :: r, ho => ⟨fun h hm => (List.mem_cons.mp hm).elim (fun e => by cases e) ((HsOk.get (hs := r) ho).1 h), fun h hm => (List.mem_cons.mp hm).elim (fun e => by cases e) ((HsOk.get (hs := r) ho).2 h)⟩
  | .call :: r, ho => ⟨fun h hm => (List.mem_cons.mp hm).elim (fun e => by cases e) ((HsOk.get (hs := r) ho).1 h), fun h hm => (List.mem_cons.mp hm).elim (fun e => by cases e) ((HsOk.get (hs := r) ho).2 h)⟩
variable {T : Tops} {tt : TT} (hT : ∀ a o, tt.get a = some o → T a o) {lv : Nat} {H : List Slot} {Φ : Result → List Slot → Prop} {n : Nat} {hs : List Hint} {cs : Orc → List Prop}
include hT
/-- a turn that goes on -/
theorem tri_again {c : Code} (hc : okCode c = true) (hok : HsOk prog w T lv hs) {c' : Orc → Code} {H' : Orc → List Slot}
    (seg : ∀ O, Seg (run ⟨prog, w.params, tt, O⟩ n hs (.root (denoteZ c)) ⟨H, 0, 0, 0⟩) (cs O) (.pure (.again (c' O))) (H' O)) (hcs : ∀ O, ∀ p ∈ cs O, p)
    (hq : ∀ O, (c' O).quiet = true) (hn : ∀ O, Tri prog w (lv + 1) T (c' O) (H' O) Φ) : Tri prog w (lv + 1) T c H Φ :=
  tri_run hT hc hok.get (F := fun O t h => t = .pure (.again (c' O)) ∧ h = H' O) (fun O => (seg O).good (hcs O) ⟨rfl, rfl⟩) fun O t h ⟨e1, e2⟩ => .inr (.inl ⟨c' O, e1, hq O, e2 ▸ hn O⟩)
/-- a code that ends -/
theorem tri_done {c : Code} (hc : okCode c = true) (hok : HsOk prog w T lv hs) {f : Orc → Flow} {H' : Orc → List Slot}
    (seg : ∀ O, Seg (run ⟨prog, w.params, tt, O⟩ n hs (.root (denoteZ c)) ⟨H, 0, 0, 0⟩) (cs O) (.pure (.done (f O))) (H' O)) (hcs : ∀ O, ∀ p ∈ cs O, p)
    (hn : ∀ O, Φ (.ok (f O)) (H' O)) : Tri prog w (lv + 1) T c H Φ :=
  tri_run hT hc hok.get (F := fun O t h => t = .pure (.done (f O)) ∧ h = H' O) (fun O => (seg O).good (hcs O) ⟨rfl, rfl⟩) fun O t h ⟨e1, e2⟩ => .inl ⟨f O, e1, e2 ▸ hn O⟩
theorem tri_againP {c : Code} (hc : okCode c = true) (hok : HsOk prog w T lv hs) {ps : Orc → List Prop} {c' : Orc → Code} {H' : Orc → List Slot}
    (seg : ∀ O, SegP (run ⟨prog, w.params, tt, O⟩ n hs (.root (denoteZ c)) ⟨H, 0, 0, 0⟩) (cs O) (ps O) (.pure (.again (c' O))) (H' O)) (hcs : ∀ O, ∀ p ∈ cs O, p)
    (hq : ∀ O, (c' O).quiet = true) (hn : ∀ O, (∀ p ∈ ps O, p) → Tri prog w (lv + 1) T (c' O) (H' O) Φ) : Tri prog w (lv + 1) T c H Φ :=
  tri_run hT hc hok.get (F := fun O t h => (t = .pure (.again (c' O)) ∧ h = H' O) ∧ ∀ p ∈ ps O, p) (fun O => (seg O).good (hcs O) fun hp => ⟨⟨rfl, rfl⟩, hp⟩) fun O t h ⟨⟨e1, e2⟩, hp⟩ => .inr (.inl ⟨c' O, e1, hq O, e2 ▸ hn O hp⟩)
/-- a call of a def: its prologue, then its body -/
theorem tri_def {a : Nat} {args : Args} {o : Obj} {fd : FuncData} {body : List Stmt} (ho : T a o) (hd : o.data = .func fd) (hco : fd.scope.isCoroutine = false) (hgen : fd.scope.isGenerator = false) (hbody : fd.body = .stmts body)
    {ca : Nat} {co : Obj} {vs : Array Value} {tq : Nat} (hcd : fd.code = .ref ca) (hca : T ca co) (hcv : co.data = .fields vs) (hq : vs[1]? = some (.str fd.qualname tq))
    {so : Obj} (h2 : T 2 so) (hso : so.data = .dict #[] 0) (hok : HsOk prog w T lv hs) {env : Orc → Env} {H' : Orc → List Slot}
    (seg : ∀ O, Seg (run ⟨prog, w.params, tt, O⟩ n hs (.root (preZ a fd args)) ⟨H, 0, 0, 0⟩) (cs O) (.pure (env O)) (H' O)) (hcs : ∀ O, ∀ p ∈ cs O, p)
    (hn : ∀ O, Tri prog w (lv + 1) T (.func body (env O)) (H' O) Φ) : Tri prog w (lv + 1) T (.call (.ref a) args) H Φ :=
  tri_call hT ho hd hco hgen hbody hcd hca hcv hq h2 hso hok.get (F := fun O t h => t = .pure (env O) ∧ h = H' O) (fun O => (seg O).good (hcs O) ⟨rfl, rfl⟩) fun O t h ⟨e1, e2⟩ => ⟨env O, e1, e2 ▸ hn O⟩
end
noncomputable def finH {α : Type} (out : Out α) : List Slot := match out.fin with
  | some (_, H) => H
  | none => []
noncomputable def slA (H : List Slot) (j : Nat) : Nat := match getSlot H j with | some s => s.a | none => 0
noncomputable def slO (H : List Slot) (j : Nat) : Obj := match getSlot H j with | some s => s.o | none => default
noncomputable def oEn (o : Obj) : List DictEntry := match o.data with | .dict ⟨es⟩ _ => es | _ => []
noncomputable def slK (H : List Slot) (j : Nat) : Nat → Int := fun i => ((oEn (slO H j)).getD i default).hash
noncomputable def vTok : Value → Nat
  | .int _ t => t
  | .str _ t => t
  | _ => 0
noncomputable def slT (H : List Slot) (j : Nat) : Nat → Nat := fun i => vTok ((oEn (slO H j)).getD i default).key
noncomputable def slV (H : List Slot) (j i : Nat) : Value := ((oEn (slO H j)).getD i default).val
theorem mem0 : ∀ x ∈ ([] : List Prop), x := by intro x hx; cases hx
theorem mem_cons {p : Prop} {l : List Prop} (hp : p) (hl : ∀ x ∈ l, x) : ∀ x ∈ p :: l, x := by
  intro x hx
  rcases List.mem_cons.mp hx with rfl | hx
  · exact hp
  · exact hl x hx
theorem k0 (O : Orc) : ∀ x ∈ ([] : List Prop), x := mem0
theorem k1 {p0 : Prop} (h0 : p0) : ∀ x ∈ [p0], x := mem_cons h0 mem0
theorem k2 {p0 p1 : Prop} (h0 : p0) (h1 : p1) : ∀ x ∈ [p0, p1], x := mem_cons h0 (k1 h1)
theorem k3 {p0 p1 p2 : Prop} (h0 : p0) (h1 : p1) (h2 : p2) : ∀ x ∈ [p0, p1, p2], x := mem_cons h0 (k2 h1 h2)
theorem k4 {p0 p1 p2 p3 : Prop} (h0 : p0) (h1 : p1) (h2 : p2) (h3 : p3) : ∀ x ∈ [p0, p1, p2, p3], x := mem_cons h0 (k3 h1 h2 h3)
theorem k5 {p0 p1 p2 p3 p4 : Prop} (h0 : p0) (h1 : p1) (h2 : p2) (h3 : p3) (h4 : p4) : ∀ x ∈ [p0, p1, p2, p3, p4], x := mem_cons h0 (k4 h1 h2 h3 h4)
theorem k6 {p0 p1 p2 p3 p4 p5 : Prop} (h0 : p0) (h1 : p1) (h2 : p2) (h3 : p3) (h4 : p4) (h5 : p5) : ∀ x ∈ [p0, p1, p2, p3, p4, p5], x := mem_cons h0 (k5 h1 h2 h3 h4 h5)
theorem k7 {p0 p1 p2 p3 p4 p5 p6 : Prop} (h0 : p0) (h1 : p1) (h2 : p2) (h3 : p3) (h4 : p4) (h5 : p5) (h6 : p6) : ∀ x ∈ [p0, p1, p2, p3, p4, p5, p6], x := mem_cons h0 (k6 h1 h2 h3 h4 h5 h6)
theorem k8 {p0 p1 p2 p3 p4 p5 p6 p7 : Prop} (h0 : p0) (h1 : p1) (h2 : p2) (h3 : p3) (h4 : p4) (h5 : p5) (h6 : p6) (h7 : p7) : ∀ x ∈ [p0, p1, p2, p3, p4, p5, p6, p7], x := mem_cons h0 (k7 h1 h2 h3 h4 h5 h6 h7)
theorem k9 {p0 p1 p2 p3 p4 p5 p6 p7 p8 : Prop} (h0 : p0) (h1 : p1) (h2 : p2) (h3 : p3) (h4 : p4) (h5 : p5) (h6 : p6) (h7 : p7) (h8 : p8) : ∀ x ∈ [p0, p1, p2, p3, p4, p5, p6, p7, p8], x := mem_cons h0 (k8 h1 h2 h3 h4 h5 h6 h7 h8)
theorem k10 {p0 p1 p2 p3 p4 p5 p6 p7 p8 p9 : Prop} (h0 : p0) (h1 : p1) (h2 : p2) (h3 : p3) (h4 : p4) (h5 : p5) (h6 : p6) (h7 : p7) (h8 : p8) (h9 : p9) : ∀ x ∈ [p0, p1, p2, p3, p4, p5, p6, p7, p8, p9], x := mem_cons h0 (k9 h1 h2 h3 h4 h5 h6 h7 h8 h9)
theorem k11 {p0 p1 p2 p3 p4 p5 p6 p7 p8 p9 p10 : Prop} (h0 : p0) (h1 : p1) (h2 : p2) (h3 : p3) (h4 : p4) (h5 : p5) (h6 : p6) (h7 : p7) (h8 : p8) (h9 : p9) (h10 : p10) : ∀ x ∈ [p0, p1, p2, p3, p4, p5, p6, p7, p8, p9, p10], x := mem_cons h0 (k10 h1 h2 h3 h4 h5 h6 h7 h8 h9 h10)
theorem k12 {p0 p1 p2 p3 p4 p5 p6 p7 p8 p9 p10 p11 : Prop} (h0 : p0) (h1 : p1) (h2 : p2) (h3 : p3) (h4 : p4) (h5 : p5) (h6 : p6) (h7 : p7) (h8 : p8) (h9 : p9) (h10 : p10) (h11 : p11) : ∀ x ∈ [p0, p1, p2, p3, p4, p5, p6, p7, p8, p9, p10, p11], x := mem_cons h0 (k11 h1 h2 h3 h4 h5 h6 h7 h8 h9 h10 h11)
theorem k13 {p0 p1 p2 p3 p4 p5 p6 p7 p8 p9 p10 p11 p12 : Prop} (h0 : p0) (h1 : p1) (h2 : p2) (h3 : p3) (h4 : p4) (h5 : p5) (h6 : p6) (h7 : p7) (h8 : p8) (h9 : p9) (h10 : p10) (h11 : p11) (h12 : p12) : ∀ x ∈ [p0, p1, p2, p3, p4, p5, p6, p7, p8, p9, p10, p11, p12], x := mem_cons h0 (k12 h1 h2 h3 h4 h5 h6 h7 h8 h9 h10 h11 h12)
theorem k14 {p0 p1 p2 p3 p4 p5 p6 p7 p8 p9 p10 p11 p12 p13 : Prop} (h0 : p0) (h1 : p1) (h2 : p2) (h3 : p3) (h4 : p4) (h5 : p5) (h6 : p6) (h7 : p7) (h8 : p8) (h9 : p9) (h10 : p10) (h11 : p11) (h12 : p12) (h13 : p13) : ∀ x ∈ [p0, p1, p2, p3, p4, p5, p6, p7, p8, p9, p10, p11, p12, p13], x := mem_cons h0 (k13 h1 h2 h3 h4 h5 h6 h7 h8 h9 h10 h11 h12 h13)
theorem k15 {p0 p1 p2 p3 p4 p5 p6 p7 p8 p9 p10 p11 p12 p13 p14 : Prop} (h0 : p0) (h1 : p1) (h2 : p2) (h3 : p3) (h4 : p4) (h5 : p5) (h6 : p6) (h7 : p7) (h8 : p8) (h9 : p9) (h10 : p10) (h11 : p11) (h12 : p12) (h13 : p13) (h14 : p14) : ∀ x ∈ [p0, p1, p2, p3, p4, p5, p6, p7, p8, p9, p10, p11, p12, p13, p14], x := mem_cons h0 (k14 h1 h2 h3 h4 h5 h6 h7 h8 h9 h10 h11 h12 h13 h14)
theorem k16 {p0 p1 p2 p3 p4 p5 p6 p7 p8 p9 p10 p11 p12 p13 p14 p15 : Prop} (h0 : p0) (h1 : p1) (h2 : p2) (h3 : p3) (h4 : p4) (h5 : p5) (h6 : p6) (h7 : p7) (h8 : p8) (h9 : p9) (h10 : p10) (h11 : p11) (h12 : p12) (h13 : p13) (h14 : p14) (h15 : p15) : ∀ x ∈ [p0, p1, p2, p3, p4, p5, p6, p7, p8, p9, p10, p11, p12, p13, p14, p15], x := mem_cons h0 (k15 h1 h2 h3 h4 h5 h6 h7 h8 h9 h10 h11 h12 h13 h14 h15)
theorem k17 {p0 p1 p2 p3 p4 p5 p6 p7 p8 p9 p10 p11 p12 p13 p14 p15 p16 : Prop} (h0 : p0) (h1 : p1) (h2 : p2) (h3 : p3) (h4 : p4) (h5 : p5) (h6 : p6) (h7 : p7) (h8 : p8) (h9 : p9) (h10 : p10) (h11 : p11) (h12 : p12) (h13 : p13) (h14 : p14) (h15 : p15) (h16 : p16) : ∀ x ∈ [p0, p1, p2, p3, p4, p5, p6, p7, p8, p9, p10, p11, p12, p13, p14, p15, p16], x := mem_cons h0 (k16 h1 h2 h3 h4 h5 h6 h7 h8 h9 h10 h11 h12 h13 h14 h15 h16)
theorem k18 {p0 p1 p2 p3 p4 p5 p6 p7 p8 p9 p10 p11 p12 p13 p14 p15 p16 p17 : Prop} (h0 : p0) (h1 : p1) (h2 : p2) (h3 : p3) (h4 : p4) (h5 : p5) (h6 : p6) (h7 : p7) (h8 : p8) (h9 : p9) (h10 : p10) (h11 : p11) (h12 : p12) (h13 : p13) (h14 : p14) (h15 : p15) (h16 : p16) (h17 : p17) : ∀ x ∈ [p0, p1, p2, p3, p4, p5, p6, p7, p8, p9, p10, p11, p12, p13, p14, p15, p16, p17], x := mem_cons h0 (k17 h1 h2 h3 h4 h5 h6 h7 h8 h9 h10 h11 h12 h13 h14 h15 h16 h17)
theorem k19 {p0 p1 p2 p3 p4 p5 p6 p7 p8 p9 p10 p11 p12 p13 p14 p15 p16 p17 p18 : Prop} (h0 : p0) (h1 : p1) (h2 : p2) (h3 : p3) (h4 : p4) (h5 : p5) (h6 : p6) (h7 : p7) (h8 : p8) (h9 : p9) (h10 : p10) (h11 : p11) (h12 : p12) (h13 : p13) (h14 : p14) (h15 : p15) (h16 : p16) (h17 : p17) (h18 : p18) : ∀ x ∈ [p0, p1, p2, p3, p4, p5, p6, p7, p8, p9, p10, p11, p12, p13, p14, p15, p16, p17, p18], x := mem_cons h0 (k18 h1 h2 h3 h4 h5 h6 h7 h8 h9 h10 h11 h12 h13 h14 h15 h16 h17 h18)
theorem k20 {p0 p1 p2 p3 p4 p5 p6 p7 p8 p9 p10 p11 p12 p13 p14 p15 p16 p17 p18 p19 : Prop} (h0 : p0) (h1 : p1) (h2 : p2) (h3 : p3) (h4 : p4) (h5 : p5) (h6 : p6) (h7 : p7) (h8 : p8) (h9 : p9) (h10 : p10) (h11 : p11) (h12 : p12) (h13 : p13) (h14 : p14) (h15 : p15) (h16 : p16) (h17 : p17) (h18 : p18) (h19 : p19) : ∀ x ∈ [p0, p1, p2, p3, p4, p5, p6, p7, p8, p9, p10, p11, p12, p13, p14, p15, p16, p17, p18, p19], x := mem_cons h0 (k19 h1 h2 h3 h4 h5 h6 h7 h8 h9 h10 h11 h12 h13 h14 h15 h16 h17 h18 h19)
/-- the five boxes -/
noncomputable def B : Nat → Str
  | 0 => ⟨#[]⟩
  | 1 => ⟨#[10]⟩
  | 2 => ⟨#[34]⟩
  | 3 => ⟨#[92]⟩
  | 4 => ⟨#[97]⟩
  | _ => ⟨#[]⟩
theorem B_lt_fin : ∀ i j : Fin 5, decide ((B i.val).cps.toList < (B j.val).cps.toList) = decide (i.val < j.val) := by decide +kernel
theorem B_eq_fin : ∀ i j : Fin 5, ((B i.val).cps.toList == (B j.val).cps.toList) = decide (i.val = j.val) := by decide +kernel
theorem B_lt {i j : Nat} (hi : i < 5) (hj : j < 5) : decide ((B i).cps.toList < (B j).cps.toList) = decide (i < j) := B_lt_fin ⟨i, hi⟩ ⟨j, hj⟩
theorem B_eq {i j : Nat} (hi : i < 5) (hj : j < 5) : ((B i).cps.toList == (B j).cps.toList) = decide (i = j) := B_eq_fin ⟨i, hi⟩ ⟨j, hj⟩
inductive Bx : List Value → List Nat → Prop where
  | nil : Bx [] []
  | cons {k : Nat} (hk : k < 5) (t : Nat) {vs : List Value} {ks : List Nat} (h : Bx vs ks) : Bx (.str (B k) t :: vs) (k :: ks)
theorem Bx.length {vs : List Value} {ks : List Nat} (h : Bx vs ks) : vs.length = ks.length := by
  induction h with
  | nil => rfl
  | cons hk t h ih => simp [ih]
theorem Bx.get {vs : List Value} {ks : List Nat} (h : Bx vs ks) : ∀ {i k : Nat}, ks[i]? = some k → k < 5 ∧ ∃ t, vs[i]? = some (.str (B k) t) := by
  induction h with
  | nil => intro i k e; cases e
  | cons hk t h ih =>
    intro i k e
    cases i with
    | zero => cases e; exact ⟨hk, t, rfl⟩
    | succ n => exact ih (i := n) (by simpa using e)
theorem Bx.append {vs us : List Value} {ks ms : List Nat} (h : Bx vs ks) (h' : Bx us ms) : Bx (vs ++ us) (ks ++ ms) := by
  induction h with
  | nil => exact h'
  | cons hk t h ih => exact .cons hk t ih
theorem Bx.take {vs : List Value} {ks : List Nat} (h : Bx vs ks) : ∀ n, Bx (vs.take n) (ks.take n) := by
  induction h with
  | nil => intro n; simp; exact .nil
  | cons hk t h ih => intro n; cases n with
    | zero => exact .nil
    | succ n => exact .cons hk t (ih n)
theorem Bx.drop {vs : List Value} {ks : List Nat} (h : Bx vs ks) : ∀ n, Bx (vs.drop n) (ks.drop n) := by
  induction h with
  | nil => intro n; simp; exact .nil
  | cons hk t h ih => intro n; cases n with
    | zero => exact .cons hk t h
    | succ n => exact ih n
theorem Bx.eraseIdx {vs : List Value} {ks : List Nat} (h : Bx vs ks) : ∀ n, Bx (vs.eraseIdx n) (ks.eraseIdx n) := by
  induction h with
  | nil => intro n; simp; exact .nil
  | cons hk t h ih => intro n; cases n with
    | zero => exact h
    | succ n => exact .cons hk t (ih n)
theorem Bx.set {vs : List Value} {ks : List Nat} (h : Bx vs ks) {k : Nat} (hk : k < 5) (t : Nat) : ∀ n, Bx (vs.set n (.str (B k) t)) (ks.set n k) := by
  induction h with
  | nil => intro n; simp; exact .nil
  | cons hk' t' h ih => intro n; cases n with
    | zero => exact .cons hk t h
    | succ n => exact .cons hk' t' (ih n)
/-- bisect_right, as it goes -/
noncomputable def bisGo (ks : List Nat) (x : Nat) : Nat → Nat → Nat → Nat
  | 0, lo, _ => lo
  | n + 1, lo, hi => if lo < hi then (if x < ks.getD ((lo + hi) / 2) 0 then bisGo ks x n lo ((lo + hi) / 2) else bisGo ks x n ((lo + hi) / 2 + 1) hi) else lo
noncomputable def bisN (ks : List Nat) (x : Nat) : Nat := bisGo ks x (ks.length + 1) 0 ks.length
theorem bisGo_le (ks : List Nat) (x : Nat) : ∀ n lo hi, lo ≤ hi → bisGo ks x n lo hi ≤ hi
  | 0, lo, hi, h => h
  | n + 1, lo, hi, h => by
    unfold bisGo
    split
    · split
      · exact Nat.le_trans (bisGo_le ks x n _ _ (by lia)) (by lia)
      · exact bisGo_le ks x n _ _ (by lia)
    · exact h
theorem bisN_le (ks : List Nat) (x : Nat) : bisN ks x ≤ ks.length := bisGo_le ks x _ _ _ (Nat.zero_le _)
noncomputable def bisF (κ : Nat → Int) (τ : Nat → Nat) (l : Nat) (x : Str) (tx : Nat) (lo : Int) (t1 : Nat) (r : List (Str × Value)) : Obj :=
  frm κ τ ((s_a, .ref l) :: (s_x, .str x tx) :: (s_lo, .int lo t1) :: r)
noncomputable def bisH0 (l L : Nat) (vs : List Value) (ep : Nat) (x : Str) (tx : Nat) (lo hi : Int) (t1 t2 : Nat) (κ : Nat → Int) (τ : Nat → Nat) (r : List (Str × Value)) : List Slot :=
  [⟨false, l, lst vs ep⟩, ⟨true, L, bisF κ τ l x tx lo t1 ((s_hi, .int hi t2) :: (s_key, .none) :: r)⟩]
noncomputable def hBisW (P : Params) (vs : List Value) (ep : Nat) (x : Str) (tx : Nat) (lo hi : Int) (k : Nat) : Handler := fun c H =>
  some ⟨[], [(c, bisCode P (slA H 1))], [(H, bisH0 (slA H 0) (slA H 1) vs ep x tx lo hi (vTok (slV H 1 2)) (vTok (slV H 1 3)) (slK H 1) (slT H 1) [])], [], 0, 1, 1, fun _ _ _ => .ok .next,
    fun _ ts fs => [⟨false, slA H 0, lst vs ep⟩, ⟨true, slA H 1, bisF (fs.getD 0 frx0).κ (fs.getD 0 frx0).τ (slA H 0) x tx k (ts.getD 0 0) (fs.getD 0 frx0).nv⟩]⟩
noncomputable def bisBody (P : Params) (L : Nat) : Code := .func (fnB (st 2)) (envOf 32 (fdOf (to32 P)) L)
section
variable (prog : Program) (P : Params) (b1 b2 : Bool)
noncomputable def bis_a0_h (y : Str) (ty : Nat) : List Hint := [.slot 1, .slot 1, .sum (hILt true), .slot 1, .slot 1, .call, .call, .slot 1, .slot 1, .slot 1, .slot 1, .slot 1, .slot 0, .slot 0, .slot 0, .sum (hLGet 0 (.str y ty)), .sum (hSLt true), .slot 1, .slot 1, .slot 1]
theorem bis_a0 (O : Orc) (l L : Nat) (κ : Nat → Int) (τ : Nat → Nat) (vs : List Value) (ep : Nat) (x y : Str) (lo hi : Int) (tx ty t1 t2 : Nat) : Seg (run (eE prog P b1 b2 O) 61 (bis_a0_h y ty) (.root (denoteZ (bisCode P L))) ⟨[⟨false, l, lst vs ep⟩, wS L (frm κ τ [(s_a, .ref l), (s_x, .str x tx), (s_lo, .int lo t1), (s_hi, .int hi t2), (s_key, .none)])], 0, 0, 0⟩)
    [decide (lo < hi) = true, (0 : Int) ≤ Z.divQ (lo + hi) (2 : Int) ∧ Z.divQ (lo + hi) (2 : Int) < (1000000 : Int), vs[(Z.divQ (lo + hi) (2 : Int)).toNat]? = some (Value.str y ty), decide (x.cps.toList < y.cps.toList) = true] (.pure (.again (bisCode P L))) [⟨false, (l), lst (vs) (ep)⟩, wS (L) (frm (ext κ 5 [hz prog (mkP P b1 b2) s_mid]) (ext τ 5 [(O.tok 3)]) [(s_a, .ref (l)), (s_x, .str x (tx)), (s_lo, .int (lo) (t1)), (s_hi, .int (Z.divQ (lo + hi) (2 : Int)) (O.tok 2)), (s_key, .none), (s_mid, .int (Z.divQ (lo + hi) (2 : Int)) (O.tok 2))])] := by cases b2 <;> exact sg5 (by kernel_rfl)
noncomputable def bis_b0_h (y : Str) (ty : Nat) : List Hint := [.slot 1, .slot 1, .sum (hILt true), .slot 1, .slot 1, .call, .call, .slot 1, .slot 1, .slot 1, .slot 1, .slot 1, .slot 0, .slot 0, .slot 0, .sum (hLGet 0 (.str y ty)), .sum (hSLt false), .slot 1, .call, .slot 1, .slot 1]
theorem bis_b0 (O : Orc) (l L : Nat) (κ : Nat → Int) (τ : Nat → Nat) (vs : List Value) (ep : Nat) (x y : Str) (lo hi : Int) (tx ty t1 t2 : Nat) : Seg (run (eE prog P b1 b2 O) 67 (bis_b0_h y ty) (.root (denoteZ (bisCode P L))) ⟨[⟨false, l, lst vs ep⟩, wS L (frm κ τ [(s_a, .ref l), (s_x, .str x tx), (s_lo, .int lo t1), (s_hi, .int hi t2), (s_key, .none)])], 0, 0, 0⟩)
    [decide (lo < hi) = true, (0 : Int) ≤ Z.divQ (lo + hi) (2 : Int) ∧ Z.divQ (lo + hi) (2 : Int) < (1000000 : Int), vs[(Z.divQ (lo + hi) (2 : Int)).toNat]? = some (Value.str y ty), decide (x.cps.toList < y.cps.toList) = false] (.pure (.again (bisCode P L))) [⟨false, (l), lst (vs) (ep)⟩, wS (L) (frm (ext κ 5 [hz prog (mkP P b1 b2) s_mid]) (ext τ 5 [(O.tok 3)]) [(s_a, .ref (l)), (s_x, .str x (tx)), (s_lo, .int (Z.divQ (lo + hi) (2 : Int) + (1 : Int)) (O.tok 5)), (s_hi, .int (hi) (t2)), (s_key, .none), (s_mid, .int (Z.divQ (lo + hi) (2 : Int)) (O.tok 2))])] := by cases b2 <;> exact sg5 (by kernel_rfl)
noncomputable def bis_c0_h : List Hint := [.slot 1, .slot 1, .sum (hILt false)]
theorem bis_c0 (O : Orc) (l L : Nat) (κ : Nat → Int) (τ : Nat → Nat) (vs : List Value) (ep : Nat) (x y : Str) (lo hi : Int) (tx ty t1 t2 : Nat) : Seg (run (eE prog P b1 b2 O) 13 (bis_c0_h) (.root (denoteZ (bisCode P L))) ⟨[⟨false, l, lst vs ep⟩, wS L (frm κ τ [(s_a, .ref l), (s_x, .str x tx), (s_lo, .int lo t1), (s_hi, .int hi t2), (s_key, .none)])], 0, 0, 0⟩)
    [decide (lo < hi) = false] (.pure (.done .next)) [⟨false, (l), lst (vs) (ep)⟩, wS (L) (frm κ τ [(s_a, .ref (l)), (s_x, .str x (tx)), (s_lo, .int (lo) (t1)), (s_hi, .int (hi) (t2)), (s_key, .none)])] := by cases b2 <;> exact sg5 (by kernel_rfl)
noncomputable def bis_a1_h (y : Str) (ty : Nat) : List Hint := [.slot 1, .slot 1, .sum (hILt true), .slot 1, .slot 1, .call, .call, .slot 1, .slot 1, .slot 1, .slot 1, .slot 1, .slot 0, .slot 0, .slot 0, .sum (hLGet 0 (.str y ty)), .sum (hSLt true), .slot 1, .slot 1, .slot 1]
theorem bis_a1 (O : Orc) (l L : Nat) (κ : Nat → Int) (τ : Nat → Nat) (vs : List Value) (ep : Nat) (x y : Str) (lo hi : Int) (tx ty t1 t2 : Nat) (vm : Value) : Seg (run (eE prog P b1 b2 O) 61 (bis_a1_h y ty) (.root (denoteZ (bisCode P L))) ⟨[⟨false, l, lst vs ep⟩, wS L (frm κ τ [(s_a, .ref l), (s_x, .str x tx), (s_lo, .int lo t1), (s_hi, .int hi t2), (s_key, .none), (s_mid, vm)])], 0, 0, 0⟩)
    [decide (lo < hi) = true, (0 : Int) ≤ Z.divQ (lo + hi) (2 : Int) ∧ Z.divQ (lo + hi) (2 : Int) < (1000000 : Int), vs[(Z.divQ (lo + hi) (2 : Int)).toNat]? = some (Value.str y ty), decide (x.cps.toList < y.cps.toList) = true] (.pure (.again (bisCode P L))) [⟨false, (l), lst (vs) (ep)⟩, wS (L) (frm κ τ [(s_a, .ref (l)), (s_x, .str x (tx)), (s_lo, .int (lo) (t1)), (s_hi, .int (Z.divQ (lo + hi) (2 : Int)) (O.tok 2)), (s_key, .none), (s_mid, .int (Z.divQ (lo + hi) (2 : Int)) (O.tok 2))])] := by cases b2 <;> exact sg5 (by kernel_rfl)
noncomputable def bis_b1_h (y : Str) (ty : Nat) : List Hint := [.slot 1, .slot 1, .sum (hILt true), .slot 1, .slot 1, .call, .call, .slot 1, .slot 1, .slot 1, .slot 1, .slot 1, .slot 0, .slot 0, .slot 0, .sum (hLGet 0 (.str y ty)), .sum (hSLt false), .slot 1, .call, .slot 1, .slot 1]
theorem bis_b1 (O : Orc) (l L : Nat) (κ : Nat → Int) (τ : Nat → Nat) (vs : List Value) (ep : Nat) (x y : Str) (lo hi : Int) (tx ty t1 t2 : Nat) (vm : Value) : Seg (run (eE prog P b1 b2 O) 67 (bis_b1_h y ty) (.root (denoteZ (bisCode P L))) ⟨[⟨false, l, lst vs ep⟩, wS L (frm κ τ [(s_a, .ref l), (s_x, .str x tx), (s_lo, .int lo t1), (s_hi, .int hi t2), (s_key, .none), (s_mid, vm)])], 0, 0, 0⟩)
    [decide (lo < hi) = true, (0 : Int) ≤ Z.divQ (lo + hi) (2 : Int) ∧ Z.divQ (lo + hi) (2 : Int) < (1000000 : Int), vs[(Z.divQ (lo + hi) (2 : Int)).toNat]? = some (Value.str y ty), decide (x.cps.toList < y.cps.toList) = false] (.pure (.again (bisCode P L))) [⟨false, (l), lst (vs) (ep)⟩, wS (L) (frm κ τ [(s_a, .ref (l)), (s_x, .str x (tx)), (s_lo, .int (Z.divQ (lo + hi) (2 : Int) + (1 : Int)) (O.tok 5)), (s_hi, .int (hi) (t2)), (s_key, .none), (s_mid, .int (Z.divQ (lo + hi) (2 : Int)) (O.tok 2))])] := by cases b2 <;> exact sg5 (by kernel_rfl)
noncomputable def bis_c1_h : List Hint := [.slot 1, .slot 1, .sum (hILt false)]
theorem bis_c1 (O : Orc) (l L : Nat) (κ : Nat → Int) (τ : Nat → Nat) (vs : List Value) (ep : Nat) (x y : Str) (lo hi : Int) (tx ty t1 t2 : Nat) (vm : Value) : Seg (run (eE prog P b1 b2 O) 13 (bis_c1_h) (.root (denoteZ (bisCode P L))) ⟨[⟨false, l, lst vs ep⟩, wS L (frm κ τ [(s_a, .ref l), (s_x, .str x tx), (s_lo, .int lo t1), (s_hi, .int hi t2), (s_key, .none), (s_mid, vm)])], 0, 0, 0⟩)
    [decide (lo < hi) = false] (.pure (.done .next)) [⟨false, (l), lst (vs) (ep)⟩, wS (L) (frm κ τ [(s_a, .ref (l)), (s_x, .str x (tx)), (s_lo, .int (lo) (t1)), (s_hi, .int (hi) (t2)), (s_key, .none), (s_mid, vm)])] := by cases b2 <;> exact sg5 (by kernel_rfl)
noncomputable def bis_p2_h : List Hint := [.top, .top, .slot 1, .slot 1, .slot 1, .slot 1, .slot 1, .slot 1, .slot 1, .slot 1, .slot 1, .slot 1]
theorem bis_p2 (O : Orc) (l : Nat) (vs : List Value) (ep : Nat) (x : Str) (tx : Nat) : Seg (run (eE prog P b1 b2 O) 29 (bis_p2_h) (.root (preZ 32 (fdOf (to32 P)) ⟨[.ref l, .str x tx], []⟩)) ⟨[⟨false, l, lst vs ep⟩], 0, 0, 0⟩)
    [] (.pure (envOf 32 (fdOf (to32 P)) (O.addr 0))) [⟨false, (l), lst (vs) (ep)⟩, wS (O.addr 0) (frm (ext zeroI 0 [hz prog (mkP P b1 b2) s_a, hz prog (mkP P b1 b2) s_x, hz prog (mkP P b1 b2) s_lo, hz prog (mkP P b1 b2) s_hi, hz prog (mkP P b1 b2) s_key]) (ext zeroN 0 [(O.tok 0), (O.tok 1), (O.tok 2), (O.tok 3), (O.tok 4)]) [(s_a, .ref (l)), (s_x, .str x (tx)), (s_lo, .int ((0 : Int)) (202)), (s_hi, .none), (s_key, .none)])] := sg5 (by kernel_rfl)
noncomputable def bis_p4_h : List Hint := [.top, .top, .slot 1, .slot 1, .slot 1, .slot 1, .slot 1, .slot 1, .slot 1, .slot 1, .slot 1, .slot 1]
theorem bis_p4 (O : Orc) (l : Nat) (vs : List Value) (ep : Nat) (x : Str) (tx : Nat) (lo : Int) (t1 : Nat) : Seg (run (eE prog P b1 b2 O) 29 (bis_p4_h) (.root (preZ 32 (fdOf (to32 P)) ⟨[.ref l, .str x tx, .int lo t1, .none], []⟩)) ⟨[⟨false, l, lst vs ep⟩], 0, 0, 0⟩)
    [] (.pure (envOf 32 (fdOf (to32 P)) (O.addr 0))) [⟨false, (l), lst (vs) (ep)⟩, wS (O.addr 0) (frm (ext zeroI 0 [hz prog (mkP P b1 b2) s_a, hz prog (mkP P b1 b2) s_x, hz prog (mkP P b1 b2) s_lo, hz prog (mkP P b1 b2) s_hi, hz prog (mkP P b1 b2) s_key]) (ext zeroN 0 [(O.tok 0), (O.tok 1), (O.tok 2), (O.tok 3), (O.tok 4)]) [(s_a, .ref (l)), (s_x, .str x (tx)), (s_lo, .int (lo) (t1)), (s_hi, .none), (s_key, .none)])] := sg5 (by kernel_rfl)
end
section
variable (prog : Program) (d : Source → Nat → Nat) (P : Params) (b1 b2 : Bool) {T : Tops} (hT : ∀ a o, (topT P).get a = some o → T a o) {lv : Nat}
include hT
theorem bis_a0_ok (hl : 1 ≤ lv) (y : Str) (ty : Nat) : HsOk prog (wd d P b1 b2) T lv (bis_a0_h y ty) := ⟨(hILt_ok hT _).mono _ _ _ hl, (hLGet_ok _ _).mono _ _ _ (lw hl), (hSLt_ok hT _).mono _ _ _ hl, trivial⟩
theorem bis_b0_ok (hl : 1 ≤ lv) (y : Str) (ty : Nat) : HsOk prog (wd d P b1 b2) T lv (bis_b0_h y ty) := ⟨(hILt_ok hT _).mono _ _ _ hl, (hLGet_ok _ _).mono _ _ _ (lw hl), (hSLt_ok hT _).mono _ _ _ hl, trivial⟩
theorem bis_c0_ok (hl : 1 ≤ lv) : HsOk prog (wd d P b1 b2) T lv (bis_c0_h) := ⟨(hILt_ok hT _).mono _ _ _ hl, trivial⟩
theorem bis_a1_ok (hl : 1 ≤ lv) (y : Str) (ty : Nat) : HsOk prog (wd d P b1 b2) T lv (bis_a1_h y ty) := ⟨(hILt_ok hT _).mono _ _ _ hl, (hLGet_ok _ _).mono _ _ _ (lw hl), (hSLt_ok hT _).mono _ _ _ hl, trivial⟩
theorem bis_b1_ok (hl : 1 ≤ lv) (y : Str) (ty : Nat) : HsOk prog (wd d P b1 b2) T lv (bis_b1_h y ty) := ⟨(hILt_ok hT _).mono _ _ _ hl, (hLGet_ok _ _).mono _ _ _ (lw hl), (hSLt_ok hT _).mono _ _ _ hl, trivial⟩
theorem bis_c1_ok (hl : 1 ≤ lv) : HsOk prog (wd d P b1 b2) T lv (bis_c1_h) := ⟨(hILt_ok hT _).mono _ _ _ hl, trivial⟩
theorem bis_p2_ok (hl : 1 ≤ lv) : HsOk prog (wd d P b1 b2) T lv (bis_p2_h) := trivial
theorem bis_p4_ok (hl : 1 ≤ lv) : HsOk prog (wd d P b1 b2) T lv (bis_p4_h) := trivial
end
section
variable (prog : Program) (P : Params) (b1 b2 : Bool)
noncomputable def bis_f_h (P : Params) (vs : List Value) (ep : Nat) (x : Str) (tx : Nat) (lo : Int) (k : Nat) : List Hint := [.slot 1, .sum (hILt false), .slot 1, .top, .top, .slot 1, .sum (hLen 0), .slot 1, .slot 1, .slot 1, .sum (hBisW P vs ep x tx lo vs.length k), .slot 1]
theorem bis_f (O : Orc) (l L : Nat) (κ : Nat → Int) (τ : Nat → Nat) (vs : List Value) (ep : Nat) (x : Str) (tx : Nat) (lo : Int) (t1 : Nat) (k : Nat) : Seg (run (eE prog P b1 b2 O) 43 (bis_f_h P vs ep x tx lo k) (.root (denoteZ (bisBody P L))) ⟨[⟨false, l, lst vs ep⟩, wS L (frm κ τ [(s_a, .ref l), (s_x, .str x tx), (s_lo, .int lo t1), (s_hi, .none), (s_key, .none)])], 0, 0, 0⟩)
    [decide (lo < (0 : Int)) = false, vs.length < 1000000] (.pure (.done (.ret (.int ((↑k : Int)) (O.tok 3))))) [⟨false, (l), lst (vs) (ep)⟩, wS (L) (bisF (O.fr 0).κ (O.fr 0).τ l x tx k (O.tok 3) (O.fr 0).nv)] := by cases b2 <;> exact sg5 (by kernel_rfl)
end
section
variable (prog : Program) (d : Source → Nat → Nat) (P : Params) (b1 b2 : Bool) {T : Tops} (hT : ∀ a o, (topT P).get a = some o → T a o) {lv : Nat}
include hT
theorem bis_f_ok (hl : 1 ≤ lv) (vs : List Value) (ep : Nat) (x : Str) (tx : Nat) (lo : Int) (k : Nat) (hw : HOk prog (wd d P b1 b2) T lv (hBisW P vs ep x tx lo vs.length k)) : HsOk prog (wd d P b1 b2) T lv (bis_f_h P vs ep x tx lo k) := ⟨(hILt_ok hT _).mono _ _ _ hl, (hLen_ok _).mono _ _ _ (lw hl), hw, trivial⟩
end
theorem divQ_nat (a b : Nat) : Z.divQ ((a : Int) + (b : Int)) 2 = (((a + b) / 2 : Nat) : Int) := by
  rw [← Z.divQ_eq, Int.fdiv_eq_ediv_of_nonneg _ (by decide)]
  lia
section
variable (prog : Program) (d : Source → Nat → Nat) (P : Params) (b1 b2 : Bool) {T : Tops} (hT : ∀ a o, (topT P).get a = some o → T a o)
noncomputable def bisΦ (l L : Nat) (vs : List Value) (ep : Nat) (x : Str) (tx : Nat) (k : Nat) : Result → List Slot → Prop := fun r H' =>
  r = .ok .next ∧ ∃ κ τ t1 nv, H' = [⟨false, l, lst vs ep⟩, ⟨true, L, bisF κ τ l x tx k t1 nv⟩]
include hT
theorem bis_loop {l L : Nat} {vs : List Value} {ep : Nat} {ks : List Nat} (hb : Bx vs ks) (hlen : vs.length < 100000) {x : Nat} (hx : x < 5) {tx : Nat} :
    ∀ (n lo hi : Nat) (κ : Nat → Int) (τ : Nat → Nat) (t1 t2 : Nat) (r : List (Str × Value)), hi - lo < n → hi ≤ ks.length → (r = [] ∨ ∃ vm, r = [(s_mid, vm)]) →
    Tri prog (wd d P b1 b2) 2 T (bisCode P L) (bisH0 l L vs ep (B x) tx lo hi t1 t2 κ τ r) (bisΦ l L vs ep (B x) tx (bisGo ks x n lo hi))
  | 0, lo, hi, κ, τ, t1, t2, r, hn, _, _ => by lia
  | n + 1, lo, hi, κ, τ, t1, t2, r, hn, hh, hr => by
    by_cases hlt : lo < hi
    · -- a turn
      have hm : (lo + hi) / 2 < ks.length := by lia
      obtain ⟨y, hy⟩ : ∃ y, ks[(lo + hi) / 2]? = some y := ⟨_, List.getElem?_eq_getElem hm⟩
      obtain ⟨hy5, ty, hvy⟩ := hb.get hy
      have hgd : ks.getD ((lo + hi) / 2) 0 = y := by rw [List.getD_eq_getElem?_getD, hy]; rfl
      have hvl := hb.length
      have c1 : decide ((lo : Int) < (hi : Int)) = true := decide_eq_true (by lia)
      have c2 : 0 ≤ Z.divQ ((lo : Int) + hi) 2 ∧ Z.divQ ((lo : Int) + hi) 2 < 1000000 := by rw [divQ_nat]; lia
      have c3 : vs[(Z.divQ ((lo : Int) + hi) 2).toNat]? = some (.str (B y) ty) := by rw [divQ_nat, Int.toNat_natCast]; exact hvy
      have step : bisGo ks x (n + 1) lo hi = if x < y then bisGo ks x n lo ((lo + hi) / 2) else bisGo ks x n ((lo + hi) / 2 + 1) hi := by
        rw [← hgd]; conv => lhs; unfold bisGo
        rw [if_pos hlt]
      rw [step]
      by_cases hxy : x < y
      · rw [if_pos hxy]
        have c4 : decide ((B x).cps.toList < (B y).cps.toList) = true := by rw [B_lt hx hy5]; exact decide_eq_true hxy
        have cs := k4 c1 c2 c3 c4
        rcases hr with rfl | ⟨vm, rfl⟩
        · refine tri_again hT (lv := 1) rfl (bis_a0_ok prog d P b1 b2 hT (Nat.le_refl _) (B y) ty) (fun O => bis_a0 prog P b1 b2 O l L κ τ vs ep (B x) (B y) lo hi tx ty t1 t2) (fun _ => cs) (fun _ => rfl) fun O => ?_
          rw [divQ_nat]
          exact bis_loop hb hlen hx n lo ((lo + hi) / 2) _ _ t1 (O.tok 2) [(s_mid, _)] (by lia) (by lia) (.inr ⟨_, rfl⟩)
        · refine tri_again hT (lv := 1) rfl (bis_a1_ok prog d P b1 b2 hT (Nat.le_refl _) (B y) ty) (fun O => bis_a1 prog P b1 b2 O l L κ τ vs ep (B x) (B y) lo hi tx ty t1 t2 vm) (fun _ => cs) (fun _ => rfl) fun O => ?_
          rw [divQ_nat]
          exact bis_loop hb hlen hx n lo ((lo + hi) / 2) _ _ t1 (O.tok 2) [(s_mid, _)] (by lia) (by lia) (.inr ⟨_, rfl⟩)
      · rw [if_neg hxy]
        have c4 : decide ((B x).cps.toList < (B y).cps.toList) = false := by rw [B_lt hx hy5]; exact decide_eq_false hxy
        have cs := k4 c1 c2 c3 c4
        rcases hr with rfl | ⟨vm, rfl⟩
        · refine tri_again hT (lv := 1) rfl (bis_b0_ok prog d P b1 b2 hT (Nat.le_refl _) (B y) ty) (fun O => bis_b0 prog P b1 b2 O l L κ τ vs ep (B x) (B y) lo hi tx ty t1 t2) (fun _ => cs) (fun _ => rfl) fun O => ?_
          rw [divQ_nat]
          exact bis_loop hb hlen hx n ((lo + hi) / 2 + 1) hi _ _ (O.tok 5) t2 [(s_mid, _)] (by lia) (by lia) (.inr ⟨_, rfl⟩)
        · refine tri_again hT (lv := 1) rfl (bis_b1_ok prog d P b1 b2 hT (Nat.le_refl _) (B y) ty) (fun O => bis_b1 prog P b1 b2 O l L κ τ vs ep (B x) (B y) lo hi tx ty t1 t2 vm) (fun _ => cs) (fun _ => rfl) fun O => ?_
          rw [divQ_nat]
          exact bis_loop hb hlen hx n ((lo + hi) / 2 + 1) hi _ _ (O.tok 5) t2 [(s_mid, _)] (by lia) (by lia) (.inr ⟨_, rfl⟩)
    · have c1 : decide ((lo : Int) < (hi : Int)) = false := decide_eq_false (by lia)
      have step : bisGo ks x (n + 1) lo hi = lo := by unfold bisGo; rw [if_neg hlt]
      rw [step]
      rcases hr with rfl | ⟨vm, rfl⟩
      · exact tri_done hT (lv := 1) rfl (bis_c0_ok prog d P b1 b2 hT (Nat.le_refl _)) (fun O => bis_c0 prog P b1 b2 O l L κ τ vs ep (B x) (B x) lo hi tx tx t1 t2) (fun _ => k1 c1) fun O => ⟨rfl, _, _, t1, _, rfl⟩
      · exact tri_done hT (lv := 1) rfl (bis_c1_ok prog d P b1 b2 hT (Nat.le_refl _)) (fun O => bis_c1 prog P b1 b2 O l L κ τ vs ep (B x) (B x) lo hi tx tx t1 t2 vm) (fun _ => k1 c1) fun O => ⟨rfl, _, _, t1, _, rfl⟩
theorem hBisW_ok {vs : List Value} {ep : Nat} {ks : List Nat} (hb : Bx vs ks) (hlen : vs.length < 100000) {x : Nat} (hx : x < 5) {tx : Nat} : HOk prog (wd d P b1 b2) T 2 (hBisW P vs ep (B x) tx (0 : Nat) vs.length (bisN ks x)) := by
  intro c H out e hi A s hA hS
  cases e
  obtain ⟨h1, h2, hh, h3⟩ := hi
  have ec := h2 _ (.head _)
  have eh := hh _ (.head _)
  dsimp only at ec eh
  have hAm : OkA 2 (A.mark none) := ⟨by show (none : Option Value).or A.handled = none; rw [hA.handled]; rfl, hA.depth, hA.units⟩
  have key := bis_loop prog d P b1 b2 hT hb hlen hx (tx := tx) (l := slA H 0) (L := slA H 1) (ep := ep) (ks.length + 1) 0 ks.length (slK H 1) (slT H 1) (vTok (slV H 1 2)) (vTok (slV H 1 3)) [] (by lia) (Nat.le_refl _) (.inl rfl) _ s hAm
  rw [← hb.length, ← eh, ← ec] at key
  refine CallsTo.of_code _ _ (codeAny_mono (key hS) ?_)
  rintro r s' ⟨H', ⟨rfl, κ, τ, t1, nv, rfl⟩, hp⟩
  exact ⟨[], [t1], [⟨κ, τ, nv, []⟩], rfl, rfl, rfl, rfl, by rw [hb.length] at hp; exact hp⟩
end
section
variable (prog : Program) (d : Source → Nat → Nat) (P : Params) (b1 b2 : Bool) {T : Tops} (hT : ∀ a o, (topT P).get a = some o → T a o)
include hT
theorem bis_call {l : Nat} {vs : List Value} {ep : Nat} {ks : List Nat} (hb : Bx vs ks) (hlen : vs.length < 100000) {x : Nat} (hx : x < 5) {tx : Nat} {more : List Value} (hm : more = [] ∨ ∃ t, more = [.int 0 t, .none]) :
    Tri prog (wd d P b1 b2) 3 T (.call (.ref 32) ⟨.ref l :: .str (B x) tx :: more, []⟩) [⟨false, l, lst vs ep⟩] (fun r H' => (∃ t, r = .ok (.ret (.int (bisN ks x : Nat) t))) ∧ True) := by
  have body : ∀ (L : Nat) (κ : Nat → Int) (τ : Nat → Nat) (t1 : Nat), Tri prog (wd d P b1 b2) 3 T (bisBody P L) [⟨false, l, lst vs ep⟩, ⟨true, L, frm κ τ [(s_a, .ref l), (s_x, .str (B x) tx), (s_lo, .int 0 t1), (s_hi, .none), (s_key, .none)]⟩] (fun r H' => (∃ t, r = .ok (.ret (.int (bisN ks x : Nat) t))) ∧ True) := fun L κ τ t1 =>
    tri_done hT (lv := 2) rfl (bis_f_ok prog d P b1 b2 hT (by decide) vs ep (B x) tx 0 (bisN ks x) (hBisW_ok prog d P b1 b2 hT hb hlen hx)) (fun O => bis_f prog P b1 b2 O l L κ τ vs ep (B x) tx 0 t1 (bisN ks x)) (fun _ => k2 (by decide) (by lia)) fun O => ⟨⟨_, rfl⟩, trivial⟩
  rcases hm with rfl | ⟨t, rfl⟩
  · exact tri_def hT (lv := 2) (hT 32 (to32 P) rfl) rfl rfl rfl rfl rfl (hT 31 (to31 P) rfl) rfl rfl (hT 2 (to2 P) rfl) rfl (bis_p2_ok prog d P b1 b2 hT (by decide)) (fun O => bis_p2 prog P b1 b2 O l vs ep (B x) tx) (fun _ => mem0) fun O => body _ _ _ _
  · exact tri_def hT (lv := 2) (hT 32 (to32 P) rfl) rfl rfl rfl rfl rfl (hT 31 (to31 P) rfl) rfl rfl (hT 2 (to2 P) rfl) rfl (bis_p4_ok prog d P b1 b2 hT (by decide)) (fun O => bis_p4 prog P b1 b2 O l vs ep (B x) tx 0 t) (fun _ => mem0) fun O => body _ _ _ _
end
noncomputable def hBisO (x : Nat) (ks : List Nat) (H : List Slot) (f a a' : Nat) (s : Str) (vs : List Value) (c : Prop) : HOut := ⟨[(f, 32), (a, a')], [], [], [c, s = B x, Bx vs ks, x < 5, vs.length < 100000], 0, 1, 0, fun _ ts _ => .ok (.ret (.int (bisN ks x : Nat) (ts.getD 0 0))), fun _ _ _ => H⟩
noncomputable def hBisO1 (x : Nat) (ks : List Nat) (H : List Slot) (f a a' : Nat) (s : Str) (vs : List Value) : HOut := ⟨[(f, 32), (a, a')], [], [], [s = B x, Bx vs ks, x < 5, vs.length < 100000], 0, 1, 0, fun _ ts _ => .ok (.ret (.int (bisN ks x : Nat) (ts.getD 0 0))), fun _ _ _ => H⟩
noncomputable def hBis (j x : Nat) (ks : List Nat) : Handler := fun c H => rBs c (fun f a s _ => onLa H j fun a' vs _ => some (hBisO1 x ks H f a a' s vs)) (fun f a s _ i _ => onLa H j fun a' vs _ => some (hBisO x ks H f a a' s vs (i = 0)))
section
variable (prog : Program) (d : Source → Nat → Nat) (P : Params) (b1 b2 : Bool) {T : Tops} (hT : ∀ a o, (topT P).get a = some o → T a o)
theorem OkA.mk' {n : Nat} {A : Around} (hA : OkA n A) : OkA n (A.mark none) := ⟨by show (none : Option Value).or A.handled = none; rw [hA.handled]; rfl, hA.depth, hA.units⟩
/-- the slot alone, to be read -/
theorem Sat.sub1 {T : Tops} {H : List Slot} {s : Shared} (hS : Sat T s H) {j a : Nat} {w : Bool} {o : Obj} (hg : getSlot H j = some ⟨w, a, o⟩) {w' : Bool} (hw : w' = true → w = true) : Sat T s [⟨w', a, o⟩] :=
  ⟨hS.top, hS.gens, hS.toks, fun sl h => by rw [List.mem_singleton.mp h]; exact hS.has ⟨w, a, o⟩ (getSlot_mem hg), by simp, fun sl h hw' => by rw [List.mem_singleton.mp h] at hw' ⊢; exact hS.wr ⟨w, a, o⟩ (getSlot_mem hg) (hw hw')⟩
include hT
theorem hBis_ok (j x : Nat) (ks : List Nat) : HOk prog (wd d P b1 b2) T 3 (hBis j x ks) := by
  intro c H out e hi A s hA hS
  unfold hBis at e
  refine rBs_elim (P := fun c => CallsTo _ _ A c s _) e (fun f a sx t e1 => ?_) fun f a sx t i ti e1 => ?_
  · refine onLa_elim e1 fun w' a' vs ep hl e2 => ?_
    clear e e1
    cases e2
    obtain ⟨h1, h2, hh, h3⟩ := hi
    have e1 : f = 32 := h1 (f, 32) (.head _)
    have e2 : a = a' := h1 (a, a') (.tail _ (.head _))
    have c1 := h3 _ (.head _)
    have c2 := h3 _ (.tail _ (.head _))
    have c3 := h3 _ (.tail _ (.tail _ (.head _)))
    have c4 := h3 _ (.tail _ (.tail _ (.tail _ (.head _))))
    clear h1 h2 hh h3
    subst e1 e2 c1
    have hg := lstAt_eq hl
    refine CallsTo.of_code _ _ (codeAny_mono (bis_call prog d P b1 b2 hT c2 c4 c3 (.inl rfl) _ s hA.mk' (hS.sub1 hg (w' := false) (by intro h; cases h))) ?_)
    rintro r s' ⟨H', ⟨⟨t', rfl⟩, _⟩, hp⟩
    exact ⟨[], [t'], [], rfl, rfl, rfl, rfl, hp.liftR hS (by simp)⟩
  · refine onLa_elim e1 fun w' a' vs ep hl e2 => ?_
    clear e e1
    cases e2
    obtain ⟨h1, h2, hh, h3⟩ := hi
    have e1 : f = 32 := h1 (f, 32) (.head _)
    have e2 : a = a' := h1 (a, a') (.tail _ (.head _))
    have c0 := h3 _ (.head _)
    have c1 := h3 _ (.tail _ (.head _))
    have c2 := h3 _ (.tail _ (.tail _ (.head _)))
    have c3 := h3 _ (.tail _ (.tail _ (.tail _ (.head _))))
    have c4 := h3 _ (.tail _ (.tail _ (.tail _ (.tail _ (.head _)))))
    clear h1 h2 hh h3
    subst e1 e2 c1 c0
    have hg := lstAt_eq hl
    refine CallsTo.of_code _ _ (codeAny_mono (bis_call prog d P b1 b2 hT c2 c4 c3 (.inr ⟨ti, rfl⟩) _ s hA.mk' (hS.sub1 hg (w' := false) (by intro h; cases h))) ?_)
    rintro r s' ⟨H', ⟨⟨t', rfl⟩, _⟩, hp⟩
    exact ⟨[], [t'], [], rfl, rfl, rfl, rfl, hp.liftR hS (by simp)⟩
end
end Mine
namespace Mine
open PySem PySem.W
/-- the body of the i-th def, at address a -/
noncomputable def fnCode (P : Params) (a : Nat) (o : Obj) (i : Nat) (L : Nat) : Code := .func (fnB (st i)) (envOf a (fdOf o) L)
end Mine
namespace Mine
open PySem PySem.W PySem.W.X PyProof.Rows
section
variable (prog : Program) (P : Params) (b1 b2 : Bool)
noncomputable def ins_p_h : List Hint := [.top, .top, .slot 1, .slot 1, .slot 1, .slot 1, .slot 1, .slot 1, .slot 1, .slot 1, .slot 1, .slot 1]
theorem ins_p (O : Orc) (l : Nat) (vs : List Value) (ep : Nat) (sx : Str) (tx : Nat) (x : Nat) : Seg (run (eE prog P b1 b2 O) 29 (ins_p_h) (.root (preZ 23 (fdOf (to23 P)) ⟨[.ref l, .str sx tx], []⟩)) ⟨[wS l (lst vs ep)], 0, 0, 0⟩)
    [] (.pure (envOf 23 (fdOf (to23 P)) (O.addr 0))) [wS (l) (lst (vs) (ep)), wS (O.addr 0) (frm (ext zeroI 0 [hz prog (mkP P b1 b2) s_a, hz prog (mkP P b1 b2) s_x, hz prog (mkP P b1 b2) s_lo, hz prog (mkP P b1 b2) s_hi, hz prog (mkP P b1 b2) s_key]) (ext zeroN 0 [(O.tok 0), (O.tok 1), (O.tok 2), (O.tok 3), (O.tok 4)]) [(s_a, .ref (l)), (s_x, .str sx (tx)), (s_lo, .int ((0 : Int)) (189)), (s_hi, .none), (s_key, .none)])] := sg5 (by kernel_rfl)
noncomputable def ins_f_h (x : Nat) (ks : List Nat) : List Hint := [.slot 1, .top, .slot 1, .slot 1, .slot 1, .slot 1, .top, .sum (hBis 0 x ks), .slot 1, .slot 1, .slot 1, .slot 0, .slot 0, .slot 0, .slot 0, .slot 1, .slot 1, .sum (hLIns 0)]
theorem ins_f (O : Orc) (l : Nat) (vs : List Value) (ep : Nat) (sx : Str) (tx : Nat) (x : Nat) (L : Nat) (κ : Nat → Int) (τ : Nat → Nat) (t1 : Nat) (ks : List Nat) : Seg (run (eE prog P b1 b2 O) 49 (ins_f_h x ks) (.root (denoteZ (fnCode P 23 (to23 P) 1 L))) ⟨[wS l (lst vs ep), wS L (frm κ τ [(s_a, .ref l), (s_x, .str sx tx), (s_lo, .int 0 t1), (s_hi, .none), (s_key, .none)])], 0, 0, 0⟩)
    [(0 : Int) = (0 : Int), sx = B x, Bx vs ks, x < 5, vs.length < 100000, (0 : Int) ≤ (↑(bisN ks x) : Int) ∧ (↑(bisN ks x) : Int) ≤ (↑vs.length : Int) ∧ vs.length < 1000000] (.pure (.done (.ret (.none)))) [wS (l) (lst (List.take (↑(bisN ks x) : Int).toNat vs ++ Value.str sx tx :: List.drop (↑(bisN ks x) : Int).toNat vs) (ep + 1)), wS (L) (frm κ τ [(s_a, .ref (l)), (s_x, .str sx (tx)), (s_lo, .int ((↑(bisN ks x) : Int)) (O.tok 0)), (s_hi, .none), (s_key, .none)])] := sg5 (by kernel_rfl)
end
section
variable (prog : Program) (d : Source → Nat → Nat) (P : Params) (b1 b2 : Bool) {T : Tops} (hT : ∀ a o, (topT P).get a = some o → T a o) {lv : Nat}
include hT
theorem ins_p_ok (hl : 0 ≤ lv) : HsOk prog (wd d P b1 b2) T lv (ins_p_h) := trivial
theorem ins_f_ok (hl : 3 ≤ lv) (x : Nat) (ks : List Nat) : HsOk prog (wd d P b1 b2) T lv (ins_f_h x ks) := ⟨(hBis_ok prog d P b1 b2 hT _ _ _).mono _ _ _ hl, (hLIns_ok _).mono _ _ _ (lw hl), trivial⟩
end
section
variable (prog : Program) (d : Source → Nat → Nat) (P : Params) (b1 b2 : Bool) {T : Tops} (hT : ∀ a o, (topT P).get a = some o → T a o)
include hT
theorem ins_call {l : Nat} {vs : List Value} {ep : Nat} {ks : List Nat} (hb : Bx vs ks) (hlen : vs.length < 100000) {x : Nat} (hx : x < 5) {tx : Nat} :
    Tri prog (wd d P b1 b2) 4 T (.call (.ref 23) ⟨[.ref l, .str (B x) tx], []⟩) [⟨true, l, lst vs ep⟩] (fun r H' => r = .ok (.ret .none) ∧ ∃ sl, H' = [⟨true, l, lst (vs.take (bisN ks x) ++ .str (B x) tx :: vs.drop (bisN ks x)) (ep + 1)⟩, sl]) := by
  refine tri_def hT (lv := 3) (hT 23 (to23 P) rfl) rfl rfl rfl rfl rfl (hT 22 (to22 P) rfl) rfl rfl (hT 2 (to2 P) rfl) rfl (ins_p_ok prog d P b1 b2 hT (by decide)) (fun O => ins_p prog P b1 b2 O l vs ep (B x) tx x) (fun _ => mem0) fun O => ?_
  have hk := bisN_le ks x
  have hl := hb.length
  exact tri_done hT (lv := 3) rfl (ins_f_ok prog d P b1 b2 hT (by decide) x ks) (fun O' => ins_f prog P b1 b2 O' l vs ep (B x) tx x (O.addr 0) _ _ 189 ks)
    (fun _ => k6 rfl rfl hb hx hlen ⟨by lia, by lia, by lia⟩) fun O => ⟨rfl, _, by rw [Int.toNat_natCast]⟩
end
noncomputable def hInsO (j : Nat) (x : Nat) (ks : List Nat) (H : List Slot) (f : Nat) (a : Nat) (s : Str) (t : Nat) (a' : Nat) (vs : List Value) (ep : Nat) : HOut := ⟨[(f, 23), (a, a')], [], [], [s = B x, Bx vs ks, x < 5, vs.length < 100000], 0, 0, 0, fun _ ts _ => .ok (.ret .none), fun _ _ _ => setSlot H j (lst (vs.take (bisN ks x) ++ .str s t :: vs.drop (bisN ks x)) (ep + 1))⟩
noncomputable def hIns (j x : Nat) (ks : List Nat) : Handler := fun c H => rRS c (fun f a s t => onL H j fun a' vs ep => some (hInsO j x ks H f a s t a' vs ep))
section
variable (prog : Program) (d : Source → Nat → Nat) (P : Params) (b1 b2 : Bool) {T : Tops} (hT : ∀ a o, (topT P).get a = some o → T a o)
include hT
theorem hIns_ok (j x : Nat) (ks : List Nat) : HOk prog (wd d P b1 b2) T 4 (hIns j x ks) := by
  intro c H out e hi A s hA hS
  unfold hIns at e
  refine rRS_elim (P := fun c => CallsTo _ _ A c s _) e fun f a sx t e1 => ?_
  refine onL_elim e1 fun a' vs ep hl e2 => ?_
  clear e e1
  cases e2
  obtain ⟨h1, h2, hh, h3⟩ := hi
  have e1 : f = 23 := h1 (f, 23) (.head _)
  have e2 : a = a' := h1 (a, a') (.tail _ (.head _))
  have c1 := h3 _ (.head _)
  have c2 := h3 _ (.tail _ (.head _))
  have c3 := h3 _ (.tail _ (.tail _ (.head _)))
  have c4 := h3 _ (.tail _ (.tail _ (.tail _ (.head _))))
  clear h1 h2 hh h3
  subst e1 e2 c1
  have hg := lstAt_eq hl
  refine CallsTo.of_code _ _ (codeAny_mono (ins_call prog d P b1 b2 hT c2 c4 c3 _ s hA.mk' (hS.sub1 hg (w' := true) (fun _ => rfl))) ?_)
  rintro r s' ⟨H', ⟨rfl, sl, rfl⟩, hp⟩
  exact ⟨[], [], [], rfl, rfl, rfl, rfl, hp.liftW hS hg (by simp) ⟨_, .head _, rfl, rfl⟩⟩
end
end Mine
namespace Mine
open PySem PySem.W
noncomputable def lamOf (e : PySem.Expr) : Option (Arguments × PySem.Expr × Scope) := some ((xV e).2.1, (xV e).1.getD 0 default, (xV e).2.2)
noncomputable def asgV (s : Stmt) : PySem.Expr := ((sV s).1.getD 0 default)
/-- the addresses of a lexer's parts -/
structure LX where
  I : Nat
  D : Nat
  Pb : Nat
  F : Nat
  FD : Nat
  R : Nat
  CR : Nat
  C : Nat
  Sg : Nat
  κ : Nat → Int
  τ : Nat → Nat
  κf : Int
  τf : Nat
  tw : Nat
  ff : FuncData
  oc : Obj
  ct : Value
noncomputable def lamA : Arguments × PySem.Expr × Scope := (lamOf (asgV ((fnB (st 11)).getD 3 default))).getD default
noncomputable def lamFd (X : LX) : FuncData := { name := ⟨#[60, 108, 97, 109, 98, 100, 97, 62]⟩, qualname := ⟨#[95, 108, 97, 119, 95, 108, 101, 120, 101, 114, 46, 60, 108, 111, 99, 97, 108, 115, 62, 46, 60, 108, 97, 109, 98, 100, 97, 62]⟩, params := lamA.1, body := .expr lamA.2.1, scope := lamA.2.2, globals := 3, closure := [(s_signs, X.C)], defaults := .none, kwdefaults := .none, doc := .none, pyModule := .str s_law_qu0025_01 321, annotations := none, code := .ref X.CR, closureTuple := X.ct, builtins := 0 }
noncomputable def lexDict (X : LX) (ln : Int) (tl : Nat) : Obj := ⟨.type "dict", none, .dict ⟨frmE X.κ X.τ 0 [(s_lineno, .int ln tl), (s_instream, .ref X.F), (s_whitespace, .str sx9 X.tw), (s_pushback, .ref X.Pb)]⟩ 4, #[]⟩
/-- a lexer's slots: its line number, what is pushed back, the signs that are left -/
noncomputable def lexS (X : LX) (ln : Int) (tl : Nat) (pb : List Value) (eb : Nat) (sg : List Value) (es : Nat) : List Slot :=
  [⟨false, X.I, ⟨.ref 98, some X.D, .plain, #[]⟩⟩, ⟨true, X.D, lexDict X ln tl⟩, ⟨true, X.Pb, lst pb eb⟩, ⟨false, X.F, ⟨.type "function", some X.FD, .func X.ff, #[]⟩⟩,
   ⟨false, X.FD, ⟨.type "dict", none, .dict ⟨[⟨X.κf, .str ⟨#[114, 101, 97, 100]⟩ X.τf, .ref X.R⟩]⟩ 1, #[]⟩⟩, ⟨false, X.R, ⟨.type "function", none, .func (lamFd X), #[]⟩⟩, ⟨false, X.CR, X.oc⟩,
   ⟨false, X.C, ⟨.type "cell", none, .cell (some (.ref X.Sg)), #[]⟩⟩, ⟨true, X.Sg, lst sg es⟩]
noncomputable def allW : List Slot → Bool
  | [] => true
  | s :: r => match s.w with
    | true => allW r
    | false => false
theorem allW_mem : ∀ {H : List Slot}, allW H = true → ∀ x ∈ H, x.w = true
  | [], _, x, hx => by cases hx
  | s :: r, h, x, hx => by
    unfold allW at h
    split at h
    · rename_i hw
      rcases List.mem_cons.mp hx with rfl | hx
      · exact hw
      · exact allW_mem h x hx
    · cases h
theorem ro_c {a : Slot} {G K : List Slot} (h : ∀ x ∈ G, x.w = false → x ∈ K) : ∀ x ∈ a :: G, x.w = false → x ∈ a :: K := fun x hx hw => by
  rcases List.mem_cons.mp hx with e | hx
  · exact e ▸ .head _
  · exact .tail _ (h x hx hw)
theorem ro_w {a b : Slot} {G K : List Slot} (ha : a.w = true) (h : ∀ x ∈ G, x.w = false → x ∈ K) : ∀ x ∈ a :: G, x.w = false → x ∈ b :: K := fun x hx hw => by
  rcases List.mem_cons.mp hx with e | hx
  · rw [e, ha] at hw; cases hw
  · exact .tail _ (h x hx hw)
theorem lexS_ro {X : LX} {ln ln' : Int} {tl tl' eb eb' es es' : Nat} {pb pb' sg sg' : List Value} {A B' : List Slot} (hA : ∀ x ∈ A, x.w = true) : ∀ x ∈ lexS X ln tl pb eb sg es ++ A, x.w = false → x ∈ lexS X ln' tl' pb' eb' sg' es' ++ B' :=
  ro_c (ro_w rfl (ro_w rfl (ro_c (ro_c (ro_c (ro_c (ro_c (ro_w rfl fun x hx hw => by rw [hA x hx] at hw; cases hw))))))))
end Mine
namespace Mine
open PySem PySem.W PySem.W.X PyProof.Rows
noncomputable def lItems (o : Obj) : List Value := match o.data with | .seq ⟨vs⟩ _ => vs | _ => []
noncomputable def lEp (o : Obj) : Nat := match o.data with | .seq _ n => n | _ => 0
noncomputable def fdo (o : Obj) : FuncData := match o.data with | .func fd => fd | _ => default
noncomputable def vInt : Value → Int
  | .int i _ => i
  | _ => 0
noncomputable def dropS : Nat → List Slot → List Slot
  | 0, H => H
  | _ + 1, [] => []
  | n + 1, _ :: r => dropS n r
noncomputable def takeS : Nat → List Slot → List Slot
  | 0, _ => []
  | _ + 1, [] => []
  | n + 1, x :: r => x :: takeS n r
noncomputable def appS : List Slot → List Slot → List Slot
  | [], b => b
  | x :: a, b => x :: appS a b
theorem appS_eq : ∀ a b : List Slot, appS a b = a ++ b
  | [], b => rfl
  | x :: a, b => by rw [appS, appS_eq a b]; rfl
theorem takeS_eq : ∀ (n : Nat) (H : List Slot), takeS n H = H.take n
  | 0, H => rfl
  | n + 1, [] => rfl
  | n + 1, x :: r => by rw [takeS, takeS_eq n r]; rfl
theorem dropS_eq : ∀ (n : Nat) (H : List Slot), dropS n H = H.drop n
  | 0, H => rfl
  | n + 1, [] => rfl
  | n + 1, x :: r => by rw [dropS, dropS_eq n r]; rfl
/-- the lexer's parts, as they lie in the slots from j on -/
noncomputable def lxOf (H : List Slot) (j : Nat) : LX :=
  { I := slA H j, D := slA H (j + 1), Pb := slA H (j + 2), F := slA H (j + 3), FD := slA H (j + 4), R := slA H (j + 5), CR := slA H (j + 6), C := slA H (j + 7), Sg := slA H (j + 8),
    κ := slK H (j + 1), τ := slT H (j + 1), κf := slK H (j + 4) 0, τf := slT H (j + 4) 0, tw := vTok (slV H (j + 1) 2), ff := fdo (slO H (j + 3)), oc := slO H (j + 6), ct := (fdo (slO H (j + 5))).closureTuple }
noncomputable def lxLn (H : List Slot) (j : Nat) : Int := vInt (slV H (j + 1) 0)
noncomputable def lxTl (H : List Slot) (j : Nat) : Nat := vTok (slV H (j + 1) 0)
noncomputable def lxPb (H : List Slot) (j : Nat) : List Value := lItems (slO H (j + 2))
noncomputable def lxEb (H : List Slot) (j : Nat) : Nat := lEp (slO H (j + 2))
noncomputable def lxSg (H : List Slot) (j : Nat) : List Value := lItems (slO H (j + 8))
noncomputable def lxEs (H : List Slot) (j : Nat) : Nat := lEp (slO H (j + 8))
noncomputable def blk (H : List Slot) (j : Nat) : List Slot := takeS 9 (dropS j H)
noncomputable def putBlk (H : List Slot) (j : Nat) (b : List Slot) : List Slot := appS (takeS j H) (appS b (dropS 9 (dropS j H)))
/-- the code record of the reader -/
noncomputable def LX.ok (X : LX) : Prop := ∃ vs tq, X.oc.data = .fields vs ∧ vs[1]? = some (.str (lamFd X).qualname tq)
noncomputable def lexOut (H : List Slot) (j : Nat) (eqs : List (Nat × Nat)) (pb sg : List Value) (conds : List Prop) (nT : Nat) (res : List Nat → Result) (ln : Int) (tl : List Nat → Nat) (pb' : List Value) (eb' : Nat) (sg' : List Value) (es' : Nat) : HOut :=
  ⟨eqs, [], [(blk H j, lexS (lxOf H j) (lxLn H j) (lxTl H j) pb (lxEb H j) sg (lxEs H j))], (lxOf H j).ok :: conds, 0, nT, 0, fun _ ts _ => res ts, fun _ ts _ => putBlk H j (lexS (lxOf H j) ln (tl ts) pb' eb' sg' es')⟩
/-- stream.read(1) at the end -/
noncomputable def hRead0O (j : Nat) (H : List Slot) (r : Nat) (i : Int) : HOut := (lexOut H j [(r, (lxOf H j).R)] (lxPb H j) [] [i = 1] 1 (fun ts => .ok (.ret (.str ⟨#[]⟩ (ts.getD 0 0)))) (lxLn H j) (fun _ => lxTl H j) (lxPb H j) (lxEb H j) [] (lxEs H j))
noncomputable def hRead0 (j : Nat) : Handler := fun c H => rI c (fun r i _ => some (hRead0O j H r i))
/-- stream.read(1): the last sign of the row -/
noncomputable def hRead1O (j : Nat) (sg : List Value) (sc : Str) (tc : Nat) (H : List Slot) (r : Nat) (i : Int) : HOut := (lexOut H j [(r, (lxOf H j).R)] (lxPb H j) (sg ++ [.str sc tc]) [i = 1, sg.length < 100000] 0 (fun ts => .ok (.ret (.str sc tc))) (lxLn H j) (fun _ => lxTl H j) (lxPb H j) (lxEb H j) sg (lxEs H j + 1))
noncomputable def hRead1 (j : Nat) (sg : List Value) (sc : Str) (tc : Nat) : Handler := fun c H => rI c (fun r i _ => some (hRead1O j sg sc tc H r i))
/-- _read_char: a sign that is no line end -/
noncomputable def hCh1O (j : Nat) (sg : List Value) (sc : Str) (tc : Nat) (H : List Slot) (r : Nat) (i : Nat) : HOut := (lexOut H j [(r, 81), (i, (lxOf H j).I)] (lxPb H j) (sg ++ [.str sc tc]) [sg.length < 100000, (sc.cps.toList == [10]) = false] 0 (fun ts => .ok (.ret (.str sc tc))) (lxLn H j) (fun _ => lxTl H j) (lxPb H j) (lxEb H j) sg (lxEs H j + 1))
noncomputable def hCh1 (j : Nat) (sg : List Value) (sc : Str) (tc : Nat) : Handler := fun c H => rR c (fun r i => some (hCh1O j sg sc tc H r i))
/-- _read_char: a line end -/
noncomputable def hChNO (j : Nat) (sg : List Value) (sc : Str) (tc : Nat) (H : List Slot) (r : Nat) (i : Nat) : HOut := (lexOut H j [(r, 81), (i, (lxOf H j).I)] (lxPb H j) (sg ++ [.str sc tc]) [sg.length < 100000, (sc.cps.toList == [10]) = true] 1 (fun ts => .ok (.ret (.str sc tc))) (lxLn H j + 1) (fun ts => ts.getD 0 0) (lxPb H j) (lxEb H j) sg (lxEs H j + 1))
noncomputable def hChN (j : Nat) (sg : List Value) (sc : Str) (tc : Nat) : Handler := fun c H => rR c (fun r i => some (hChNO j sg sc tc H r i))
section
variable (prog : Program) (P : Params) (b1 b2 : Bool)
noncomputable def tok_p_h : List Hint := [.slot 9, .slot 9]
theorem tok_p (O : Orc) (X : LX) (ln : Int) (tl : Nat) (pb : List Value) (eb : Nat) (sg : List Value) (es : Nat) : Seg (run (eE prog P b1 b2 O) 11 (tok_p_h) (.root (preZ 88 (fdOf (to88 P)) ⟨[.ref X.I], []⟩)) ⟨lexS X ln tl pb eb sg es, 0, 0, 0⟩)
    [] (.pure (envOf 88 (fdOf (to88 P)) (O.addr 0))) (lexS X ln tl pb eb sg es ++ [wS (O.addr 0) (frm (ext zeroI 0 [hz prog (mkP P b1 b2) s_self]) (ext zeroN 0 [O.tok 0]) [(s_self, .ref X.I)])]) := sg5 (by kernel_rfl)
noncomputable def tok_a_h (sv : Str) (tv : Nat) : List Hint := [.slot 9, .slot 0, .top, .top, .top, .call, .slot 0, .top, .top, .top, .slot 0, .slot 0, .top, .slot 1, .slot 2, .slot 2, .sum (hLenB 2), .slot 9, .slot 0, .top, .top, .top, .call, .slot 0, .top, .top, .top, .slot 0, .slot 0, .top, .slot 1, .slot 2, .slot 2, .slot 2, .slot 2, .sum (hLPopAt 2 (.str sv tv))]
theorem tok_a (O : Orc) (X : LX) (ln : Int) (tl : Nat) (pb : List Value) (eb : Nat) (sg : List Value) (es : Nat) (sv : Str) (tv : Nat) (L : Nat) (κ : Nat → Int) (τ : Nat → Nat) : Seg (run (eE prog P b1 b2 O) 61 (tok_a_h sv tv) (.root (denoteZ (.func (fnB (ct 2)) (envOf 88 (fdOf (to88 P)) L)))) ⟨lexS X ln tl (.str sv tv :: pb) eb sg es ++ [wS L (frm κ τ [(s_self, .ref X.I)])], 0, 0, 0⟩)
    [(Value.str sv tv :: pb).length < 1000000, (0 : Int) ≤ (0 : Int) ∧ (Value.str sv tv :: pb).length < 1000000, (Value.str sv tv :: pb)[Int.toNat (0 : Int)]? = some (Value.str sv tv)] (.pure (.done (.ret (.str sv (tv))))) (lexS X ln tl pb (eb + 1) sg es ++ [wS L (frm κ τ [(s_self, .ref X.I)])]) := sg5 (by kernel_rfl)
noncomputable def psh_p_h : List Hint := [.slot 9, .slot 9, .slot 9, .slot 9]
theorem psh_p (O : Orc) (X : LX) (ln : Int) (tl : Nat) (pb : List Value) (eb : Nat) (sg : List Value) (es : Nat) (sv : Str) (tv : Nat) : Seg (run (eE prog P b1 b2 O) 15 (psh_p_h) (.root (preZ 95 (fdOf (to95 P)) ⟨[.ref X.I, .str sv tv], []⟩)) ⟨lexS X ln tl pb eb sg es, 0, 0, 0⟩)
    [] (.pure (envOf 95 (fdOf (to95 P)) (O.addr 0))) (lexS X ln tl pb eb sg es ++ [wS (O.addr 0) (frm (ext zeroI 0 [hz prog (mkP P b1 b2) s_self, hz prog (mkP P b1 b2) s_token]) (ext zeroN 0 [O.tok 0, O.tok 1]) [(s_self, .ref X.I), (s_token, .str sv tv)])]) := sg5 (by kernel_rfl)
noncomputable def psh_f_h : List Hint := [.slot 9, .slot 0, .top, .top, .top, .call, .slot 0, .top, .top, .top, .slot 0, .slot 0, .top, .slot 1, .slot 2, .slot 2, .slot 2, .slot 2, .slot 9, .sum (hLApp 2)]
theorem psh_f (O : Orc) (X : LX) (ln : Int) (tl : Nat) (pb : List Value) (eb : Nat) (sg : List Value) (es : Nat) (sv : Str) (tv : Nat) (L : Nat) (κ : Nat → Int) (τ : Nat → Nat) : Seg (run (eE prog P b1 b2 O) 38 (psh_f_h) (.root (denoteZ (.func (fnB (ct 3)) (envOf 95 (fdOf (to95 P)) L)))) ⟨lexS X ln tl pb eb sg es ++ [wS L (frm κ τ [(s_self, .ref X.I), (s_token, .str sv tv)])], 0, 0, 0⟩)
    [pb.length < 1000000] (.pure (.done (.ret (.none)))) (lexS X ln tl (pb ++ [.str sv tv]) (eb + 1) sg es ++ [wS L (frm κ τ [(s_self, .ref X.I), (s_token, .str sv tv)])]) := sg5 (by kernel_rfl)
end
section
variable (prog : Program) (d : Source → Nat → Nat) (P : Params) (b1 b2 : Bool) {T : Tops} (hT : ∀ a o, (topT P).get a = some o → T a o) {lv : Nat}
include hT
theorem tok_p_ok (hl : 0 ≤ lv) : HsOk prog (wd d P b1 b2) T lv (tok_p_h) := trivial
theorem tok_a_ok (hl : 1 ≤ lv) (sv : Str) (tv : Nat) : HsOk prog (wd d P b1 b2) T lv (tok_a_h sv tv) := ⟨(hLenB_ok _).mono _ _ _ (lw hl), (hLPopAt_ok _ _).mono _ _ _ (lw hl), trivial⟩
theorem psh_p_ok (hl : 0 ≤ lv) : HsOk prog (wd d P b1 b2) T lv (psh_p_h) := trivial
theorem psh_f_ok (hl : 1 ≤ lv) : HsOk prog (wd d P b1 b2) T lv (psh_f_h) := ⟨(hLApp_ok _).mono _ _ _ (lw hl), trivial⟩
end
section
variable (prog : Program) (P : Params) (b1 b2 : Bool)
noncomputable def lam_p_h : List Hint := [.slot 9, .slot 9]
theorem lam_p (O : Orc) (X : LX) (ln : Int) (tl : Nat) (pb : List Value) (eb : Nat) (sg : List Value) (es : Nat) (t1 : Nat) : Seg (run (eE prog P b1 b2 O) 11 (lam_p_h) (.root (preZ X.R (lamFd X) ⟨[.int 1 t1], []⟩)) ⟨lexS X ln tl pb eb sg es, 0, 0, 0⟩)
    [] (.pure (envOf X.R (lamFd X) (O.addr 0))) (lexS X ln tl pb eb sg es ++ [wS (O.addr 0) (frm (ext zeroI 0 [hz prog (mkP P b1 b2) s_size]) (ext zeroN 0 [O.tok 0]) [(s_size, .int 1 t1)])]) := sg5 (by kernel_rfl)
noncomputable def lam_e_h : List Hint := [.top, .top, .slot 7, .sum (hLen 8), .sum (hIGt false)]
theorem lam_e (O : Orc) (X : LX) (ln : Int) (tl : Nat) (pb : List Value) (eb : Nat) (sg : List Value) (es : Nat) (L : Nat) (κ : Nat → Int) (τ : Nat → Nat) (t1 : Nat) : Seg (run (eE prog P b1 b2 O) 20 (lam_e_h) (.root (denoteZ (.expr lamA.2.1 (envOf X.R (lamFd X) L)))) ⟨lexS X ln tl pb eb [] es ++ [wS L (frm κ τ [(s_size, .int 1 t1)])], 0, 0, 0⟩)
    [([] : List Value).length < 1000000, decide ((0 : Int) < ((([] : List Value).length : Nat) : Int)) = false] (.pure (.done (.ret (.str ⟨#[]⟩ (O.tok 2))))) (lexS X ln tl pb eb [] es ++ [wS L (frm κ τ [(s_size, .int 1 t1)])]) := by cases b2 <;> exact sg5 (by kernel_rfl)
noncomputable def lam_c_h (sc : Str) (tc : Nat) : List Hint := [.top, .top, .slot 7, .sum (hLen 8), .sum (hIGt true), .slot 7, .slot 8, .slot 8, .slot 8, .slot 8, .sum (hLPop 8 (.str sc tc))]
theorem lam_c (O : Orc) (X : LX) (ln : Int) (tl : Nat) (pb : List Value) (eb : Nat) (sg : List Value) (es : Nat) (L : Nat) (κ : Nat → Int) (τ : Nat → Nat) (t1 : Nat) (sc : Str) (tc : Nat) : Seg (run (eE prog P b1 b2 O) 30 (lam_c_h sc tc) (.root (denoteZ (.expr lamA.2.1 (envOf X.R (lamFd X) L)))) ⟨lexS X ln tl pb eb (sg ++ [.str sc tc]) es ++ [wS L (frm κ τ [(s_size, .int 1 t1)])], 0, 0, 0⟩)
    [(sg ++ [Value.str sc tc]).length < 1000000, decide ((0 : Int) < (↑(sg ++ [Value.str sc tc]).length : Int)) = true, (sg ++ [Value.str sc tc]).length < 1000000, (sg ++ [Value.str sc tc]).getLast? = some (Value.str sc tc)] (.pure (.done (.ret (.str sc (tc))))) (lexS X ln tl pb eb (sg ++ [Value.str sc tc]).dropLast (es + 1) ++ [wS L (frm κ τ [(s_size, .int 1 t1)])]) := by cases b2 <;> exact sg5 (by kernel_rfl)
noncomputable def rch_p_h : List Hint := [.slot 9, .slot 9]
theorem rch_p (O : Orc) (X : LX) (ln : Int) (tl : Nat) (pb : List Value) (eb : Nat) (sg : List Value) (es : Nat) : Seg (run (eE prog P b1 b2 O) 11 (rch_p_h) (.root (preZ 81 (fdOf (to81 P)) ⟨[.ref X.I], []⟩)) ⟨lexS X ln tl pb eb sg es, 0, 0, 0⟩)
    [] (.pure (envOf 81 (fdOf (to81 P)) (O.addr 0))) (lexS X ln tl pb eb sg es ++ [wS (O.addr 0) (frm (ext zeroI 0 [hz prog (mkP P b1 b2) s_self]) (ext zeroN 0 [O.tok 0]) [(s_self, .ref X.I)])]) := sg5 (by kernel_rfl)
noncomputable def rch_e_h : List Hint := [.slot 9, .slot 0, .top, .top, .top, .call, .slot 0, .top, .top, .top, .slot 0, .slot 0, .top, .slot 1, .slot 3, .slot 3, .slot 3, .slot 3, .call, .slot 3, .slot 3, .slot 3, .slot 3, .slot 4, .slot 5, .sum (hRead0 0), .slot 9, .slot 9, .slot 9, .call, .slot 9]
theorem rch_e (O : Orc) (X : LX) (ln : Int) (tl : Nat) (pb : List Value) (eb : Nat) (sg : List Value) (es : Nat) (L : Nat) (κ : Nat → Int) (τ : Nat → Nat) : Seg (run (eE prog P b1 b2 O) 66 (rch_e_h) (.root (denoteZ (.func (fnB (ct 1)) (envOf 81 (fdOf (to81 P)) L)))) ⟨lexS X ln tl pb eb [] es ++ [wS L (frm κ τ [(s_self, .ref X.I)])], 0, 0, 0⟩)
    [X.ok, (1 : Int) = 1] (.pure (.done (.ret (.str ⟨#[]⟩ (O.tok 3))))) (lexS X ln tl pb eb [] es ++ [wS L (frm (ext κ 1 [hz prog (mkP P b1 b2) s_ch]) (ext τ 1 [O.tok 4]) [(s_self, .ref X.I), (s_ch, .str ⟨#[]⟩ (O.tok 3))])]) := by cases b2 <;> exact sg5 (by kernel_rfl)
noncomputable def rch_c_h (sg : List Value) (sc : Str) (tc : Nat) : List Hint := [.slot 9, .slot 0, .top, .top, .top, .call, .slot 0, .top, .top, .top, .slot 0, .slot 0, .top, .slot 1, .slot 3, .slot 3, .slot 3, .slot 3, .call, .slot 3, .slot 3, .slot 3, .slot 3, .slot 4, .slot 5, .sum (hRead1 0 sg sc tc), .slot 9, .slot 9, .slot 9, .sum (hSEq false), .slot 9]
theorem rch_c (O : Orc) (X : LX) (ln : Int) (tl : Nat) (pb : List Value) (eb : Nat) (sg : List Value) (es : Nat) (L : Nat) (κ : Nat → Int) (τ : Nat → Nat) (sc : Str) (tc : Nat) : Seg (run (eE prog P b1 b2 O) 64 (rch_c_h sg sc tc) (.root (denoteZ (.func (fnB (ct 1)) (envOf 81 (fdOf (to81 P)) L)))) ⟨lexS X ln tl pb eb (sg ++ [.str sc tc]) es ++ [wS L (frm κ τ [(s_self, .ref X.I)])], 0, 0, 0⟩)
    [X.ok, (1 : Int) = 1, sg.length < 100000, (sc.cps.toList == [10]) = false] (.pure (.done (.ret (.str sc (tc))))) (lexS X ln tl pb eb sg (es + 1) ++ [wS L (frm (ext κ 1 [hz prog (mkP P b1 b2) s_ch]) (ext τ 1 [O.tok 3]) [(s_self, .ref X.I), (s_ch, .str sc tc)])]) := by cases b2 <;> exact sg5 (by kernel_rfl)
noncomputable def rch_n_h (sg : List Value) (sc : Str) (tc : Nat) : List Hint := [.slot 9, .slot 0, .top, .top, .top, .call, .slot 0, .top, .top, .top, .slot 0, .slot 0, .top, .slot 1, .slot 3, .slot 3, .slot 3, .slot 3, .call, .slot 3, .slot 3, .slot 3, .slot 3, .slot 4, .slot 5, .sum (hRead1 0 sg sc tc), .slot 9, .slot 9, .slot 9, .sum (hSEq true), .slot 9, .slot 0, .top, .top, .top, .call, .slot 0, .top, .top, .top, .slot 0, .slot 0, .top, .slot 1, .call, .slot 0, .top, .top, .top, .call, .slot 0, .top, .slot 0, .top, .slot 0, .top, .top, .top, .slot 0, .top, .slot 1, .slot 1, .slot 1, .slot 9]
theorem rch_n (O : Orc) (X : LX) (ln : Int) (tl : Nat) (pb : List Value) (eb : Nat) (sg : List Value) (es : Nat) (L : Nat) (κ : Nat → Int) (τ : Nat → Nat) (sc : Str) (tc : Nat) : Seg (run (eE prog P b1 b2 O) 114 (rch_n_h sg sc tc) (.root (denoteZ (.func (fnB (ct 1)) (envOf 81 (fdOf (to81 P)) L)))) ⟨lexS X ln tl pb eb (sg ++ [.str sc tc]) es ++ [wS L (frm κ τ [(s_self, .ref X.I)])], 0, 0, 0⟩)
    [X.ok, (1 : Int) = 1, sg.length < 100000, (sc.cps.toList == [10]) = true] (.pure (.done (.ret (.str sc (tc))))) (lexS X (ln + 1) (O.tok 7) pb eb sg (es + 1) ++ [wS L (frm (ext κ 1 [hz prog (mkP P b1 b2) s_ch]) (ext τ 1 [O.tok 3]) [(s_self, .ref X.I), (s_ch, .str sc tc)])]) := by cases b2 <;> exact sg5 (by kernel_rfl)
end
section
variable (prog : Program) (d : Source → Nat → Nat) (P : Params) (b1 b2 : Bool) {T : Tops} (hT : ∀ a o, (topT P).get a = some o → T a o) {lv : Nat}
include hT
theorem lam_p_ok (hl : 0 ≤ lv) : HsOk prog (wd d P b1 b2) T lv (lam_p_h) := trivial
theorem lam_e_ok (hl : 1 ≤ lv) : HsOk prog (wd d P b1 b2) T lv (lam_e_h) := ⟨(hLen_ok _).mono _ _ _ (lw hl), (hIGt_ok hT _).mono _ _ _ hl, trivial⟩
theorem lam_c_ok (hl : 1 ≤ lv) (sc : Str) (tc : Nat) : HsOk prog (wd d P b1 b2) T lv (lam_c_h sc tc) := ⟨(hLen_ok _).mono _ _ _ (lw hl), (hIGt_ok hT _).mono _ _ _ hl, (hLPop_ok _ _).mono _ _ _ (lw hl), trivial⟩
theorem rch_p_ok (hl : 0 ≤ lv) : HsOk prog (wd d P b1 b2) T lv (rch_p_h) := trivial
theorem rch_e_ok (hl : 1 ≤ lv)  (h0 : HOk prog (wd d P b1 b2) T lv (hRead0 0)) : HsOk prog (wd d P b1 b2) T lv (rch_e_h) := ⟨h0, trivial⟩
theorem rch_c_ok (hl : 1 ≤ lv) (sg : List Value) (sc : Str) (tc : Nat) (h1 : HOk prog (wd d P b1 b2) T lv (hRead1 0 sg sc tc)) : HsOk prog (wd d P b1 b2) T lv (rch_c_h sg sc tc) := ⟨h1, (hSEq_ok hT _).mono _ _ _ hl, trivial⟩
theorem rch_n_ok (hl : 1 ≤ lv) (sg : List Value) (sc : Str) (tc : Nat) (h1 : HOk prog (wd d P b1 b2) T lv (hRead1 0 sg sc tc)) : HsOk prog (wd d P b1 b2) T lv (rch_n_h sg sc tc) := ⟨h1, (hSEq_ok hT _).mono _ _ _ hl, trivial⟩
end
theorem apart_congr : ∀ {a b : List Slot}, a.map (fun z => (z.w, z.a)) = b.map (fun z => (z.w, z.a)) → Apart a → Apart b
  | [], [], _, _ => .nil
  | [], _ :: _, h, _ => by cases h
  | _ :: _, [], h, _ => by cases h
  | x :: a, y :: b, h, ha => by
    simp only [List.map_cons, List.cons.injEq, Prod.mk.injEq] at h
    obtain ⟨⟨hw, hx⟩, hr⟩ := h
    have ha' := List.pairwise_cons.mp ha
    refine List.pairwise_cons.mpr ⟨fun z hz => ?_, apart_congr hr ha'.2⟩
    have : (z.w, z.a) ∈ a.map (fun z => (z.w, z.a)) := hr ▸ List.mem_map_of_mem hz
    obtain ⟨z', hz', e⟩ := List.mem_map.mp this
    rw [← hw, ← hx, ← (Prod.mk.inj e).1, ← (Prod.mk.inj e).2]
    exact ha'.1 z' hz'
theorem Sat.part {T : Tops} {s : Shared} {H sub : List Slot} (hS : Sat T s H) (h : sub.Sublist H) : Sat T s sub :=
  ⟨hS.top, hS.gens, hS.toks, fun sl hs => hS.has sl (h.mem hs), hS.apart.sublist h, fun sl hs => hS.wr sl (h.mem hs)⟩
theorem Post.liftB {T : Tops} {s s' : Shared} {pre sub post sub1 sub2 : List Slot} (hS : Sat T s (pre ++ (sub ++ post))) (hP : Post T sub s sub1 s') (h2 : ∀ x ∈ sub2, x ∈ sub1) (hm : sub2.map (fun z => (z.w, z.a)) = sub.map (fun z => (z.w, z.a))) :
    Post T (pre ++ (sub ++ post)) s (pre ++ (sub2 ++ post)) s' := by
  have hap := hS.apart
  rw [List.pairwise_append, List.pairwise_append] at hap
  refine hP.lift hS (fun x hx hw => ⟨x, by simp [hx], hw, rfl⟩) (fun y hy => ?_) (apart_congr (by simp [hm]) hS.apart)
  rcases List.mem_append.mp hy with hy | hy
  · exact .inr ⟨by simp [hy], fun x hx hw => Ne.symm (hap.2.2 y hy x (by simp [hx]) (.inr hw))⟩
  · rcases List.mem_append.mp hy with hy | hy
    · exact .inl ⟨y, h2 y hy, rfl, rfl, fun h => .inl h⟩
    · exact .inr ⟨by simp [hy], fun x hx hw => hap.2.1.2.2 x hx y hy (.inl hw)⟩
theorem blk_split (H : List Slot) (j : Nat) : H = takeS j H ++ (blk H j ++ dropS 9 (dropS j H)) := by
  unfold blk
  rw [takeS_eq, takeS_eq, dropS_eq, dropS_eq, List.take_append_drop, List.take_append_drop]
theorem putBlk_eq (H : List Slot) (j : Nat) (b : List Slot) : putBlk H j b = takeS j H ++ (b ++ dropS 9 (dropS j H)) := by unfold putBlk; rw [appS_eq, appS_eq]
section
variable {prog : Program} {w : World} {T : Tops}
/-- a lexer's handler from its contract -/
theorem lex_hok {lv : Nat} {H : List Slot} {j : Nat} {c : Code} {pb sg pb' sg' : List Value} {conds : List Prop} {nT : Nat} {res : List Nat → Result} {ln' : Int} {tl' : List Nat → Nat} {eb' es' : Nat} {eqs : List (Nat × Nat)}
    (key : Tri prog w lv T c (lexS (lxOf H j) (lxLn H j) (lxTl H j) pb (lxEb H j) sg (lxEs H j)) (fun r H' => ∃ ts : List Nat, ts.length = nT ∧ r = res ts ∧ ∃ new, H' = lexS (lxOf H j) ln' (tl' ts) pb' eb' sg' es' ++ new))
    (hh : blk H j = lexS (lxOf H j) (lxLn H j) (lxTl H j) pb (lxEb H j) sg (lxEs H j)) {A : Around} {s : Shared} (hA : OkA lv A) (hS : Sat T s H) :
    CallsTo prog w A c s (HConc T s H (lexOut H j eqs pb sg conds nT res ln' tl' pb' eb' sg' es')) := by
  have hS' := hS
  rw [blk_split H j] at hS'
  have hsub : Sat T s (blk H j) := hS'.part ((List.sublist_append_left _ _).trans (List.sublist_append_right _ _))
  rw [hh] at hsub
  refine CallsTo.of_code _ _ (codeAny_mono (key _ s hA.mk' hsub) ?_)
  rintro r s' ⟨H', ⟨ts, hl, rfl, new, rfl⟩, hp⟩
  refine ⟨[], ts, [], rfl, hl, rfl, rfl, ?_⟩
  have z := Post.liftB (sub2 := lexS (lxOf H j) ln' (tl' ts) pb' eb' sg' es') (by rw [← hh]; exact hS') hp (fun x hx => by simp [hx]) rfl
  rw [← hh, ← blk_split] at z
  show Post T H s (putBlk H j _) s'
  rw [putBlk_eq]
  exact z
end
section
variable (prog : Program) (d : Source → Nat → Nat) (P : Params) (b1 b2 : Bool) {T : Tops} (hT : ∀ a o, (topT P).get a = some o → T a o)
include hT
theorem read0 {X : LX} (hX : X.ok) {ln : Int} {tl : Nat} {pb : List Value} {eb es t1 : Nat} :
    Tri prog (wd d P b1 b2) 2 T (.call (.ref X.R) ⟨[.int 1 t1], []⟩) (lexS X ln tl pb eb [] es) (fun r H' => ∃ ts : List Nat, ts.length = 1 ∧ r = .ok (.ret (.str ⟨#[]⟩ (ts.getD 0 0))) ∧ ∃ new, H' = lexS X ln tl pb eb [] es ++ new) := by
  obtain ⟨vs, tq, hv, hq⟩ := hX
  have hh : ∀ s, Sat T s (lexS X ln tl pb eb [] es) → s.heap.get? X.R = some ⟨.type "function", none, .func (lamFd X), #[]⟩ := fun s hS => hS.has ⟨false, X.R, _⟩ (by simp [lexS])
  have hc : ∀ s, Sat T s (lexS X ln tl pb eb [] es) → s.heap.get? X.CR = some X.oc := fun s hS => hS.has ⟨false, X.CR, _⟩ (by simp [lexS])
  refine tri_lam hT (lv := 1) hh rfl rfl rfl rfl rfl hc hv hq (hT 2 (to2 P) rfl) rfl (lam_p_ok prog d P b1 b2 hT (lv := 1) (by lia)).get (F := fun O t h => t = .pure (envOf X.R (lamFd X) (O.addr 0)) ∧ h = _) (fun O => (lam_p prog P b1 b2 O X ln tl pb eb [] es t1).good mem0 ⟨rfl, rfl⟩) fun O t h ⟨e1, e2⟩ => ⟨_, e1, ?_⟩
  subst e2
  exact tri_done hT (lv := 1) rfl (lam_e_ok prog d P b1 b2 hT (by decide)) (fun O' => lam_e prog P b1 b2 O' X ln tl pb eb [] es (O.addr 0) _ _ t1) (fun _ => k2 (by simp) (by simp)) fun O' => ⟨[O'.tok 2], rfl, rfl, _, rfl⟩
theorem read1 {X : LX} (hX : X.ok) {ln : Int} {tl : Nat} {pb sg : List Value} {eb es t1 : Nat} {sc : Str} {tc : Nat} (hlen : sg.length < 100000) :
    Tri prog (wd d P b1 b2) 2 T (.call (.ref X.R) ⟨[.int 1 t1], []⟩) (lexS X ln tl pb eb (sg ++ [.str sc tc]) es) (fun r H' => ∃ ts : List Nat, ts.length = 0 ∧ r = .ok (.ret (.str sc tc)) ∧ ∃ new, H' = lexS X ln tl pb eb sg (es + 1) ++ new) := by
  obtain ⟨vs, tq, hv, hq⟩ := hX
  have hh : ∀ s, Sat T s (lexS X ln tl pb eb (sg ++ [.str sc tc]) es) → s.heap.get? X.R = some ⟨.type "function", none, .func (lamFd X), #[]⟩ := fun s hS => hS.has ⟨false, X.R, _⟩ (by simp [lexS])
  have hc : ∀ s, Sat T s (lexS X ln tl pb eb (sg ++ [.str sc tc]) es) → s.heap.get? X.CR = some X.oc := fun s hS => hS.has ⟨false, X.CR, _⟩ (by simp [lexS])
  refine tri_lam hT (lv := 1) hh rfl rfl rfl rfl rfl hc hv hq (hT 2 (to2 P) rfl) rfl (lam_p_ok prog d P b1 b2 hT (lv := 1) (by lia)).get (F := fun O t h => t = .pure (envOf X.R (lamFd X) (O.addr 0)) ∧ h = _) (fun O => (lam_p prog P b1 b2 O X ln tl pb eb _ es t1).good mem0 ⟨rfl, rfl⟩) fun O t h ⟨e1, e2⟩ => ⟨_, e1, ?_⟩
  subst e2
  have hl : (sg ++ [Value.str sc tc]).length < 1000000 := by simp; lia
  exact tri_done hT (lv := 1) rfl (lam_c_ok prog d P b1 b2 hT (by decide) sc tc) (fun O' => lam_c prog P b1 b2 O' X ln tl pb eb sg es (O.addr 0) _ _ t1 sc tc) (fun _ => k4 hl (by simp) hl (by simp)) fun O' => ⟨[], rfl, rfl, _, by rw [List.dropLast_concat]⟩
theorem hRead0_ok (j : Nat) : HOk prog (wd d P b1 b2) T 2 (hRead0 j) := by
  intro c H out e hi A s hA hS
  unfold hRead0 at e
  refine rI_elim (P := fun c => CallsTo _ _ A c s _) e fun r i ti e1 => ?_
  clear e
  cases e1
  obtain ⟨h1, h2, hh, h3⟩ := hi
  have e1 : r = (lxOf H j).R := h1 _ (.head _)
  have hX := h3 _ (.head _)
  have hi : i = 1 := h3 _ (.tail _ (.head _))
  subst e1 hi
  exact lex_hok (read0 prog d P b1 b2 hT hX) (hh _ (.head _)) hA hS
theorem hRead1_ok (j : Nat) (sg : List Value) (sc : Str) (tc : Nat) : HOk prog (wd d P b1 b2) T 2 (hRead1 j sg sc tc) := by
  intro c H out e hi A s hA hS
  unfold hRead1 at e
  refine rI_elim (P := fun c => CallsTo _ _ A c s _) e fun r i ti e1 => ?_
  clear e
  cases e1
  obtain ⟨h1, h2, hh, h3⟩ := hi
  have e1 : r = (lxOf H j).R := h1 _ (.head _)
  have hX := h3 _ (.head _)
  have hi : i = 1 := h3 _ (.tail _ (.head _))
  have hl := h3 _ (.tail _ (.tail _ (.head _)))
  subst e1 hi
  exact lex_hok (read1 prog d P b1 b2 hT hX hl) (hh _ (.head _)) hA hS
theorem ch0 {X : LX} (hX : X.ok) {ln : Int} {tl : Nat} {pb : List Value} {eb es : Nat} :
    Tri prog (wd d P b1 b2) 3 T (.call (.ref 81) ⟨[.ref X.I], []⟩) (lexS X ln tl pb eb [] es) (fun r H' => ∃ ts : List Nat, ts.length = 1 ∧ r = .ok (.ret (.str ⟨#[]⟩ (ts.getD 0 0))) ∧ ∃ new, H' = lexS X ln tl pb eb [] es ++ new) := by
  refine tri_def hT (lv := 2) (hT 81 (to81 P) rfl) rfl rfl rfl rfl rfl (hT 80 (to80 P) rfl) rfl rfl (hT 2 (to2 P) rfl) rfl (rch_p_ok prog d P b1 b2 hT (by decide)) (fun O => rch_p prog P b1 b2 O X ln tl pb eb [] es) (fun _ => mem0) fun O => ?_
  exact tri_done hT (lv := 2) rfl (rch_e_ok prog d P b1 b2 hT (by decide) (hRead0_ok prog d P b1 b2 hT 0)) (fun O' => rch_e prog P b1 b2 O' X ln tl pb eb [] es (O.addr 0) _ _) (fun _ => k2 hX rfl) fun O' => ⟨[O'.tok 3], rfl, rfl, _, rfl⟩
theorem ch1 {X : LX} (hX : X.ok) {ln : Int} {tl : Nat} {pb sg : List Value} {eb es : Nat} {sc : Str} {tc : Nat} (hlen : sg.length < 100000) (hn : (sc.cps.toList == [10]) = false) :
    Tri prog (wd d P b1 b2) 3 T (.call (.ref 81) ⟨[.ref X.I], []⟩) (lexS X ln tl pb eb (sg ++ [.str sc tc]) es) (fun r H' => ∃ ts : List Nat, ts.length = 0 ∧ r = .ok (.ret (.str sc tc)) ∧ ∃ new, H' = lexS X ln tl pb eb sg (es + 1) ++ new) := by
  refine tri_def hT (lv := 2) (hT 81 (to81 P) rfl) rfl rfl rfl rfl rfl (hT 80 (to80 P) rfl) rfl rfl (hT 2 (to2 P) rfl) rfl (rch_p_ok prog d P b1 b2 hT (by decide)) (fun O => rch_p prog P b1 b2 O X ln tl pb eb _ es) (fun _ => mem0) fun O => ?_
  exact tri_done hT (lv := 2) rfl (rch_c_ok prog d P b1 b2 hT (by decide) sg sc tc (hRead1_ok prog d P b1 b2 hT 0 sg sc tc)) (fun O' => rch_c prog P b1 b2 O' X ln tl pb eb sg es (O.addr 0) _ _ sc tc) (fun _ => k4 hX rfl hlen hn) fun O' => ⟨[], rfl, rfl, _, rfl⟩
theorem chN {X : LX} (hX : X.ok) {ln : Int} {tl : Nat} {pb sg : List Value} {eb es : Nat} {sc : Str} {tc : Nat} (hlen : sg.length < 100000) (hn : (sc.cps.toList == [10]) = true) :
    Tri prog (wd d P b1 b2) 3 T (.call (.ref 81) ⟨[.ref X.I], []⟩) (lexS X ln tl pb eb (sg ++ [.str sc tc]) es) (fun r H' => ∃ ts : List Nat, ts.length = 1 ∧ r = .ok (.ret (.str sc tc)) ∧ ∃ new, H' = lexS X (ln + 1) (ts.getD 0 0) pb eb sg (es + 1) ++ new) := by
  refine tri_def hT (lv := 2) (hT 81 (to81 P) rfl) rfl rfl rfl rfl rfl (hT 80 (to80 P) rfl) rfl rfl (hT 2 (to2 P) rfl) rfl (rch_p_ok prog d P b1 b2 hT (by decide)) (fun O => rch_p prog P b1 b2 O X ln tl pb eb _ es) (fun _ => mem0) fun O => ?_
  exact tri_done hT (lv := 2) rfl (rch_n_ok prog d P b1 b2 hT (by decide) sg sc tc (hRead1_ok prog d P b1 b2 hT 0 sg sc tc)) (fun O' => rch_n prog P b1 b2 O' X ln tl pb eb sg es (O.addr 0) _ _ sc tc) (fun _ => k4 hX rfl hlen hn) fun O' => ⟨[O'.tok 7], rfl, rfl, _, rfl⟩
theorem hCh1_ok (j : Nat) (sg : List Value) (sc : Str) (tc : Nat) : HOk prog (wd d P b1 b2) T 3 (hCh1 j sg sc tc) := by
  intro c H out e hi A s hA hS
  unfold hCh1 at e
  refine rR_elim (P := fun c => CallsTo _ _ A c s _) e fun r i e1 => ?_
  clear e
  cases e1
  obtain ⟨h1, h2, hh, h3⟩ := hi
  have e1 : r = 81 := h1 _ (.head _)
  have e2 : i = (lxOf H j).I := h1 _ (.tail _ (.head _))
  have hX := h3 _ (.head _)
  have hl := h3 _ (.tail _ (.head _))
  have hn := h3 _ (.tail _ (.tail _ (.head _)))
  subst e1 e2
  exact lex_hok (ch1 prog d P b1 b2 hT hX hl hn) (hh _ (.head _)) hA hS
theorem hChN_ok (j : Nat) (sg : List Value) (sc : Str) (tc : Nat) : HOk prog (wd d P b1 b2) T 3 (hChN j sg sc tc) := by
  intro c H out e hi A s hA hS
  unfold hChN at e
  refine rR_elim (P := fun c => CallsTo _ _ A c s _) e fun r i e1 => ?_
  clear e
  cases e1
  obtain ⟨h1, h2, hh, h3⟩ := hi
  have e1 : r = 81 := h1 _ (.head _)
  have e2 : i = (lxOf H j).I := h1 _ (.tail _ (.head _))
  have hX := h3 _ (.head _)
  have hl := h3 _ (.tail _ (.head _))
  have hn := h3 _ (.tail _ (.tail _ (.head _)))
  subst e1 e2
  exact lex_hok (chN prog d P b1 b2 hT hX hl hn) (hh _ (.head _)) hA hS
end
noncomputable def mObj (f I : Nat) : Obj := ⟨.type "method", none, .fields ⟨[.ref f, .ref I]⟩, #[]⟩
noncomputable def HOut.meth (o : HOut) (H : List Slot) (j jm m : Nat) : HOut := { o with eqs := (m, slA H jm) :: o.eqs, eqh := (takeS 1 (dropS jm H), [⟨true, slA H jm, mObj 81 (lxOf H j).I⟩]) :: o.eqh }
noncomputable def hM0O (jm j : Nat) (H : List Slot) (m : Nat) : HOut := ((lexOut H j [] (lxPb H j) [] [] 1 (fun ts => .ok (.ret (.str ⟨#[]⟩ (ts.getD 0 0)))) (lxLn H j) (fun _ => lxTl H j) (lxPb H j) (lxEb H j) [] (lxEs H j)).meth H j jm m)
noncomputable def hM0 (jm j : Nat) : Handler := fun c H => rN c (fun m => some (hM0O jm j H m))
noncomputable def hM1O (jm j : Nat) (sg : List Value) (sc : Str) (tc : Nat) (H : List Slot) (m : Nat) : HOut := ((lexOut H j [] (lxPb H j) (sg ++ [.str sc tc]) [sg.length < 100000, (sc.cps.toList == [10]) = false] 0 (fun ts => .ok (.ret (.str sc tc))) (lxLn H j) (fun _ => lxTl H j) (lxPb H j) (lxEb H j) sg (lxEs H j + 1)).meth H j jm m)
noncomputable def hM1 (jm j : Nat) (sg : List Value) (sc : Str) (tc : Nat) : Handler := fun c H => rN c (fun m => some (hM1O jm j sg sc tc H m))
noncomputable def hMNO (jm j : Nat) (sg : List Value) (sc : Str) (tc : Nat) (H : List Slot) (m : Nat) : HOut := ((lexOut H j [] (lxPb H j) (sg ++ [.str sc tc]) [sg.length < 100000, (sc.cps.toList == [10]) = true] 1 (fun ts => .ok (.ret (.str sc tc))) (lxLn H j + 1) (fun ts => ts.getD 0 0) (lxPb H j) (lxEb H j) sg (lxEs H j + 1)).meth H j jm m)
noncomputable def hMN (jm j : Nat) (sg : List Value) (sc : Str) (tc : Nat) : Handler := fun c H => rN c (fun m => some (hMNO jm j sg sc tc H m))
theorem codeAny_method {prog : Program} {w : World} {A : Around} {s : Shared} {R : Result → Shared → Prop} {m f I : Nat} {args : List Value} (ho : s.heap.get? m = some (mObj f I)) (h : codeAny (model prog w) A (.call (.ref f) ⟨.ref I :: args, []⟩) R s) : codeAny (model prog w) A (.call (.ref m) ⟨args, []⟩) R s := by
  refine codeAny_of_tree ?_
  show wpAny _ _ (callAny (.ref m) ⟨args, []⟩) _ _ s
  simp only [callAny]
  refine wpAny_bind (wpAny_load ho ?_)
  exact wpAny_pure ⟨rfl, h⟩
section
variable {prog : Program} {w : World} {T : Tops}
theorem meth_hok {lv : Nat} {H : List Slot} {j jm m : Nat} {pb sg pb' sg' : List Value} {conds : List Prop} {nT : Nat} {res : List Nat → Result} {ln' : Int} {tl' : List Nat → Nat} {eb' es' : Nat} {eqs : List (Nat × Nat)}
    (key : Tri prog w lv T (.call (.ref 81) ⟨[.ref (lxOf H j).I], []⟩) (lexS (lxOf H j) (lxLn H j) (lxTl H j) pb (lxEb H j) sg (lxEs H j)) (fun r H' => ∃ ts : List Nat, ts.length = nT ∧ r = res ts ∧ ∃ new, H' = lexS (lxOf H j) ln' (tl' ts) pb' eb' sg' es' ++ new))
    (hh : blk H j = lexS (lxOf H j) (lxLn H j) (lxTl H j) pb (lxEb H j) sg (lxEs H j)) (hm : m = slA H jm) (hmo : takeS 1 (dropS jm H) = [⟨true, slA H jm, mObj 81 (lxOf H j).I⟩]) {A : Around} {s : Shared} (hA : OkA lv A) (hS : Sat T s H) :
    CallsTo prog w A (.call (.ref m) ⟨[], []⟩) s (HConc T s H ((lexOut H j eqs pb sg conds nT res ln' tl' pb' eb' sg' es').meth H j jm m)) := by
  have hmem : (⟨true, slA H jm, mObj 81 (lxOf H j).I⟩ : Slot) ∈ H := by
    have : (⟨true, slA H jm, mObj 81 (lxOf H j).I⟩ : Slot) ∈ takeS 1 (dropS jm H) := by rw [hmo]; exact .head _
    rw [takeS_eq, dropS_eq] at this
    exact List.mem_of_mem_drop (List.mem_of_mem_take this)
  have ho := hS.has _ hmem
  subst hm
  have hS' := hS
  rw [blk_split H j] at hS'
  have hsub : Sat T s (blk H j) := hS'.part ((List.sublist_append_left _ _).trans (List.sublist_append_right _ _))
  rw [hh] at hsub
  refine CallsTo.of_code _ _ (codeAny_method ho (codeAny_mono (key _ s hA.mk' hsub) ?_))
  rintro r s' ⟨H', ⟨ts, hl, rfl, new, rfl⟩, hp⟩
  refine ⟨[], ts, [], rfl, hl, rfl, rfl, ?_⟩
  have z := Post.liftB (sub2 := lexS (lxOf H j) ln' (tl' ts) pb' eb' sg' es') (by rw [← hh]; exact hS') hp (fun x hx => by simp [hx]) rfl
  rw [← hh, ← blk_split] at z
  show Post T H s (putBlk H j _) s'
  rw [putBlk_eq]
  exact z
end
section
variable (prog : Program) (d : Source → Nat → Nat) (P : Params) (b1 b2 : Bool) {T : Tops} (hT : ∀ a o, (topT P).get a = some o → T a o)
include hT
theorem hM0_ok (jm j : Nat) : HOk prog (wd d P b1 b2) T 3 (hM0 jm j) := by
  intro c H out e hi A s hA hS
  unfold hM0 at e
  refine rN_elim (P := fun c => CallsTo _ _ A c s _) e fun m e1 => ?_
  clear e
  cases e1
  obtain ⟨h1, h2, hh, h3⟩ := hi
  exact meth_hok (ch0 prog d P b1 b2 hT (h3 _ (.head _))) (hh _ (.tail _ (.head _))) (h1 _ (.head _)) (hh _ (.head _)) hA hS
theorem hM1_ok (jm j : Nat) (sg : List Value) (sc : Str) (tc : Nat) : HOk prog (wd d P b1 b2) T 3 (hM1 jm j sg sc tc) := by
  intro c H out e hi A s hA hS
  unfold hM1 at e
  refine rN_elim (P := fun c => CallsTo _ _ A c s _) e fun m e1 => ?_
  clear e
  cases e1
  obtain ⟨h1, h2, hh, h3⟩ := hi
  exact meth_hok (ch1 prog d P b1 b2 hT (h3 _ (.head _)) (h3 _ (.tail _ (.head _))) (h3 _ (.tail _ (.tail _ (.head _))))) (hh _ (.tail _ (.head _))) (h1 _ (.head _)) (hh _ (.head _)) hA hS
theorem hMN_ok (jm j : Nat) (sg : List Value) (sc : Str) (tc : Nat) : HOk prog (wd d P b1 b2) T 3 (hMN jm j sg sc tc) := by
  intro c H out e hi A s hA hS
  unfold hMN at e
  refine rN_elim (P := fun c => CallsTo _ _ A c s _) e fun m e1 => ?_
  clear e
  cases e1
  obtain ⟨h1, h2, hh, h3⟩ := hi
  exact meth_hok (chN prog d P b1 b2 hT (h3 _ (.head _)) (h3 _ (.tail _ (.head _))) (h3 _ (.tail _ (.tail _ (.head _))))) (hh _ (.tail _ (.head _))) (h1 _ (.head _)) (hh _ (.head _)) hA hS
end
noncomputable def itObj (m t : Nat) : Obj := ⟨.type "callable_iterator", none, .fields ⟨[.ref m, .str ⟨#[]⟩ t, .bool false]⟩, #[]⟩
noncomputable def itDone : Obj := ⟨.type "callable_iterator", none, .fields ⟨[.none, .none, .bool true]⟩, #[]⟩
noncomputable def tup0 : Obj := ⟨.type "tuple", none, .seq ⟨[]⟩ 0, #[]⟩
noncomputable def stopObj (a : Nat) : Obj := ⟨.type "StopIteration", none, .fields ⟨[.ref a, .none, .none, .none, .bool false, .none]⟩, #[]⟩
theorem entry_it : entryFor table "callable_iterator.__next__" = some Builtin.«callable_iterator.__next__» := entryFor_of_tree (by kernel_rfl)
section
variable (prog : Program) (d : Source → Nat → Nat) (P : Params) (b1 b2 : Bool) {T : Tops} (hT : ∀ a o, (topT P).get a = some o → T a o)
noncomputable def itH (X : LX) (ln : Int) (tl : Nat) (pb : List Value) (eb es L m it : Nat) (fo io : Obj) : List Slot := lexS X ln tl pb eb [] es ++ [⟨true, L, fo⟩, ⟨true, m, mObj 81 X.I⟩, ⟨true, it, io⟩]
noncomputable def it_h2 : List Hint := [.slot 11, .slot 10, .top, .slot 11, .slot 11, .slot 11, .slot 11, .slot 11, .slot 11]
noncomputable def it_h : List Hint := [.slot 10, .top, .sum (hM0 10 0)]
theorem it_seg (O : Orc) (X : LX) (ln : Int) (tl : Nat) (pb : List Value) (eb es L m it t0 : Nat) (fo : Obj) : Seg (run ⟨prog, mkP P b1 b2, topT P, O⟩ 20 it_h (.root (callOutOfASlot (.ref m))) ⟨itH X ln tl pb eb es L m it fo (itObj m t0), 0, 0, 0⟩) [X.ok] (.pure (.str ⟨#[]⟩ (O.tok 0))) (itH X ln tl pb eb es L m it fo (itObj m t0)) :=
  ⟨by kernel_rfl, by kernel_rfl, by kernel_rfl, by kernel_rfl, by kernel_rfl⟩
include hT
theorem it_end {X : LX} (hX : X.ok) {ln : Int} {tl : Nat} {pb : List Value} {eb es L m it t0 : Nat} {fo : Obj} :
    Tri prog (wd d P b1 b2) 4 T (.builtin "callable_iterator.__next__" ⟨[.ref it], []⟩) (itH X ln tl pb eb es L m it fo (itObj m t0))
      (fun r H' => ∃ a e, r = .error (.ref e) ∧ H' = itH X ln tl pb eb es L m it fo itDone ++ [⟨true, a, tup0⟩, ⟨true, e, stopObj a⟩]) := fun A s hA hS => by
  have hA1 : OkT 3 (A.under (.builtin "callable_iterator.__next__" ⟨[.ref it], []⟩)) := hA.under rfl
  refine codeAny_builtin entry_it ?_
  unfold Builtin.«callable_iterator.__next__»
  have ho : s.heap.get? it = some (itObj m t0) := hS.has ⟨true, it, itObj m t0⟩ (by simp [itH])
  refine wpAny_bind (m := slotArgs "__next__" 0 _) (wpAny_pure ?_)
  refine wpAny_bind (wpAny_field ho rfl rfl ?_)
  show wpAny _ _ (field (.ref it) 0 >>= _) _ _ s
  refine wpAny_bind (wpAny_field ho rfl rfl ?_)
  refine wpAny_bind (wpAny_attempt ?_)
  refine wp_run hT hA1 hS (n := 20) (hs := it_h) (HsOk.get (⟨hM0_ok prog d P b1 b2 hT 10 0, trivial⟩ : HsOk prog (wd d P b1 b2) T 3 it_h)) (F := fun O t h => t = .pure (.str ⟨#[]⟩ (O.tok 0)) ∧ h = itH X ln tl pb eb es L m it fo (itObj m t0)) (fun O => (it_seg prog P b1 b2 O X ln tl pb eb es L m it t0 fo).good (k1 hX) ⟨rfl, rfl⟩) ?_
  rintro O t h s1 ⟨rfl, rfl⟩ hp
  refine ⟨fun v hv => ?_, fun e he => (by cases he)⟩
  cases hv
  have ho1 : s1.heap.get? it = some (itObj m t0) := hp.sat.has ⟨true, it, itObj m t0⟩ (by simp [itH])
  refine wpAny_bind (wpAny_field ho1 rfl rfl ?_)
  show wpAny _ _ (field (.ref it) 1 >>= _) _ _ s1
  refine wpAny_bind (wpAny_field ho1 rfl rfl ?_)
  refine wpAny_bind (wpAny_holding (wpAny_eqBool_str ?_))
  show wpAny _ _ (rule "callable_iterator.__next__.sentinel" >>= _) _ _ s1
  refine wp_run hT hA1 hp.sat (n := 40) (hs := it_h2) (HsOk.get (trivial : HsOk prog (wd d P b1 b2) T 3 it_h2)) (F := fun O t h => t = .raise (.ref (O.addr 1)) ∧ h = itH X ln tl pb eb es L m it fo itDone ++ [⟨true, O.addr 0, tup0⟩, ⟨true, O.addr 1, stopObj (O.addr 0)⟩])
    (fun O => Seg.good (cs := []) (t := .raise (.ref (O.addr 1))) (H' := itH X ln tl pb eb es L m it fo itDone ++ [⟨true, O.addr 0, tup0⟩, ⟨true, O.addr 1, stopObj (O.addr 0)⟩]) ⟨by kernel_rfl, by kernel_rfl, by kernel_rfl, by kernel_rfl, by kernel_rfl⟩ mem0 ⟨rfl, rfl⟩) ?_
  rintro O' t h s2 ⟨rfl, rfl⟩ hp2
  refine ⟨fun v hv => (by cases hv), fun e he => ?_⟩
  cases he
  exact ⟨_, ⟨O'.addr 0, O'.addr 1, rfl, rfl⟩, hp.trans hp2⟩
noncomputable def it_h3 : List Hint := [.slot 11]
omit hT in
theorem it_seg3 (O : Orc) (X : LX) (ln : Int) (tl : Nat) (pb : List Value) (eb es L m it t0 : Nat) (fo : Obj) : Seg (run ⟨prog, mkP P b1 b2, topT P, O⟩ 20 it_h3 (.root (denoteZ (.call (.builtin "callable_iterator.__next__") ⟨[.ref it], []⟩))) ⟨itH X ln tl pb eb es L m it fo (itObj m t0), 0, 0, 0⟩) [] (.pure (.again (.builtin "callable_iterator.__next__" ⟨[.ref it], []⟩))) (itH X ln tl pb eb es L m it fo (itObj m t0)) :=
  ⟨by kernel_rfl, by kernel_rfl, by kernel_rfl, by kernel_rfl, by kernel_rfl⟩
theorem it_endc {X : LX} (hX : X.ok) {ln : Int} {tl : Nat} {pb : List Value} {eb es L m it t0 : Nat} {fo : Obj} :
    Tri prog (wd d P b1 b2) 4 T (.call (.builtin "callable_iterator.__next__") ⟨[.ref it], []⟩) (itH X ln tl pb eb es L m it fo (itObj m t0))
      (fun r H' => ∃ a e, r = .error (.ref e) ∧ H' = itH X ln tl pb eb es L m it fo itDone ++ [⟨true, a, tup0⟩, ⟨true, e, stopObj a⟩]) :=
  tri_again hT (lv := 3) (hs := it_h3) rfl trivial (fun O => it_seg3 prog P b1 b2 O X ln tl pb eb es L m it t0 fo) (fun _ => mem0) (fun _ => by kernel_rfl) fun O => it_end prog d P b1 b2 hT hX
end
noncomputable def is_it (id : String) : Bool := S.eqLit 154871534474935724191431299575622858322749446335671712506274404 id
theorem is_it_eq {id : String} (h : is_it id = true) : id = "callable_iterator.__next__" := eqLit_iff (by kernel_rfl) h
noncomputable def itTok (o : Obj) : Nat := match o.data with | .fields ⟨[_, v, _]⟩ => vTok v | _ => 0
noncomputable def hItEndO (H : List Slot) (a : Nat) : HOut := ⟨[(a, slA H 11)], [], [(H, itH (lxOf H 0) (lxLn H 0) (lxTl H 0) (lxPb H 0) (lxEb H 0) (lxEs H 0) (slA H 9) (slA H 10) (slA H 11) (slO H 9) (itObj (slA H 10) (itTok (slO H 11))))], [(lxOf H 0).ok], 2, 0, 0, fun as _ _ => .error (.ref (as.getD 1 0)),
        fun as _ _ => itH (lxOf H 0) (lxLn H 0) (lxTl H 0) (lxPb H 0) (lxEb H 0) (lxEs H 0) (slA H 9) (slA H 10) (slA H 11) (slO H 9) itDone ++ [⟨true, as.getD 0 0, tup0⟩, ⟨true, as.getD 1 0, stopObj (as.getD 0 0)⟩]⟩
noncomputable def hItEnd : Handler := fun c H => bR is_it c (fun a => some (hItEndO H a))
section
variable (prog : Program) (d : Source → Nat → Nat) (P : Params) (b1 b2 : Bool) {T : Tops} (hT : ∀ a o, (topT P).get a = some o → T a o)
include hT
theorem hItEnd_ok : HOk prog (wd d P b1 b2) T 4 hItEnd := by
  intro c H out e hi A s hA hS
  unfold hItEnd at e
  refine bR_elim (P := fun c => CallsTo _ _ A c s _) e fun id a hid e1 => ?_
  clear e
  cases e1
  obtain ⟨h1, h2, hh, h3⟩ := hi
  have e1 : a = slA H 11 := h1 _ (.head _)
  have eh := hh _ (.head _)
  have hX := h3 _ (.head _)
  dsimp only at eh
  clear h1 h2 hh h3
  rw [is_it_eq hid]
  subst e1
  have key := it_endc prog d P b1 b2 hT hX (ln := lxLn H 0) (tl := lxTl H 0) (pb := lxPb H 0) (eb := lxEb H 0) (es := lxEs H 0) (L := slA H 9) (m := slA H 10) (it := slA H 11) (fo := slO H 9) (t0 := itTok (slO H 11)) _ s hA.mk' (eh ▸ hS)
  rw [← eh] at key
  refine CallsTo.of_code _ _ (codeAny_mono key ?_)
  rintro r s' ⟨H', ⟨a', e', rfl, rfl⟩, hp⟩
  exact ⟨[a', e'], [], [], rfl, rfl, rfl, rfl, hp⟩
end
section
variable (prog : Program) (P : Params) (b1 b2 : Bool)
noncomputable def gt_q0_h (sg : List Value) (c0 c1 : Nat) : List Hint := [.slot 9, .slot 0, .top, .top, .top, .call, .slot 0, .top, .top, .top, .slot 0, .slot 0, .top, .slot 1, .slot 2, .slot 2, .call, .slot 2, .call, .slot 2, .slot 2, .slot 9, .slot 9, .top, .top, .slot 9, .slot 0, .top, .top, .top, .call, .slot 0, .top, .top, .top, .top, .top, .top, .slot 0, .slot 0, .top, .slot 1, .top, .top, .top, .call, .top, .call, .slot 10, .slot 9, .slot 9, .slot 9, .slot 11, .slot 11, .call, .slot 11, .slot 11, .call, .slot 11, .call, .slot 11, .slot 11, .slot 11, .slot 10, .top, .sum (hM1 10 0 ((sg ++ [Value.str sx0 c1])) sx0 c0), .slot 11, .slot 11, .call, .slot 9, .slot 9, .slot 9, .slot 9, .slot 0, .top, .top, .top, .call, .slot 0, .top, .top, .top, .slot 0, .slot 0, .top, .slot 1, .call, .slot 9, .call, .slot 9, .slot 11, .slot 11, .call, .slot 11, .slot 11, .call, .slot 11, .call, .slot 11, .slot 11, .slot 11, .slot 10, .top, .sum (hM1 10 0 (sg) sx0 c1), .slot 11, .slot 11, .call, .slot 9, .slot 9, .slot 9, .call, .slot 9]
theorem gt_q0 (O : Orc) (X : LX) (ln : Int) (tl : Nat) (eb : Nat) (sg : List Value) (es : Nat) (L : Nat) (κ : Nat → Int) (τ : Nat → Nat) (c0 c1 : Nat) : Seg (run (eE prog P b1 b2 O) 223 (gt_q0_h sg c0 c1) (.root (denoteZ (.func (fnB (ct 2)) (envOf 88 (fdOf (to88 P)) L)))) ⟨lexS X ln tl [] eb ((sg ++ [Value.str sx0 c1]) ++ [Value.str sx0 c0]) es ++ [wS L (frm κ τ [(s_self, .ref X.I)])], 0, 0, 0⟩)
    [X.ok, ((sg ++ [Value.str sx0 c1])).length < 100000, (((sx0 : Str)).cps.toList == [10]) = false, X.ok, (sg).length < 100000, (((sx0 : Str)).cps.toList == [10]) = false] (.pure (.done (.ret (.str ⟨#[]⟩ (O.tok 3))))) (appS (lexS X ln tl [] eb sg (es + 2)) (dropS 9 (finH (run (eE prog P b1 b2 O) 223 (gt_q0_h sg c0 c1) (.root (denoteZ (.func (fnB (ct 2)) (envOf 88 (fdOf (to88 P)) L)))) ⟨lexS X ln tl [] eb ((sg ++ [Value.str sx0 c1]) ++ [Value.str sx0 c0]) es ++ [wS L (frm κ τ [(s_self, .ref X.I)])], 0, 0, 0⟩)))) := by cases b2 <;> exact sg5 (by kernel_rfl)
noncomputable def gt_q1_h (sg : List Value) (c0 c1 c2 : Nat) : List Hint := [.slot 9, .slot 0, .top, .top, .top, .call, .slot 0, .top, .top, .top, .slot 0, .slot 0, .top, .slot 1, .slot 2, .slot 2, .call, .slot 2, .call, .slot 2, .slot 2, .slot 9, .slot 9, .top, .top, .slot 9, .slot 0, .top, .top, .top, .call, .slot 0, .top, .top, .top, .top, .top, .top, .slot 0, .slot 0, .top, .slot 1, .top, .top, .top, .call, .top, .call, .slot 10, .slot 9, .slot 9, .slot 9, .slot 11, .slot 11, .call, .slot 11, .slot 11, .call, .slot 11, .call, .slot 11, .slot 11, .slot 11, .slot 10, .top, .sum (hM1 10 0 (((sg ++ [Value.str sx0 c2]) ++ [Value.str sx4 c1])) sx0 c0), .slot 11, .slot 11, .call, .slot 9, .slot 9, .slot 9, .slot 9, .slot 0, .top, .top, .top, .call, .slot 0, .top, .top, .top, .slot 0, .slot 0, .top, .slot 1, .call, .slot 9, .call, .slot 9, .slot 11, .slot 11, .call, .slot 11, .slot 11, .call, .slot 11, .call, .slot 11, .slot 11, .slot 11, .slot 10, .top, .sum (hMN 10 0 ((sg ++ [Value.str sx0 c2])) sx4 c1), .slot 11, .slot 11, .call, .slot 9, .slot 9, .slot 9, .call, .slot 9, .call, .slot 9, .slot 9, .call, .slot 9, .slot 9, .slot 11, .call, .slot 11, .slot 11, .slot 11, .slot 10, .top, .sum (hM1 10 0 (sg) sx0 c2), .slot 11, .slot 11, .call, .slot 9, .slot 9, .slot 9, .call, .slot 9]
theorem gt_q1 (O : Orc) (X : LX) (ln : Int) (tl : Nat) (eb : Nat) (sg : List Value) (es : Nat) (L : Nat) (κ : Nat → Int) (τ : Nat → Nat) (c0 c1 c2 : Nat) : Seg (run (eE prog P b1 b2 O) 283 (gt_q1_h sg c0 c1 c2) (.root (denoteZ (.func (fnB (ct 2)) (envOf 88 (fdOf (to88 P)) L)))) ⟨lexS X ln tl [] eb (((sg ++ [Value.str sx0 c2]) ++ [Value.str sx4 c1]) ++ [Value.str sx0 c0]) es ++ [wS L (frm κ τ [(s_self, .ref X.I)])], 0, 0, 0⟩)
    [X.ok, (((sg ++ [Value.str sx0 c2]) ++ [Value.str sx4 c1])).length < 100000, (((sx0 : Str)).cps.toList == [10]) = false, X.ok, ((sg ++ [Value.str sx0 c2])).length < 100000, (((sx4 : Str)).cps.toList == [10]) = true, X.ok, (sg).length < 100000, (((sx0 : Str)).cps.toList == [10]) = false] (.pure (.done (.ret (.str sx4 (c1))))) (appS (lexS X (ln + 1) (O.tok 11) [] eb sg (es + 3)) (dropS 9 (finH (run (eE prog P b1 b2 O) 283 (gt_q1_h sg c0 c1 c2) (.root (denoteZ (.func (fnB (ct 2)) (envOf 88 (fdOf (to88 P)) L)))) ⟨lexS X ln tl [] eb (((sg ++ [Value.str sx0 c2]) ++ [Value.str sx4 c1]) ++ [Value.str sx0 c0]) es ++ [wS L (frm κ τ [(s_self, .ref X.I)])], 0, 0, 0⟩)))) := by cases b2 <;> exact sg5 (by kernel_rfl)
noncomputable def gt_q2_h (sg : List Value) (c0 c1 c2 c3 : Nat) : List Hint := [.slot 9, .slot 0, .top, .top, .top, .call, .slot 0, .top, .top, .top, .slot 0, .slot 0, .top, .slot 1, .slot 2, .slot 2, .call, .slot 2, .call, .slot 2, .slot 2, .slot 9, .slot 9, .top, .top, .slot 9, .slot 0, .top, .top, .top, .call, .slot 0, .top, .top, .top, .top, .top, .top, .slot 0, .slot 0, .top, .slot 1, .top, .top, .top, .call, .top, .call, .slot 10, .slot 9, .slot 9, .slot 9, .slot 11, .slot 11, .call, .slot 11, .slot 11, .call, .slot 11, .call, .slot 11, .slot 11, .slot 11, .slot 10, .top, .sum (hM1 10 0 ((((sg ++ [Value.str sx0 c3]) ++ [Value.str sx0 c2]) ++ [Value.str sx1 c1])) sx0 c0), .slot 11, .slot 11, .call, .slot 9, .slot 9, .slot 9, .slot 9, .slot 0, .top, .top, .top, .call, .slot 0, .top, .top, .top, .slot 0, .slot 0, .top, .slot 1, .call, .slot 9, .call, .slot 9, .slot 11, .slot 11, .call, .slot 11, .slot 11, .call, .slot 11, .call, .slot 11, .slot 11, .slot 11, .slot 10, .top, .sum (hM1 10 0 (((sg ++ [Value.str sx0 c3]) ++ [Value.str sx0 c2])) sx1 c1), .slot 11, .slot 11, .call, .slot 9, .slot 9, .slot 9, .call, .slot 9, .call, .slot 9, .slot 0, .top, .top, .top, .slot 0, .top, .top, .top, .slot 0, .top, .top, .top, .top, .slot 0, .slot 1, .top, .sum (hCh1 0 ((sg ++ [Value.str sx0 c3])) sx0 c2), .slot 9, .slot 9, .slot 9, .slot 9, .call, .slot 9, .slot 9, .slot 11, .call, .slot 11, .slot 11, .slot 11, .slot 10, .top, .sum (hM1 10 0 (sg) sx0 c3), .slot 11, .slot 11, .call, .slot 9, .slot 9, .slot 9, .call, .slot 9]
theorem gt_q2 (O : Orc) (X : LX) (ln : Int) (tl : Nat) (eb : Nat) (sg : List Value) (es : Nat) (L : Nat) (κ : Nat → Int) (τ : Nat → Nat) (c0 c1 c2 c3 : Nat) : Seg (run (eE prog P b1 b2 O) 314 (gt_q2_h sg c0 c1 c2 c3) (.root (denoteZ (.func (fnB (ct 2)) (envOf 88 (fdOf (to88 P)) L)))) ⟨lexS X ln tl [] eb ((((sg ++ [Value.str sx0 c3]) ++ [Value.str sx0 c2]) ++ [Value.str sx1 c1]) ++ [Value.str sx0 c0]) es ++ [wS L (frm κ τ [(s_self, .ref X.I)])], 0, 0, 0⟩)
    [X.ok, ((((sg ++ [Value.str sx0 c3]) ++ [Value.str sx0 c2]) ++ [Value.str sx1 c1])).length < 100000, (((sx0 : Str)).cps.toList == [10]) = false, X.ok, (((sg ++ [Value.str sx0 c3]) ++ [Value.str sx0 c2])).length < 100000, (((sx1 : Str)).cps.toList == [10]) = false, X.ok, ((sg ++ [Value.str sx0 c3])).length < 100000, (((sx0 : Str)).cps.toList == [10]) = false, X.ok, (sg).length < 100000, (((sx0 : Str)).cps.toList == [10]) = false] (.pure (.done (.ret (.str sx0 (c2))))) (appS (lexS X ln tl [] eb sg (es + 4)) (dropS 9 (finH (run (eE prog P b1 b2 O) 314 (gt_q2_h sg c0 c1 c2 c3) (.root (denoteZ (.func (fnB (ct 2)) (envOf 88 (fdOf (to88 P)) L)))) ⟨lexS X ln tl [] eb ((((sg ++ [Value.str sx0 c3]) ++ [Value.str sx0 c2]) ++ [Value.str sx1 c1]) ++ [Value.str sx0 c0]) es ++ [wS L (frm κ τ [(s_self, .ref X.I)])], 0, 0, 0⟩)))) := by cases b2 <;> exact sg5 (by kernel_rfl)
noncomputable def gt_q3_h (sg : List Value) (c0 c1 c2 c3 : Nat) : List Hint := [.slot 9, .slot 0, .top, .top, .top, .call, .slot 0, .top, .top, .top, .slot 0, .slot 0, .top, .slot 1, .slot 2, .slot 2, .call, .slot 2, .call, .slot 2, .slot 2, .slot 9, .slot 9, .top, .top, .slot 9, .slot 0, .top, .top, .top, .call, .slot 0, .top, .top, .top, .top, .top, .top, .slot 0, .slot 0, .top, .slot 1, .top, .top, .top, .call, .top, .call, .slot 10, .slot 9, .slot 9, .slot 9, .slot 11, .slot 11, .call, .slot 11, .slot 11, .call, .slot 11, .call, .slot 11, .slot 11, .slot 11, .slot 10, .top, .sum (hM1 10 0 ((((sg ++ [Value.str sx0 c3]) ++ [Value.str sx1 c2]) ++ [Value.str sx1 c1])) sx0 c0), .slot 11, .slot 11, .call, .slot 9, .slot 9, .slot 9, .slot 9, .slot 0, .top, .top, .top, .call, .slot 0, .top, .top, .top, .slot 0, .slot 0, .top, .slot 1, .call, .slot 9, .call, .slot 9, .slot 11, .slot 11, .call, .slot 11, .slot 11, .call, .slot 11, .call, .slot 11, .slot 11, .slot 11, .slot 10, .top, .sum (hM1 10 0 (((sg ++ [Value.str sx0 c3]) ++ [Value.str sx1 c2])) sx1 c1), .slot 11, .slot 11, .call, .slot 9, .slot 9, .slot 9, .call, .slot 9, .call, .slot 9, .slot 0, .top, .top, .top, .slot 0, .top, .top, .top, .slot 0, .top, .top, .top, .top, .slot 0, .slot 1, .top, .sum (hCh1 0 ((sg ++ [Value.str sx0 c3])) sx1 c2), .slot 9, .slot 9, .slot 9, .slot 9, .call, .slot 9, .slot 9, .slot 11, .call, .slot 11, .slot 11, .slot 11, .slot 10, .top, .sum (hM1 10 0 (sg) sx0 c3), .slot 11, .slot 11, .call, .slot 9, .slot 9, .slot 9, .call, .slot 9]
theorem gt_q3 (O : Orc) (X : LX) (ln : Int) (tl : Nat) (eb : Nat) (sg : List Value) (es : Nat) (L : Nat) (κ : Nat → Int) (τ : Nat → Nat) (c0 c1 c2 c3 : Nat) : Seg (run (eE prog P b1 b2 O) 314 (gt_q3_h sg c0 c1 c2 c3) (.root (denoteZ (.func (fnB (ct 2)) (envOf 88 (fdOf (to88 P)) L)))) ⟨lexS X ln tl [] eb ((((sg ++ [Value.str sx0 c3]) ++ [Value.str sx1 c2]) ++ [Value.str sx1 c1]) ++ [Value.str sx0 c0]) es ++ [wS L (frm κ τ [(s_self, .ref X.I)])], 0, 0, 0⟩)
    [X.ok, ((((sg ++ [Value.str sx0 c3]) ++ [Value.str sx1 c2]) ++ [Value.str sx1 c1])).length < 100000, (((sx0 : Str)).cps.toList == [10]) = false, X.ok, (((sg ++ [Value.str sx0 c3]) ++ [Value.str sx1 c2])).length < 100000, (((sx1 : Str)).cps.toList == [10]) = false, X.ok, ((sg ++ [Value.str sx0 c3])).length < 100000, (((sx1 : Str)).cps.toList == [10]) = false, X.ok, (sg).length < 100000, (((sx0 : Str)).cps.toList == [10]) = false] (.pure (.done (.ret (.str sx1 (c2))))) (appS (lexS X ln tl [] eb sg (es + 4)) (dropS 9 (finH (run (eE prog P b1 b2 O) 314 (gt_q3_h sg c0 c1 c2 c3) (.root (denoteZ (.func (fnB (ct 2)) (envOf 88 (fdOf (to88 P)) L)))) ⟨lexS X ln tl [] eb ((((sg ++ [Value.str sx0 c3]) ++ [Value.str sx1 c2]) ++ [Value.str sx1 c1]) ++ [Value.str sx0 c0]) es ++ [wS L (frm κ τ [(s_self, .ref X.I)])], 0, 0, 0⟩)))) := by cases b2 <;> exact sg5 (by kernel_rfl)
noncomputable def gt_q4_h (sg : List Value) (c0 c1 c2 : Nat) : List Hint := [.slot 9, .slot 0, .top, .top, .top, .call, .slot 0, .top, .top, .top, .slot 0, .slot 0, .top, .slot 1, .slot 2, .slot 2, .call, .slot 2, .call, .slot 2, .slot 2, .slot 9, .slot 9, .top, .top, .slot 9, .slot 0, .top, .top, .top, .call, .slot 0, .top, .top, .top, .top, .top, .top, .slot 0, .slot 0, .top, .slot 1, .top, .top, .top, .call, .top, .call, .slot 10, .slot 9, .slot 9, .slot 9, .slot 11, .slot 11, .call, .slot 11, .slot 11, .call, .slot 11, .call, .slot 11, .slot 11, .slot 11, .slot 10, .top, .sum (hM1 10 0 (((sg ++ [Value.str sx0 c2]) ++ [Value.str s_a c1])) sx0 c0), .slot 11, .slot 11, .call, .slot 9, .slot 9, .slot 9, .slot 9, .slot 0, .top, .top, .top, .call, .slot 0, .top, .top, .top, .slot 0, .slot 0, .top, .slot 1, .call, .slot 9, .call, .slot 9, .slot 11, .slot 11, .call, .slot 11, .slot 11, .call, .slot 11, .call, .slot 11, .slot 11, .slot 11, .slot 10, .top, .sum (hM1 10 0 ((sg ++ [Value.str sx0 c2])) s_a c1), .slot 11, .slot 11, .call, .slot 9, .slot 9, .slot 9, .call, .slot 9, .call, .slot 9, .slot 9, .call, .slot 9, .slot 9, .slot 11, .call, .slot 11, .slot 11, .slot 11, .slot 10, .top, .sum (hM1 10 0 (sg) sx0 c2), .slot 11, .slot 11, .call, .slot 9, .slot 9, .slot 9, .call, .slot 9]
theorem gt_q4 (O : Orc) (X : LX) (ln : Int) (tl : Nat) (eb : Nat) (sg : List Value) (es : Nat) (L : Nat) (κ : Nat → Int) (τ : Nat → Nat) (c0 c1 c2 : Nat) : Seg (run (eE prog P b1 b2 O) 283 (gt_q4_h sg c0 c1 c2) (.root (denoteZ (.func (fnB (ct 2)) (envOf 88 (fdOf (to88 P)) L)))) ⟨lexS X ln tl [] eb (((sg ++ [Value.str sx0 c2]) ++ [Value.str s_a c1]) ++ [Value.str sx0 c0]) es ++ [wS L (frm κ τ [(s_self, .ref X.I)])], 0, 0, 0⟩)
    [X.ok, (((sg ++ [Value.str sx0 c2]) ++ [Value.str s_a c1])).length < 100000, (((sx0 : Str)).cps.toList == [10]) = false, X.ok, ((sg ++ [Value.str sx0 c2])).length < 100000, (((s_a : Str)).cps.toList == [10]) = false, X.ok, (sg).length < 100000, (((sx0 : Str)).cps.toList == [10]) = false] (.pure (.done (.ret (.str s_a (c1))))) (appS (lexS X ln tl [] eb sg (es + 3)) (dropS 9 (finH (run (eE prog P b1 b2 O) 283 (gt_q4_h sg c0 c1 c2) (.root (denoteZ (.func (fnB (ct 2)) (envOf 88 (fdOf (to88 P)) L)))) ⟨lexS X ln tl [] eb (((sg ++ [Value.str sx0 c2]) ++ [Value.str s_a c1]) ++ [Value.str sx0 c0]) es ++ [wS L (frm κ τ [(s_self, .ref X.I)])], 0, 0, 0⟩)))) := by cases b2 <;> exact sg5 (by kernel_rfl)
noncomputable def gt_b1_h (sg : List Value) (c0 c1 c2 : Nat) : List Hint := [.slot 9, .slot 0, .top, .top, .top, .call, .slot 0, .top, .top, .top, .slot 0, .slot 0, .top, .slot 1, .slot 2, .slot 2, .call, .slot 2, .call, .slot 2, .slot 2, .slot 9, .slot 9, .top, .top, .slot 9, .slot 0, .top, .top, .top, .call, .slot 0, .top, .top, .top, .top, .top, .top, .slot 0, .slot 0, .top, .slot 1, .top, .top, .top, .call, .top, .call, .slot 10, .slot 9, .slot 9, .slot 9, .slot 11, .slot 11, .call, .slot 11, .slot 11, .call, .slot 11, .call, .slot 11, .slot 11, .slot 11, .slot 10, .top, .sum (hM1 10 0 (((sg ++ [Value.str sx2 c2]) ++ [Value.str sx4 c1])) sx1 c0), .slot 11, .slot 11, .call, .slot 9, .slot 9, .slot 9, .slot 9, .slot 0, .top, .top, .top, .call, .slot 0, .top, .top, .top, .slot 0, .slot 0, .top, .slot 1, .call, .slot 9, .call, .slot 9, .call, .slot 9, .slot 0, .top, .top, .top, .slot 0, .top, .top, .top, .slot 0, .top, .top, .top, .top, .slot 0, .slot 1, .top, .sum (hChN 0 ((sg ++ [Value.str sx2 c2])) sx4 c1), .slot 9, .slot 9, .slot 9, .slot 9, .call, .slot 9, .slot 9, .slot 9, .slot 11, .slot 11, .call, .slot 11, .slot 11, .call, .slot 11, .call, .slot 11, .slot 11, .slot 11, .slot 10, .top, .sum (hM1 10 0 (sg) sx2 c2), .slot 11, .slot 11, .call, .slot 9, .slot 9, .slot 9, .slot 9, .slot 0, .top, .top, .top, .call, .slot 0, .top, .top, .top, .slot 0, .slot 0, .top, .slot 1, .call, .slot 9]
theorem gt_b1 (O : Orc) (X : LX) (ln : Int) (tl : Nat) (eb : Nat) (sg : List Value) (es : Nat) (L : Nat) (κ : Nat → Int) (τ : Nat → Nat) (c0 c1 c2 : Nat) : Seg (run (eE prog P b1 b2 O) 297 (gt_b1_h sg c0 c1 c2) (.root (denoteZ (.func (fnB (ct 2)) (envOf 88 (fdOf (to88 P)) L)))) ⟨lexS X ln tl [] eb (((sg ++ [Value.str sx2 c2]) ++ [Value.str sx4 c1]) ++ [Value.str sx1 c0]) es ++ [wS L (frm κ τ [(s_self, .ref X.I)])], 0, 0, 0⟩)
    [X.ok, (((sg ++ [Value.str sx2 c2]) ++ [Value.str sx4 c1])).length < 100000, (((sx1 : Str)).cps.toList == [10]) = false, X.ok, ((sg ++ [Value.str sx2 c2])).length < 100000, (((sx4 : Str)).cps.toList == [10]) = true, X.ok, (sg).length < 100000, (((sx2 : Str)).cps.toList == [10]) = false] (.pure (.done (.ret (.str sx4 (c1))))) (appS (lexS X (ln + 1) (O.tok 12) [] eb sg (es + 3)) (dropS 9 (finH (run (eE prog P b1 b2 O) 297 (gt_b1_h sg c0 c1 c2) (.root (denoteZ (.func (fnB (ct 2)) (envOf 88 (fdOf (to88 P)) L)))) ⟨lexS X ln tl [] eb (((sg ++ [Value.str sx2 c2]) ++ [Value.str sx4 c1]) ++ [Value.str sx1 c0]) es ++ [wS L (frm κ τ [(s_self, .ref X.I)])], 0, 0, 0⟩)))) := by cases b2 <;> exact sg5 (by kernel_rfl)
noncomputable def gt_b2_h (sg : List Value) (c0 c1 c2 : Nat) : List Hint := [.slot 9, .slot 0, .top, .top, .top, .call, .slot 0, .top, .top, .top, .slot 0, .slot 0, .top, .slot 1, .slot 2, .slot 2, .call, .slot 2, .call, .slot 2, .slot 2, .slot 9, .slot 9, .top, .top, .slot 9, .slot 0, .top, .top, .top, .call, .slot 0, .top, .top, .top, .top, .top, .top, .slot 0, .slot 0, .top, .slot 1, .top, .top, .top, .call, .top, .call, .slot 10, .slot 9, .slot 9, .slot 9, .slot 11, .slot 11, .call, .slot 11, .slot 11, .call, .slot 11, .call, .slot 11, .slot 11, .slot 11, .slot 10, .top, .sum (hM1 10 0 (((sg ++ [Value.str sx2 c2]) ++ [Value.str sx0 c1])) sx1 c0), .slot 11, .slot 11, .call, .slot 9, .slot 9, .slot 9, .slot 9, .slot 0, .top, .top, .top, .call, .slot 0, .top, .top, .top, .slot 0, .slot 0, .top, .slot 1, .call, .slot 9, .call, .slot 9, .call, .slot 9, .slot 0, .top, .top, .top, .slot 0, .top, .top, .top, .slot 0, .top, .top, .top, .top, .slot 0, .slot 1, .top, .sum (hCh1 0 ((sg ++ [Value.str sx2 c2])) sx0 c1), .slot 9, .slot 9, .slot 9, .slot 9, .call, .slot 9, .slot 9, .slot 9, .slot 11, .slot 11, .call, .slot 11, .slot 11, .call, .slot 11, .call, .slot 11, .slot 11, .slot 11, .slot 10, .top, .sum (hM1 10 0 (sg) sx2 c2), .slot 11, .slot 11, .call, .slot 9, .slot 9, .slot 9, .slot 9, .slot 0, .top, .top, .top, .call, .slot 0, .top, .top, .top, .slot 0, .slot 0, .top, .slot 1, .call, .slot 9]
theorem gt_b2 (O : Orc) (X : LX) (ln : Int) (tl : Nat) (eb : Nat) (sg : List Value) (es : Nat) (L : Nat) (κ : Nat → Int) (τ : Nat → Nat) (c0 c1 c2 : Nat) : Seg (run (eE prog P b1 b2 O) 297 (gt_b2_h sg c0 c1 c2) (.root (denoteZ (.func (fnB (ct 2)) (envOf 88 (fdOf (to88 P)) L)))) ⟨lexS X ln tl [] eb (((sg ++ [Value.str sx2 c2]) ++ [Value.str sx0 c1]) ++ [Value.str sx1 c0]) es ++ [wS L (frm κ τ [(s_self, .ref X.I)])], 0, 0, 0⟩)
    [X.ok, (((sg ++ [Value.str sx2 c2]) ++ [Value.str sx0 c1])).length < 100000, (((sx1 : Str)).cps.toList == [10]) = false, X.ok, ((sg ++ [Value.str sx2 c2])).length < 100000, (((sx0 : Str)).cps.toList == [10]) = false, X.ok, (sg).length < 100000, (((sx2 : Str)).cps.toList == [10]) = false] (.pure (.done (.ret (.str sx0 (c1))))) (appS (lexS X ln tl [] eb sg (es + 3)) (dropS 9 (finH (run (eE prog P b1 b2 O) 297 (gt_b2_h sg c0 c1 c2) (.root (denoteZ (.func (fnB (ct 2)) (envOf 88 (fdOf (to88 P)) L)))) ⟨lexS X ln tl [] eb (((sg ++ [Value.str sx2 c2]) ++ [Value.str sx0 c1]) ++ [Value.str sx1 c0]) es ++ [wS L (frm κ τ [(s_self, .ref X.I)])], 0, 0, 0⟩)))) := by cases b2 <;> exact sg5 (by kernel_rfl)
noncomputable def gt_b3_h (sg : List Value) (c0 c1 c2 : Nat) : List Hint := [.slot 9, .slot 0, .top, .top, .top, .call, .slot 0, .top, .top, .top, .slot 0, .slot 0, .top, .slot 1, .slot 2, .slot 2, .call, .slot 2, .call, .slot 2, .slot 2, .slot 9, .slot 9, .top, .top, .slot 9, .slot 0, .top, .top, .top, .call, .slot 0, .top, .top, .top, .top, .top, .top, .slot 0, .slot 0, .top, .slot 1, .top, .top, .top, .call, .top, .call, .slot 10, .slot 9, .slot 9, .slot 9, .slot 11, .slot 11, .call, .slot 11, .slot 11, .call, .slot 11, .call, .slot 11, .slot 11, .slot 11, .slot 10, .top, .sum (hM1 10 0 (((sg ++ [Value.str sx2 c2]) ++ [Value.str sx1 c1])) sx1 c0), .slot 11, .slot 11, .call, .slot 9, .slot 9, .slot 9, .slot 9, .slot 0, .top, .top, .top, .call, .slot 0, .top, .top, .top, .slot 0, .slot 0, .top, .slot 1, .call, .slot 9, .call, .slot 9, .call, .slot 9, .slot 0, .top, .top, .top, .slot 0, .top, .top, .top, .slot 0, .top, .top, .top, .top, .slot 0, .slot 1, .top, .sum (hCh1 0 ((sg ++ [Value.str sx2 c2])) sx1 c1), .slot 9, .slot 9, .slot 9, .slot 9, .call, .slot 9, .slot 9, .slot 9, .slot 11, .slot 11, .call, .slot 11, .slot 11, .call, .slot 11, .call, .slot 11, .slot 11, .slot 11, .slot 10, .top, .sum (hM1 10 0 (sg) sx2 c2), .slot 11, .slot 11, .call, .slot 9, .slot 9, .slot 9, .slot 9, .slot 0, .top, .top, .top, .call, .slot 0, .top, .top, .top, .slot 0, .slot 0, .top, .slot 1, .call, .slot 9]
theorem gt_b3 (O : Orc) (X : LX) (ln : Int) (tl : Nat) (eb : Nat) (sg : List Value) (es : Nat) (L : Nat) (κ : Nat → Int) (τ : Nat → Nat) (c0 c1 c2 : Nat) : Seg (run (eE prog P b1 b2 O) 297 (gt_b3_h sg c0 c1 c2) (.root (denoteZ (.func (fnB (ct 2)) (envOf 88 (fdOf (to88 P)) L)))) ⟨lexS X ln tl [] eb (((sg ++ [Value.str sx2 c2]) ++ [Value.str sx1 c1]) ++ [Value.str sx1 c0]) es ++ [wS L (frm κ τ [(s_self, .ref X.I)])], 0, 0, 0⟩)
    [X.ok, (((sg ++ [Value.str sx2 c2]) ++ [Value.str sx1 c1])).length < 100000, (((sx1 : Str)).cps.toList == [10]) = false, X.ok, ((sg ++ [Value.str sx2 c2])).length < 100000, (((sx1 : Str)).cps.toList == [10]) = false, X.ok, (sg).length < 100000, (((sx2 : Str)).cps.toList == [10]) = false] (.pure (.done (.ret (.str sx1 (c1))))) (appS (lexS X ln tl [] eb sg (es + 3)) (dropS 9 (finH (run (eE prog P b1 b2 O) 297 (gt_b3_h sg c0 c1 c2) (.root (denoteZ (.func (fnB (ct 2)) (envOf 88 (fdOf (to88 P)) L)))) ⟨lexS X ln tl [] eb (((sg ++ [Value.str sx2 c2]) ++ [Value.str sx1 c1]) ++ [Value.str sx1 c0]) es ++ [wS L (frm κ τ [(s_self, .ref X.I)])], 0, 0, 0⟩)))) := by cases b2 <;> exact sg5 (by kernel_rfl)
noncomputable def gt_b4_h (sg : List Value) (c0 c1 c2 : Nat) : List Hint := [.slot 9, .slot 0, .top, .top, .top, .call, .slot 0, .top, .top, .top, .slot 0, .slot 0, .top, .slot 1, .slot 2, .slot 2, .call, .slot 2, .call, .slot 2, .slot 2, .slot 9, .slot 9, .top, .top, .slot 9, .slot 0, .top, .top, .top, .call, .slot 0, .top, .top, .top, .top, .top, .top, .slot 0, .slot 0, .top, .slot 1, .top, .top, .top, .call, .top, .call, .slot 10, .slot 9, .slot 9, .slot 9, .slot 11, .slot 11, .call, .slot 11, .slot 11, .call, .slot 11, .call, .slot 11, .slot 11, .slot 11, .slot 10, .top, .sum (hM1 10 0 (((sg ++ [Value.str sx2 c2]) ++ [Value.str s_a c1])) sx1 c0), .slot 11, .slot 11, .call, .slot 9, .slot 9, .slot 9, .slot 9, .slot 0, .top, .top, .top, .call, .slot 0, .top, .top, .top, .slot 0, .slot 0, .top, .slot 1, .call, .slot 9, .call, .slot 9, .call, .slot 9, .slot 0, .top, .top, .top, .slot 0, .top, .top, .top, .slot 0, .top, .top, .top, .top, .slot 0, .slot 1, .top, .sum (hCh1 0 ((sg ++ [Value.str sx2 c2])) s_a c1), .slot 9, .slot 9, .slot 9, .slot 9, .call, .slot 9, .slot 9, .slot 9, .slot 11, .slot 11, .call, .slot 11, .slot 11, .call, .slot 11, .call, .slot 11, .slot 11, .slot 11, .slot 10, .top, .sum (hM1 10 0 (sg) sx2 c2), .slot 11, .slot 11, .call, .slot 9, .slot 9, .slot 9, .slot 9, .slot 0, .top, .top, .top, .call, .slot 0, .top, .top, .top, .slot 0, .slot 0, .top, .slot 1, .call, .slot 9]
theorem gt_b4 (O : Orc) (X : LX) (ln : Int) (tl : Nat) (eb : Nat) (sg : List Value) (es : Nat) (L : Nat) (κ : Nat → Int) (τ : Nat → Nat) (c0 c1 c2 : Nat) : Seg (run (eE prog P b1 b2 O) 297 (gt_b4_h sg c0 c1 c2) (.root (denoteZ (.func (fnB (ct 2)) (envOf 88 (fdOf (to88 P)) L)))) ⟨lexS X ln tl [] eb (((sg ++ [Value.str sx2 c2]) ++ [Value.str s_a c1]) ++ [Value.str sx1 c0]) es ++ [wS L (frm κ τ [(s_self, .ref X.I)])], 0, 0, 0⟩)
    [X.ok, (((sg ++ [Value.str sx2 c2]) ++ [Value.str s_a c1])).length < 100000, (((sx1 : Str)).cps.toList == [10]) = false, X.ok, ((sg ++ [Value.str sx2 c2])).length < 100000, (((s_a : Str)).cps.toList == [10]) = false, X.ok, (sg).length < 100000, (((sx2 : Str)).cps.toList == [10]) = false] (.pure (.done (.ret (.str s_a (c1))))) (appS (lexS X ln tl [] eb sg (es + 3)) (dropS 9 (finH (run (eE prog P b1 b2 O) 297 (gt_b4_h sg c0 c1 c2) (.root (denoteZ (.func (fnB (ct 2)) (envOf 88 (fdOf (to88 P)) L)))) ⟨lexS X ln tl [] eb (((sg ++ [Value.str sx2 c2]) ++ [Value.str s_a c1]) ++ [Value.str sx1 c0]) es ++ [wS L (frm κ τ [(s_self, .ref X.I)])], 0, 0, 0⟩)))) := by cases b2 <;> exact sg5 (by kernel_rfl)
noncomputable def gt_e_h : List Hint := [.slot 9, .slot 0, .top, .top, .top, .call, .slot 0, .top, .top, .top, .slot 0, .slot 0, .top, .slot 1, .slot 2, .slot 2, .call, .slot 2, .call, .slot 2, .slot 2, .slot 9, .slot 9, .top, .top, .slot 9, .slot 0, .top, .top, .top, .call, .slot 0, .top, .top, .top, .top, .top, .top, .slot 0, .slot 0, .top, .slot 1, .top, .top, .top, .call, .top, .call, .slot 10, .slot 9, .slot 9, .slot 9, .slot 11, .slot 11, .call, .slot 11, .slot 11, .call, .slot 11, .sum (hItEnd), .slot 13, .slot 9]
theorem gt_e (O : Orc) (X : LX) (ln : Int) (tl : Nat) (eb : Nat) (sg : List Value) (es : Nat) (L : Nat) (κ : Nat → Int) (τ : Nat → Nat) : Seg (run (eE prog P b1 b2 O) 122 (gt_e_h) (.root (denoteZ (.func (fnB (ct 2)) (envOf 88 (fdOf (to88 P)) L)))) ⟨lexS X ln tl [] eb [] es ++ [wS L (frm κ τ [(s_self, .ref X.I)])], 0, 0, 0⟩)
    [X.ok] (.pure (.done (.ret (.str ⟨#[]⟩ (O.tok 3))))) (appS (lexS X ln tl [] eb [] es) (dropS 9 (finH (run (eE prog P b1 b2 O) 122 (gt_e_h) (.root (denoteZ (.func (fnB (ct 2)) (envOf 88 (fdOf (to88 P)) L)))) ⟨lexS X ln tl [] eb [] es ++ [wS L (frm κ τ [(s_self, .ref X.I)])], 0, 0, 0⟩)))) := by cases b2 <;> exact sg5 (by kernel_rfl)
end
section
variable (prog : Program) (d : Source → Nat → Nat) (P : Params) (b1 b2 : Bool) {T : Tops} (hT : ∀ a o, (topT P).get a = some o → T a o) {lv : Nat}
include hT
theorem gt_q0_ok (hl : 3 ≤ lv) (sg : List Value) (c0 c1 : Nat) : HsOk prog (wd d P b1 b2) T lv (gt_q0_h sg c0 c1) := ⟨(hM1_ok prog d P b1 b2 hT _ _ _ _ _).mono _ _ _ hl, (hM1_ok prog d P b1 b2 hT _ _ _ _ _).mono _ _ _ hl, trivial⟩
theorem gt_q1_ok (hl : 3 ≤ lv) (sg : List Value) (c0 c1 c2 : Nat) : HsOk prog (wd d P b1 b2) T lv (gt_q1_h sg c0 c1 c2) := ⟨(hM1_ok prog d P b1 b2 hT _ _ _ _ _).mono _ _ _ hl, (hMN_ok prog d P b1 b2 hT _ _ _ _ _).mono _ _ _ hl, (hM1_ok prog d P b1 b2 hT _ _ _ _ _).mono _ _ _ hl, trivial⟩
theorem gt_q2_ok (hl : 3 ≤ lv) (sg : List Value) (c0 c1 c2 c3 : Nat) : HsOk prog (wd d P b1 b2) T lv (gt_q2_h sg c0 c1 c2 c3) := ⟨(hM1_ok prog d P b1 b2 hT _ _ _ _ _).mono _ _ _ hl, (hM1_ok prog d P b1 b2 hT _ _ _ _ _).mono _ _ _ hl, (hCh1_ok prog d P b1 b2 hT _ _ _ _).mono _ _ _ hl, (hM1_ok prog d P b1 b2 hT _ _ _ _ _).mono _ _ _ hl, trivial⟩
theorem gt_q3_ok (hl : 3 ≤ lv) (sg : List Value) (c0 c1 c2 c3 : Nat) : HsOk prog (wd d P b1 b2) T lv (gt_q3_h sg c0 c1 c2 c3) := ⟨(hM1_ok prog d P b1 b2 hT _ _ _ _ _).mono _ _ _ hl, (hM1_ok prog d P b1 b2 hT _ _ _ _ _).mono _ _ _ hl, (hCh1_ok prog d P b1 b2 hT _ _ _ _).mono _ _ _ hl, (hM1_ok prog d P b1 b2 hT _ _ _ _ _).mono _ _ _ hl, trivial⟩
theorem gt_q4_ok (hl : 3 ≤ lv) (sg : List Value) (c0 c1 c2 : Nat) : HsOk prog (wd d P b1 b2) T lv (gt_q4_h sg c0 c1 c2) := ⟨(hM1_ok prog d P b1 b2 hT _ _ _ _ _).mono _ _ _ hl, (hM1_ok prog d P b1 b2 hT _ _ _ _ _).mono _ _ _ hl, (hM1_ok prog d P b1 b2 hT _ _ _ _ _).mono _ _ _ hl, trivial⟩
theorem gt_b1_ok (hl : 3 ≤ lv) (sg : List Value) (c0 c1 c2 : Nat) : HsOk prog (wd d P b1 b2) T lv (gt_b1_h sg c0 c1 c2) := ⟨(hM1_ok prog d P b1 b2 hT _ _ _ _ _).mono _ _ _ hl, (hChN_ok prog d P b1 b2 hT _ _ _ _).mono _ _ _ hl, (hM1_ok prog d P b1 b2 hT _ _ _ _ _).mono _ _ _ hl, trivial⟩
theorem gt_b2_ok (hl : 3 ≤ lv) (sg : List Value) (c0 c1 c2 : Nat) : HsOk prog (wd d P b1 b2) T lv (gt_b2_h sg c0 c1 c2) := ⟨(hM1_ok prog d P b1 b2 hT _ _ _ _ _).mono _ _ _ hl, (hCh1_ok prog d P b1 b2 hT _ _ _ _).mono _ _ _ hl, (hM1_ok prog d P b1 b2 hT _ _ _ _ _).mono _ _ _ hl, trivial⟩
theorem gt_b3_ok (hl : 3 ≤ lv) (sg : List Value) (c0 c1 c2 : Nat) : HsOk prog (wd d P b1 b2) T lv (gt_b3_h sg c0 c1 c2) := ⟨(hM1_ok prog d P b1 b2 hT _ _ _ _ _).mono _ _ _ hl, (hCh1_ok prog d P b1 b2 hT _ _ _ _).mono _ _ _ hl, (hM1_ok prog d P b1 b2 hT _ _ _ _ _).mono _ _ _ hl, trivial⟩
theorem gt_b4_ok (hl : 3 ≤ lv) (sg : List Value) (c0 c1 c2 : Nat) : HsOk prog (wd d P b1 b2) T lv (gt_b4_h sg c0 c1 c2) := ⟨(hM1_ok prog d P b1 b2 hT _ _ _ _ _).mono _ _ _ hl, (hCh1_ok prog d P b1 b2 hT _ _ _ _).mono _ _ _ hl, (hM1_ok prog d P b1 b2 hT _ _ _ _ _).mono _ _ _ hl, trivial⟩
theorem gt_e_ok (hl : 4 ≤ lv) : HsOk prog (wd d P b1 b2) T lv (gt_e_h) := ⟨(hItEnd_ok prog d P b1 b2 hT).mono _ _ _ hl, trivial⟩
end
theorem ap2 {β : Type} (l : List β) (a b : β) : l ++ [a, b] = (l ++ [a]) ++ [b] := by simp
theorem ap3 {β : Type} (l : List β) (a b c : β) : l ++ [a, b, c] = ((l ++ [a]) ++ [b]) ++ [c] := by simp
theorem ap4 {β : Type} (l : List β) (a b c d : β) : l ++ [a, b, c, d] = (((l ++ [a]) ++ [b]) ++ [c]) ++ [d] := by simp
/-- how a box is written -/
noncomputable def wr (k : Nat) (bare : Bool) : List Nat := cond bare (([[34, 34], [92, 10, 32], [92, 34, 32], [92, 92, 32], [92, 97, 32]] : List (List Nat)).getD k [34, 34]) (([[34, 34], [34, 10, 34], [34, 92, 34, 34], [34, 92, 92, 34], [34, 97, 34]] : List (List Nat)).getD k [34, 34])
/-- its line ends -/
noncomputable def nlB (k : Nat) : Nat := if k = 1 then 1 else 0
/-- signs as texts of one sign -/
noncomputable def sgn (τ : Nat → Nat) : Nat → List Nat → List Value
  | _, [] => []
  | i, c :: cs => .str ⟨#[c]⟩ (τ i) :: sgn τ (i + 1) cs
section
variable (prog : Program) (d : Source → Nat → Nat) (P : Params) (b1 b2 : Bool) {T : Tops} (hT : ∀ a o, (topT P).get a = some o → T a o)
noncomputable def tokΦ (X : LX) (ln : Int) (pb : List Value) (eb : Nat) (sg : List Value) (es : Nat) (k : Nat) : Result → List Slot → Prop := fun r H' =>
  ∃ ts : List Nat, ts.length = 2 ∧ r = .ok (.ret (.str (B k) (ts.getD 0 0))) ∧ ∃ new, H' = lexS X ln (ts.getD 1 0) pb eb sg es ++ new
include hT
theorem tok_call {X : LX} {ln : Int} {tl : Nat} {pb : List Value} {eb : Nat} {sg : List Value} {es lv : Nat} {Φ : Result → List Slot → Prop}
    (h : ∀ L κ τ, Tri prog (wd d P b1 b2) (lv + 1) T (.func (fnB (ct 2)) (envOf 88 (fdOf (to88 P)) L)) (lexS X ln tl pb eb sg es ++ [⟨true, L, frm κ τ [(s_self, .ref X.I)]⟩]) Φ) :
    Tri prog (wd d P b1 b2) (lv + 1) T (.call (.ref 88) ⟨[.ref X.I], []⟩) (lexS X ln tl pb eb sg es) Φ :=
  tri_def hT (lv := lv) (hT 88 (to88 P) rfl) rfl rfl rfl rfl rfl (hT 87 (to87 P) rfl) rfl rfl (hT 2 (to2 P) rfl) rfl (tok_p_ok prog d P b1 b2 hT (by lia)) (fun O => tok_p prog P b1 b2 O X ln tl pb eb sg es) (fun _ => mem0) fun O => h _ _ _
/-- the box comes back as it was written -/
theorem tok_box {X : LX} (hX : X.ok) {ln : Int} {tl eb es : Nat} {rest : List Value} {k : Nat} {bare : Bool} (hk : k < 5) (hb : bare = true → k ≠ 0) (τ : Nat → Nat) (hlen : rest.length < 90000) :
    Tri prog (wd d P b1 b2) 4 T (.call (.ref 88) ⟨[.ref X.I], []⟩) (lexS X ln tl [] eb (rest ++ (sgn τ 0 (wr k bare)).reverse) es) (tokΦ X (ln + nlB k) [] eb rest (es + (wr k bare).length) k) := by
  refine tok_call prog d P b1 b2 hT fun L κ τ' => ?_
  have l1 : ∀ v : List Value, v.length < 100 → (rest ++ v).length < 100000 := fun v hv => by rw [List.length_append]; lia
  have l0 : rest.length < 100000 := by lia
  rcases bare with _ | _
  · rcases k with _ | _ | _ | _ | _ | k
    · have e : rest ++ (sgn τ 0 (wr 0 false)).reverse = ((rest ++ [Value.str sx0 (τ 1)]) ++ [Value.str sx0 (τ 0)]) := ap2 _ _ _
      rw [e]
      exact tri_done hT (lv := 3) rfl (gt_q0_ok prog d P b1 b2 hT (by decide) rest (τ 0) (τ 1)) (fun O => gt_q0 prog P b1 b2 O X ln tl eb rest es L κ τ' (τ 0) (τ 1))
        (fun _ => (k6 hX (by simp; lia) rfl hX l0 rfl)) fun O => ⟨[O.tok 3, tl], rfl, rfl, _, by rw [appS_eq]; simp [nlB, wr]; rfl⟩
    · have e : rest ++ (sgn τ 0 (wr 1 false)).reverse = (((rest ++ [Value.str sx0 (τ 2)]) ++ [Value.str sx4 (τ 1)]) ++ [Value.str sx0 (τ 0)]) := ap3 _ _ _ _
      rw [e]
      exact tri_done hT (lv := 3) rfl (gt_q1_ok prog d P b1 b2 hT (by decide) rest (τ 0) (τ 1) (τ 2)) (fun O => gt_q1 prog P b1 b2 O X ln tl eb rest es L κ τ' (τ 0) (τ 1) (τ 2))
        (fun _ => (k9 hX (by simp; lia) rfl hX (by simp; lia) rfl hX l0 rfl)) fun O => ⟨[τ 1, (O.tok 11)], rfl, rfl, _, by rw [appS_eq]; simp [nlB, wr]; rfl⟩
    · have e : rest ++ (sgn τ 0 (wr 2 false)).reverse = ((((rest ++ [Value.str sx0 (τ 3)]) ++ [Value.str sx0 (τ 2)]) ++ [Value.str sx1 (τ 1)]) ++ [Value.str sx0 (τ 0)]) := ap4 _ _ _ _ _
      rw [e]
      exact tri_done hT (lv := 3) rfl (gt_q2_ok prog d P b1 b2 hT (by decide) rest (τ 0) (τ 1) (τ 2) (τ 3)) (fun O => gt_q2 prog P b1 b2 O X ln tl eb rest es L κ τ' (τ 0) (τ 1) (τ 2) (τ 3))
        (fun _ => (k12 hX (by simp; lia) rfl hX (by simp; lia) rfl hX (by simp; lia) rfl hX l0 rfl)) fun O => ⟨[τ 2, tl], rfl, rfl, _, by rw [appS_eq]; simp [nlB, wr]; rfl⟩
    · have e : rest ++ (sgn τ 0 (wr 3 false)).reverse = ((((rest ++ [Value.str sx0 (τ 3)]) ++ [Value.str sx1 (τ 2)]) ++ [Value.str sx1 (τ 1)]) ++ [Value.str sx0 (τ 0)]) := ap4 _ _ _ _ _
      rw [e]
      exact tri_done hT (lv := 3) rfl (gt_q3_ok prog d P b1 b2 hT (by decide) rest (τ 0) (τ 1) (τ 2) (τ 3)) (fun O => gt_q3 prog P b1 b2 O X ln tl eb rest es L κ τ' (τ 0) (τ 1) (τ 2) (τ 3))
        (fun _ => (k12 hX (by simp; lia) rfl hX (by simp; lia) rfl hX (by simp; lia) rfl hX l0 rfl)) fun O => ⟨[τ 2, tl], rfl, rfl, _, by rw [appS_eq]; simp [nlB, wr]; rfl⟩
    · have e : rest ++ (sgn τ 0 (wr 4 false)).reverse = (((rest ++ [Value.str sx0 (τ 2)]) ++ [Value.str s_a (τ 1)]) ++ [Value.str sx0 (τ 0)]) := ap3 _ _ _ _
      rw [e]
      exact tri_done hT (lv := 3) rfl (gt_q4_ok prog d P b1 b2 hT (by decide) rest (τ 0) (τ 1) (τ 2)) (fun O => gt_q4 prog P b1 b2 O X ln tl eb rest es L κ τ' (τ 0) (τ 1) (τ 2))
        (fun _ => (k9 hX (by simp; lia) rfl hX (by simp; lia) rfl hX l0 rfl)) fun O => ⟨[τ 1, tl], rfl, rfl, _, by rw [appS_eq]; simp [nlB, wr]; rfl⟩
    · lia
  · rcases k with _ | _ | _ | _ | _ | k
    · exact absurd rfl (hb rfl)
    · have e : rest ++ (sgn τ 0 (wr 1 true)).reverse = (((rest ++ [Value.str sx2 (τ 2)]) ++ [Value.str sx4 (τ 1)]) ++ [Value.str sx1 (τ 0)]) := ap3 _ _ _ _
      rw [e]
      exact tri_done hT (lv := 3) rfl (gt_b1_ok prog d P b1 b2 hT (by decide) rest (τ 0) (τ 1) (τ 2)) (fun O => gt_b1 prog P b1 b2 O X ln tl eb rest es L κ τ' (τ 0) (τ 1) (τ 2))
        (fun _ => (k9 hX (by simp; lia) rfl hX (by simp; lia) rfl hX l0 rfl)) fun O => ⟨[τ 1, (O.tok 12)], rfl, rfl, _, by rw [appS_eq]; simp [nlB, wr]; rfl⟩
    · have e : rest ++ (sgn τ 0 (wr 2 true)).reverse = (((rest ++ [Value.str sx2 (τ 2)]) ++ [Value.str sx0 (τ 1)]) ++ [Value.str sx1 (τ 0)]) := ap3 _ _ _ _
      rw [e]
      exact tri_done hT (lv := 3) rfl (gt_b2_ok prog d P b1 b2 hT (by decide) rest (τ 0) (τ 1) (τ 2)) (fun O => gt_b2 prog P b1 b2 O X ln tl eb rest es L κ τ' (τ 0) (τ 1) (τ 2))
        (fun _ => (k9 hX (by simp; lia) rfl hX (by simp; lia) rfl hX l0 rfl)) fun O => ⟨[τ 1, tl], rfl, rfl, _, by rw [appS_eq]; simp [nlB, wr]; rfl⟩
    · have e : rest ++ (sgn τ 0 (wr 3 true)).reverse = (((rest ++ [Value.str sx2 (τ 2)]) ++ [Value.str sx1 (τ 1)]) ++ [Value.str sx1 (τ 0)]) := ap3 _ _ _ _
      rw [e]
      exact tri_done hT (lv := 3) rfl (gt_b3_ok prog d P b1 b2 hT (by decide) rest (τ 0) (τ 1) (τ 2)) (fun O => gt_b3 prog P b1 b2 O X ln tl eb rest es L κ τ' (τ 0) (τ 1) (τ 2))
        (fun _ => (k9 hX (by simp; lia) rfl hX (by simp; lia) rfl hX l0 rfl)) fun O => ⟨[τ 1, tl], rfl, rfl, _, by rw [appS_eq]; simp [nlB, wr]; rfl⟩
    · have e : rest ++ (sgn τ 0 (wr 4 true)).reverse = (((rest ++ [Value.str sx2 (τ 2)]) ++ [Value.str s_a (τ 1)]) ++ [Value.str sx1 (τ 0)]) := ap3 _ _ _ _
      rw [e]
      exact tri_done hT (lv := 3) rfl (gt_b4_ok prog d P b1 b2 hT (by decide) rest (τ 0) (τ 1) (τ 2)) (fun O => gt_b4 prog P b1 b2 O X ln tl eb rest es L κ τ' (τ 0) (τ 1) (τ 2))
        (fun _ => (k9 hX (by simp; lia) rfl hX (by simp; lia) rfl hX l0 rfl)) fun O => ⟨[τ 1, tl], rfl, rfl, _, by rw [appS_eq]; simp [nlB, wr]; rfl⟩
    · lia
/-- what was pushed back comes first -/
theorem tok_push {X : LX} {ln : Int} {tl eb es : Nat} {pb sg : List Value} {sv : Str} {tv : Nat} (hlen : pb.length < 90000) :
    Tri prog (wd d P b1 b2) 2 T (.call (.ref 88) ⟨[.ref X.I], []⟩) (lexS X ln tl (.str sv tv :: pb) eb sg es) (fun r H' => ∃ ts : List Nat, ts.length = 0 ∧ r = .ok (.ret (.str sv tv)) ∧ ∃ new, H' = lexS X ln tl pb (eb + 1) sg es ++ new) := by
  refine tok_call prog d P b1 b2 hT fun L κ τ' => ?_
  exact tri_done hT (lv := 1) rfl (tok_a_ok prog d P b1 b2 hT (by decide) sv tv) (fun O => tok_a prog P b1 b2 O X ln tl pb eb sg es sv tv L κ τ')
    (fun _ => k3 (by simp; lia) ⟨by lia, by simp; lia⟩ rfl) fun O => ⟨[], rfl, rfl, _, rfl⟩
/-- behind the end -/
theorem tok_end {X : LX} (hX : X.ok) {ln : Int} {tl eb es : Nat} :
    Tri prog (wd d P b1 b2) 5 T (.call (.ref 88) ⟨[.ref X.I], []⟩) (lexS X ln tl [] eb [] es) (fun r H' => ∃ ts : List Nat, ts.length = 1 ∧ r = .ok (.ret (.str (B 0) (ts.getD 0 0))) ∧ ∃ new, H' = lexS X ln tl [] eb [] es ++ new) := by
  refine tok_call prog d P b1 b2 hT fun L κ τ' => ?_
  exact tri_done hT (lv := 4) rfl (gt_e_ok prog d P b1 b2 hT (by decide)) (fun O => gt_e prog P b1 b2 O X ln tl eb [] es L κ τ') (fun _ => k1 hX) fun O => ⟨[O.tok 3], rfl, rfl, _, by rw [appS_eq]⟩
theorem push_call {X : LX} {ln : Int} {tl eb es : Nat} {pb sg : List Value} {sv : Str} {tv : Nat} (hlen : pb.length < 90000) :
    Tri prog (wd d P b1 b2) 2 T (.call (.ref 95) ⟨[.ref X.I, .str sv tv], []⟩) (lexS X ln tl pb eb sg es) (fun r H' => ∃ ts : List Nat, ts.length = 0 ∧ r = .ok (.ret .none) ∧ ∃ new, H' = lexS X ln tl (pb ++ [.str sv tv]) (eb + 1) sg es ++ new) := by
  refine tri_def hT (lv := 1) (hT 95 (to95 P) rfl) rfl rfl rfl rfl rfl (hT 94 (to94 P) rfl) rfl rfl (hT 2 (to2 P) rfl) rfl (psh_p_ok prog d P b1 b2 hT (by decide)) (fun O => psh_p prog P b1 b2 O X ln tl pb eb sg es sv tv) (fun _ => mem0) fun O => ?_
  exact tri_done hT (lv := 1) rfl (psh_f_ok prog d P b1 b2 hT (by decide)) (fun O' => psh_f prog P b1 b2 O' X ln tl pb eb sg es sv tv (O.addr 0) _ _) (fun _ => k1 (by lia)) fun O' => ⟨[], rfl, rfl, _, rfl⟩
end
noncomputable def hTokPO (j : Nat) (H : List Slot) (r i : Nat) (sv : Str) (tv : Nat) (pb : List Value) : HOut := (lexOut H j [(r, 88), (i, (lxOf H j).I)] (.str sv tv :: pb) (lxSg H j) [pb.length < 90000] 0 (fun _ => .ok (.ret (.str sv tv))) (lxLn H j) (fun _ => lxTl H j) pb (lxEb H j + 1) (lxSg H j) (lxEs H j))
noncomputable def hTokP (j : Nat) : Handler := fun c H => rR c (fun r i => onCons (lxPb H j) fun v pb => onS v fun sv tv => some (hTokPO j H r i sv tv pb))
noncomputable def hTokEO (j : Nat) (H : List Slot) (r : Nat) (i : Nat) : HOut := (lexOut H j [(r, 88), (i, (lxOf H j).I)] [] [] [] 1 (fun ts => .ok (.ret (.str ⟨#[]⟩ (ts.getD 0 0)))) (lxLn H j) (fun _ => lxTl H j) [] (lxEb H j) [] (lxEs H j))
noncomputable def hTokE (j : Nat) : Handler := fun c H => rR c (fun r i => some (hTokEO j H r i))
noncomputable def hTokBO (j : Nat) (k : Nat) (bare : Bool) (rest : List Value) (τ : Nat → Nat) (sk : Str) (H : List Slot) (r : Nat) (i : Nat) : HOut := (lexOut H j [(r, 88), (i, (lxOf H j).I)] [] (rest ++ (sgn τ 0 (wr k bare)).reverse) [k < 5, bare = true → k ≠ 0, rest.length < 90000, sk = B k] 2 (fun ts => .ok (.ret (.str sk (ts.getD 0 0)))) (lxLn H j + nlB k) (fun ts => ts.getD 1 0) [] (lxEb H j) rest (lxEs H j + (wr k bare).length))
noncomputable def hTokB (j k : Nat) (bare : Bool) (rest : List Value) (τ : Nat → Nat) (sk : Str) : Handler := fun c H => rR c (fun r i => some (hTokBO j k bare rest τ sk H r i))
noncomputable def hPushO (j : Nat) (H : List Slot) (r : Nat) (i : Nat) (sv : Str) (tv : Nat) : HOut := (lexOut H j [(r, 95), (i, (lxOf H j).I)] (lxPb H j) (lxSg H j) [(lxPb H j).length < 90000] 0 (fun _ => .ok (.ret .none)) (lxLn H j) (fun _ => lxTl H j) (lxPb H j ++ [.str sv tv]) (lxEb H j + 1) (lxSg H j) (lxEs H j))
noncomputable def hPush (j : Nat) : Handler := fun c H => rRS c (fun r i sv tv => some (hPushO j H r i sv tv))
section
variable (prog : Program) (d : Source → Nat → Nat) (P : Params) (b1 b2 : Bool) {T : Tops} (hT : ∀ a o, (topT P).get a = some o → T a o)
include hT
theorem hTokP_ok (j : Nat) : HOk prog (wd d P b1 b2) T 2 (hTokP j) := by
  intro c H out e hi A s hA hS
  unfold hTokP at e
  refine rR_elim (P := fun c => CallsTo _ _ A c s _) e fun r i e1 => ?_
  clear e
  obtain ⟨v, pb, ev, e1⟩ := onCons_ex e1
  obtain ⟨sv, tv, rfl, e1⟩ := onS_ex e1
  cases e1
  obtain ⟨h1, h2, hh, h3⟩ := hi
  have e1 : r = 88 := h1 _ (.head _)
  have e2 : i = (lxOf H j).I := h1 _ (.tail _ (.head _))
  subst e1 e2
  exact lex_hok (tok_push prog d P b1 b2 hT (h3 _ (.tail _ (.head _)))) (hh _ (.head _)) hA hS
theorem hTokE_ok (j : Nat) : HOk prog (wd d P b1 b2) T 5 (hTokE j) := by
  intro c H out e hi A s hA hS
  unfold hTokE at e
  refine rR_elim (P := fun c => CallsTo _ _ A c s _) e fun r i e1 => ?_
  clear e
  cases e1
  obtain ⟨h1, h2, hh, h3⟩ := hi
  have e1 : r = 88 := h1 _ (.head _)
  have e2 : i = (lxOf H j).I := h1 _ (.tail _ (.head _))
  subst e1 e2
  exact lex_hok (tok_end prog d P b1 b2 hT (h3 _ (.head _))) (hh _ (.head _)) hA hS
theorem hTokB_ok (j k : Nat) (bare : Bool) (rest : List Value) (τ : Nat → Nat) (sk : Str) : HOk prog (wd d P b1 b2) T 4 (hTokB j k bare rest τ sk) := by
  intro c H out e hi A s hA hS
  unfold hTokB at e
  refine rR_elim (P := fun c => CallsTo _ _ A c s _) e fun r i e1 => ?_
  clear e
  cases e1
  obtain ⟨h1, h2, hh, h3⟩ := hi
  have e1 : r = 88 := h1 _ (.head _)
  have e2 : i = (lxOf H j).I := h1 _ (.tail _ (.head _))
  have c1 := h3 _ (.tail _ (.head _))
  have c2 := h3 _ (.tail _ (.tail _ (.head _)))
  have c3 := h3 _ (.tail _ (.tail _ (.tail _ (.head _))))
  have c4 := h3 _ (.tail _ (.tail _ (.tail _ (.tail _ (.head _)))))
  subst e1 e2 c4
  exact lex_hok (tok_box prog d P b1 b2 hT (h3 _ (.head _)) c1 c2 τ c3) (hh _ (.head _)) hA hS
theorem hPush_ok (j : Nat) : HOk prog (wd d P b1 b2) T 2 (hPush j) := by
  intro c H out e hi A s hA hS
  unfold hPush at e
  refine rRS_elim (P := fun c => CallsTo _ _ A c s _) e fun r i sv tv e1 => ?_
  clear e
  cases e1
  obtain ⟨h1, h2, hh, h3⟩ := hi
  have e1 : r = 95 := h1 _ (.head _)
  have e2 : i = (lxOf H j).I := h1 _ (.tail _ (.head _))
  subst e1 e2
  exact lex_hok (push_call prog d P b1 b2 hT (h3 _ (.tail _ (.head _)))) (hh _ (.head _)) hA hS
end
end Mine
namespace Mine
open PySem PySem.W
noncomputable def forT (s : Stmt) : PySem.Expr := ((sV s).1.getD 0 default)
noncomputable def forB (s : Stmt) : List Stmt := ((sV s).2.1.getD 0 [])
noncomputable def ledW : Stmt := (fnB (st 13)).getD 2 default
noncomputable def ledF : Stmt := (fnB (st 13)).getD 3 default
noncomputable def ledEnv (P : Params) (L : Nat) : Env := envOf 123 (fdOf (to123 P)) L
noncomputable def ledCode (P : Params) (L : Nat) : Code := .whileLoop (whT ledW) (whB ledW) [] (ledEnv P L)
noncomputable def ledFor (P : Params) (L it : Nat) : Code := .forLoop (forT ledF) (.ref it) (forB ledF) [] (ledEnv P L)
end Mine
namespace Mine
open PySem PySem.W PySem.W.X PyProof.Rows
noncomputable abbrev fLedS0 (X : LX) (sz : Int) (tz : Nat) (ca : Nat) (bo : Nat) (vh : Value) (vp : Value) (r : List (Str × Value)) : List (Str × Value) := (s_line, .ref X.I) :: (s_size, .int sz tz) :: (s_carrier, .ref ca) :: (s_boxes, .ref bo) :: (s_here, vh) :: (s_place, vp) :: r
noncomputable abbrev fLedS1 (X : LX) (sz : Int) (tz : Nat) (ca : Nat) (bo : Nat) (r : List (Str × Value)) : List (Str × Value) := (s_line, .ref (X.1)) :: (s_size, .int (sz) (tz)) :: (s_carrier, .ref (ca)) :: (s_boxes, .ref (bo)) :: r
section
variable (prog : Program) (P : Params) (b1 b2 : Bool)
noncomputable def led_f0_h (x : Nat) (ks ks' : List Nat) (sy : Str) (ty : Nat) : List Hint := [.top, .top, .slot 9, .sum (hLen 11), .slot 9, .sum (hILt true), .slot 9, .slot 0, .top, .top, .top, .slot 0, .top, .top, .top, .slot 0, .top, .top, .top, .top, .slot 0, .slot 1, .top, .sum (hTokP 0), .slot 9, .slot 9, .top, .slot 9, .slot 9, .top, .sum (hBis 10 x ks), .slot 9, .slot 9, .slot 9, .slot 11, .slot 11, .slot 11, .slot 11, .slot 9, .top, .top, .slot 9, .sum (hLen 10), .sum (hILt false), .sum (hLApp 11), .slot 9, .sum (hSNe false)]
theorem led_f0 (O : Orc) (X : LX) (ln : Int) (tl : Nat) (pb : List Value) (eb : Nat) (sg : List Value) (es : Nat) (L ca bo : Nat) (κ : Nat → Int) (τ : Nat → Nat) (sz : Int) (tz : Nat) (cv bv : List Value) (ec e2 : Nat) (sx : Str) (tx : Nat) (x : Nat) (ks ks' : List Nat) (sy : Str) (ty : Nat) : Seg (run (eE prog P b1 b2 O) 101 (led_f0_h x ks ks' sy ty) (.root (denoteZ (ledCode P L))) ⟨lexS X ln tl (.str sx tx :: pb) eb sg es ++ [wS L (frm κ τ [(s_line, .ref X.I), (s_size, .int sz tz), (s_carrier, .ref ca), (s_boxes, .ref bo)]), wS ca (lst cv ec), wS bo (lst bv e2)], 0, 0, 0⟩)
    [bv.length < 1000000, decide ((↑bv.length : Int) < sz) = true, X.ok, pb.length < 90000, sx = B x, Bx cv ks, x < 5, cv.length < 100000, cv.length < 1000000, decide ((↑(bisN ks x) : Int) < (↑cv.length : Int)) = false, bv.length < 1000000, (!sx.cps.toList == (⟨#[]⟩ : Str).cps.toList) = false] (.pure (.again (ledCode P L))) (lexS X ln tl pb (eb + 1) sg es ++ [wS (L) (frm (ext κ 4 [hz prog (mkP P b1 b2) s_here, hz prog (mkP P b1 b2) s_place]) (ext τ 4 [(O.tok 1), (O.tok 3)]) (fLedS1 X sz tz ca bo [(s_here, .str sx (tx)), (s_place, .int ((↑(bisN ks x) : Int)) (O.tok 2))])), wS (ca) (lst (cv) (ec)), wS (bo) (lst (bv ++ [Value.str (⟨#[]⟩ : Str) (O.2 5)]) (e2 + 1))]) := by cases b2 <;> exact sg5 (by kernel_rfl)
noncomputable def led_f1_h (x : Nat) (ks ks' : List Nat) (sy : Str) (ty : Nat) : List Hint := [.top, .top, .slot 9, .sum (hLen 11), .slot 9, .sum (hILt true), .slot 9, .slot 0, .top, .top, .top, .slot 0, .top, .top, .top, .slot 0, .top, .top, .top, .top, .slot 0, .slot 1, .top, .sum (hTokP 0), .slot 9, .slot 9, .top, .slot 9, .slot 9, .top, .sum (hBis 10 x ks), .slot 9, .slot 9, .slot 9, .slot 11, .slot 11, .slot 11, .slot 11, .slot 9, .top, .top, .slot 9, .sum (hLen 10), .sum (hILt false), .sum (hLApp 11), .slot 9, .sum (hSNe true), .top, .slot 9, .slot 9, .top, .sum (hIns 10 x ks')]
theorem led_f1 (O : Orc) (X : LX) (ln : Int) (tl : Nat) (pb : List Value) (eb : Nat) (sg : List Value) (es : Nat) (L ca bo : Nat) (κ : Nat → Int) (τ : Nat → Nat) (sz : Int) (tz : Nat) (cv bv : List Value) (ec e2 : Nat) (sx : Str) (tx : Nat) (x : Nat) (ks ks' : List Nat) (sy : Str) (ty : Nat) : Seg (run (eE prog P b1 b2 O) 112 (led_f1_h x ks ks' sy ty) (.root (denoteZ (ledCode P L))) ⟨lexS X ln tl (.str sx tx :: pb) eb sg es ++ [wS L (frm κ τ [(s_line, .ref X.I), (s_size, .int sz tz), (s_carrier, .ref ca), (s_boxes, .ref bo)]), wS ca (lst cv ec), wS bo (lst bv e2)], 0, 0, 0⟩)
    [bv.length < 1000000, decide ((↑bv.length : Int) < sz) = true, X.ok, pb.length < 90000, sx = B x, Bx cv ks, x < 5, cv.length < 100000, cv.length < 1000000, decide ((↑(bisN ks x) : Int) < (↑cv.length : Int)) = false, bv.length < 1000000, (!sx.cps.toList == (⟨#[]⟩ : Str).cps.toList) = true, sx = B x, Bx cv ks', x < 5, cv.length < 100000] (.pure (.again (ledCode P L))) (lexS X ln tl pb (eb + 1) sg es ++ [wS (L) (frm (ext κ 4 [hz prog (mkP P b1 b2) s_here, hz prog (mkP P b1 b2) s_place]) (ext τ 4 [(O.tok 1), (O.tok 3)]) (fLedS1 X sz tz ca bo [(s_here, .str sx (tx)), (s_place, .int ((↑(bisN ks x) : Int)) (O.tok 2))])), wS (ca) (lst (List.take (bisN ks' x) cv ++ Value.str sx tx :: List.drop (bisN ks' x) cv) (ec + 1)), wS (bo) (lst (bv ++ [Value.str (⟨#[]⟩ : Str) (O.2 5)]) (e2 + 1))]) := by cases b2 <;> exact sg5 (by kernel_rfl)
noncomputable def led_AP00_h (x : Nat) (ks ks' : List Nat) (sy : Str) (ty : Nat) : List Hint := [.top, .top, .slot 9, .sum (hLen 11), .slot 9, .sum (hILt true), .slot 9, .slot 0, .top, .top, .top, .slot 0, .top, .top, .top, .slot 0, .top, .top, .top, .top, .slot 0, .slot 1, .top, .sum (hTokP 0), .slot 9, .slot 9, .top, .slot 9, .slot 9, .top, .sum (hBis 10 x ks), .slot 9, .slot 9, .slot 9, .slot 11, .slot 11, .slot 11, .slot 11, .slot 9, .top, .top, .slot 9, .sum (hLen 10), .sum (hILt false), .sum (hLApp 11), .slot 9, .sum (hSNe false)]
theorem led_AP00 (O : Orc) (X : LX) (ln : Int) (tl : Nat) (pb : List Value) (eb : Nat) (sg : List Value) (es : Nat) (L ca bo : Nat) (κ : Nat → Int) (τ : Nat → Nat) (sz : Int) (tz : Nat) (cv bv : List Value) (ec e2 : Nat) (vh vp : Value) (sx : Str) (tx : Nat) (x : Nat) (ks ks' : List Nat) (sy : Str) (ty : Nat) : Seg (run (eE prog P b1 b2 O) 101 (led_AP00_h x ks ks' sy ty) (.root (denoteZ (ledCode P L))) ⟨lexS X ln tl (.str sx tx :: pb) eb sg es ++ [wS L (frm κ τ (fLedS0 X sz tz ca bo vh vp [])), wS ca (lst cv ec), wS bo (lst bv e2)], 0, 0, 0⟩)
    [bv.length < 1000000, decide ((↑bv.length : Int) < sz) = true, X.ok, pb.length < 90000, sx = B x, Bx cv ks, x < 5, cv.length < 100000, cv.length < 1000000, decide ((↑(bisN ks x) : Int) < (↑cv.length : Int)) = false, bv.length < 1000000, (!sx.cps.toList == (⟨#[]⟩ : Str).cps.toList) = false] (.pure (.again (ledCode P L))) (lexS X ln tl pb (eb + 1) sg es ++ [wS (L) (frm κ τ (fLedS1 X sz tz ca bo [(s_here, .str sx (tx)), (s_place, .int ((↑(bisN ks x) : Int)) (O.tok 2))])), wS (ca) (lst (cv) (ec)), wS (bo) (lst (bv ++ [Value.str (⟨#[]⟩ : Str) (O.2 5)]) (e2 + 1))]) := by cases b2 <;> exact sg5 (by kernel_rfl)
noncomputable def led_AP01_h (x : Nat) (ks ks' : List Nat) (sy : Str) (ty : Nat) : List Hint := [.top, .top, .slot 9, .sum (hLen 11), .slot 9, .sum (hILt true), .slot 9, .slot 0, .top, .top, .top, .slot 0, .top, .top, .top, .slot 0, .top, .top, .top, .top, .slot 0, .slot 1, .top, .sum (hTokP 0), .slot 9, .slot 9, .top, .slot 9, .slot 9, .top, .sum (hBis 10 x ks), .slot 9, .slot 9, .slot 9, .slot 11, .slot 11, .slot 11, .slot 11, .slot 9, .top, .top, .slot 9, .sum (hLen 10), .sum (hILt false), .sum (hLApp 11), .slot 9, .sum (hSNe true), .top, .slot 9, .slot 9, .top, .sum (hIns 10 x ks')]
theorem led_AP01 (O : Orc) (X : LX) (ln : Int) (tl : Nat) (pb : List Value) (eb : Nat) (sg : List Value) (es : Nat) (L ca bo : Nat) (κ : Nat → Int) (τ : Nat → Nat) (sz : Int) (tz : Nat) (cv bv : List Value) (ec e2 : Nat) (vh vp : Value) (sx : Str) (tx : Nat) (x : Nat) (ks ks' : List Nat) (sy : Str) (ty : Nat) : Seg (run (eE prog P b1 b2 O) 112 (led_AP01_h x ks ks' sy ty) (.root (denoteZ (ledCode P L))) ⟨lexS X ln tl (.str sx tx :: pb) eb sg es ++ [wS L (frm κ τ (fLedS0 X sz tz ca bo vh vp [])), wS ca (lst cv ec), wS bo (lst bv e2)], 0, 0, 0⟩)
    [bv.length < 1000000, decide ((↑bv.length : Int) < sz) = true, X.ok, pb.length < 90000, sx = B x, Bx cv ks, x < 5, cv.length < 100000, cv.length < 1000000, decide ((↑(bisN ks x) : Int) < (↑cv.length : Int)) = false, bv.length < 1000000, (!sx.cps.toList == (⟨#[]⟩ : Str).cps.toList) = true, sx = B x, Bx cv ks', x < 5, cv.length < 100000] (.pure (.again (ledCode P L))) (lexS X ln tl pb (eb + 1) sg es ++ [wS (L) (frm κ τ (fLedS1 X sz tz ca bo [(s_here, .str sx (tx)), (s_place, .int ((↑(bisN ks x) : Int)) (O.tok 2))])), wS (ca) (lst (List.take (bisN ks' x) cv ++ Value.str sx tx :: List.drop (bisN ks' x) cv) (ec + 1)), wS (bo) (lst (bv ++ [Value.str (⟨#[]⟩ : Str) (O.2 5)]) (e2 + 1))]) := by cases b2 <;> exact sg5 (by kernel_rfl)
noncomputable def led_AE0_h (x : Nat) (ks ks' : List Nat) (sy : Str) (ty : Nat) : List Hint := [.top, .top, .slot 9, .sum (hLen 11), .slot 9, .sum (hILt true), .slot 9, .slot 0, .top, .top, .top, .slot 0, .top, .top, .top, .slot 0, .top, .top, .top, .top, .slot 0, .slot 1, .top, .sum (hTokE 0), .slot 9, .slot 9, .top, .slot 9, .slot 9, .top, .sum (hBis 10 x ks), .slot 9, .slot 9, .slot 9, .slot 11, .slot 11, .slot 11, .slot 11, .slot 9, .top, .top, .slot 9, .sum (hLen 10), .sum (hILt false), .sum (hLApp 11), .slot 9, .sum (hSNe false)]
theorem led_AE0 (O : Orc) (X : LX) (ln : Int) (tl : Nat) (pb : List Value) (eb : Nat) (sg : List Value) (es : Nat) (L ca bo : Nat) (κ : Nat → Int) (τ : Nat → Nat) (sz : Int) (tz : Nat) (cv bv : List Value) (ec e2 : Nat) (vh vp : Value) (x : Nat) (ks ks' : List Nat) (sy : Str) (ty : Nat) : Seg (run (eE prog P b1 b2 O) 101 (led_AE0_h x ks ks' sy ty) (.root (denoteZ (ledCode P L))) ⟨lexS X ln tl [] eb [] es ++ [wS L (frm κ τ (fLedS0 X sz tz ca bo vh vp [])), wS ca (lst cv ec), wS bo (lst bv e2)], 0, 0, 0⟩)
    [bv.length < 1000000, decide ((↑bv.length : Int) < sz) = true, X.ok, (⟨#[]⟩ : Str) = B x, Bx cv ks, x < 5, cv.length < 100000, cv.length < 1000000, decide ((↑(bisN ks x) : Int) < (↑cv.length : Int)) = false, bv.length < 1000000, (!(⟨#[]⟩ : Str).cps.toList == (⟨#[]⟩ : Str).cps.toList) = false] (.pure (.again (ledCode P L))) (lexS X ln tl [] eb [] es ++ [wS (L) (frm κ τ (fLedS1 X sz tz ca bo [(s_here, .str ⟨#[]⟩ (O.tok 1)), (s_place, .int ((↑(bisN ks x) : Int)) (O.tok 3))])), wS (ca) (lst (cv) (ec)), wS (bo) (lst (bv ++ [Value.str (⟨#[]⟩ : Str) (O.2 6)]) (e2 + 1))]) := by cases b2 <;> exact sg5 (by kernel_rfl)
noncomputable def led_AP10_h (x : Nat) (ks ks' : List Nat) (sy : Str) (ty : Nat) : List Hint := [.top, .top, .slot 9, .sum (hLen 11), .slot 9, .sum (hILt true), .slot 9, .slot 0, .top, .top, .top, .slot 0, .top, .top, .top, .slot 0, .top, .top, .top, .top, .slot 0, .slot 1, .top, .sum (hTokP 0), .slot 9, .slot 9, .top, .slot 9, .slot 9, .top, .sum (hBis 10 x ks), .slot 9, .slot 9, .slot 9, .slot 11, .slot 11, .slot 11, .slot 11, .slot 9, .top, .top, .slot 9, .sum (hLen 10), .sum (hILt true), .slot 9, .slot 10, .slot 10, .slot 10, .slot 10, .slot 9, .sum (hLPopAt 10 (.str sy ty)), .sum (hLApp 11), .slot 9, .sum (hSNe false)]
theorem led_AP10 (O : Orc) (X : LX) (ln : Int) (tl : Nat) (pb : List Value) (eb : Nat) (sg : List Value) (es : Nat) (L ca bo : Nat) (κ : Nat → Int) (τ : Nat → Nat) (sz : Int) (tz : Nat) (cv bv : List Value) (ec e2 : Nat) (vh vp : Value) (sx : Str) (tx : Nat) (x : Nat) (ks ks' : List Nat) (sy : Str) (ty : Nat) : Seg (run (eE prog P b1 b2 O) 113 (led_AP10_h x ks ks' sy ty) (.root (denoteZ (ledCode P L))) ⟨lexS X ln tl (.str sx tx :: pb) eb sg es ++ [wS L (frm κ τ (fLedS0 X sz tz ca bo vh vp [])), wS ca (lst cv ec), wS bo (lst bv e2)], 0, 0, 0⟩)
    [bv.length < 1000000, decide ((↑bv.length : Int) < sz) = true, X.ok, pb.length < 90000, sx = B x, Bx cv ks, x < 5, cv.length < 100000, cv.length < 1000000, decide ((↑(bisN ks x) : Int) < (↑cv.length : Int)) = true, (0 : Int) ≤ (↑(bisN ks x) : Int) ∧ cv.length < 1000000, cv[(↑(bisN ks x) : Int).toNat]? = some (Value.str sy ty), bv.length < 1000000, (!sx.cps.toList == (⟨#[]⟩ : Str).cps.toList) = false] (.pure (.again (ledCode P L))) (lexS X ln tl pb (eb + 1) sg es ++ [wS (L) (frm κ τ (fLedS1 X sz tz ca bo [(s_here, .str sx (tx)), (s_place, .int ((↑(bisN ks x) : Int)) (O.tok 2))])), wS (ca) (lst (cv.eraseIdx (↑(bisN ks x) : Int).toNat) (ec + 1)), wS (bo) (lst (bv ++ [Value.str sy ty]) (e2 + 1))]) := by cases b2 <;> exact sg5 (by kernel_rfl)
noncomputable def led_AP11_h (x : Nat) (ks ks' : List Nat) (sy : Str) (ty : Nat) : List Hint := [.top, .top, .slot 9, .sum (hLen 11), .slot 9, .sum (hILt true), .slot 9, .slot 0, .top, .top, .top, .slot 0, .top, .top, .top, .slot 0, .top, .top, .top, .top, .slot 0, .slot 1, .top, .sum (hTokP 0), .slot 9, .slot 9, .top, .slot 9, .slot 9, .top, .sum (hBis 10 x ks), .slot 9, .slot 9, .slot 9, .slot 11, .slot 11, .slot 11, .slot 11, .slot 9, .top, .top, .slot 9, .sum (hLen 10), .sum (hILt true), .slot 9, .slot 10, .slot 10, .slot 10, .slot 10, .slot 9, .sum (hLPopAt 10 (.str sy ty)), .sum (hLApp 11), .slot 9, .sum (hSNe true), .top, .slot 9, .slot 9, .top, .sum (hIns 10 x ks')]
theorem led_AP11 (O : Orc) (X : LX) (ln : Int) (tl : Nat) (pb : List Value) (eb : Nat) (sg : List Value) (es : Nat) (L ca bo : Nat) (κ : Nat → Int) (τ : Nat → Nat) (sz : Int) (tz : Nat) (cv bv : List Value) (ec e2 : Nat) (vh vp : Value) (sx : Str) (tx : Nat) (x : Nat) (ks ks' : List Nat) (sy : Str) (ty : Nat) : Seg (run (eE prog P b1 b2 O) 124 (led_AP11_h x ks ks' sy ty) (.root (denoteZ (ledCode P L))) ⟨lexS X ln tl (.str sx tx :: pb) eb sg es ++ [wS L (frm κ τ (fLedS0 X sz tz ca bo vh vp [])), wS ca (lst cv ec), wS bo (lst bv e2)], 0, 0, 0⟩)
    [bv.length < 1000000, decide ((↑bv.length : Int) < sz) = true, X.ok, pb.length < 90000, sx = B x, Bx cv ks, x < 5, cv.length < 100000, cv.length < 1000000, decide ((↑(bisN ks x) : Int) < (↑cv.length : Int)) = true, (0 : Int) ≤ (↑(bisN ks x) : Int) ∧ cv.length < 1000000, cv[(↑(bisN ks x) : Int).toNat]? = some (Value.str sy ty), bv.length < 1000000, (!sx.cps.toList == (⟨#[]⟩ : Str).cps.toList) = true, sx = B x, Bx (cv.eraseIdx (↑(bisN ks x) : Int).toNat) ks', x < 5, (cv.eraseIdx (↑(bisN ks x) : Int).toNat).length < 100000] (.pure (.again (ledCode P L))) (lexS X ln tl pb (eb + 1) sg es ++ [wS (L) (frm κ τ (fLedS1 X sz tz ca bo [(s_here, .str sx (tx)), (s_place, .int ((↑(bisN ks x) : Int)) (O.tok 2))])), wS (ca) (lst (List.take (bisN ks' x) (cv.eraseIdx (↑(bisN ks x) : Int).toNat) ++ Value.str sx tx :: List.drop (bisN ks' x) (cv.eraseIdx (↑(bisN ks x) : Int).toNat)) (ec + 1 + 1)), wS (bo) (lst (bv ++ [Value.str sy ty]) (e2 + 1))]) := by cases b2 <;> exact sg5 (by kernel_rfl)
noncomputable def led_AE1_h (x : Nat) (ks ks' : List Nat) (sy : Str) (ty : Nat) : List Hint := [.top, .top, .slot 9, .sum (hLen 11), .slot 9, .sum (hILt true), .slot 9, .slot 0, .top, .top, .top, .slot 0, .top, .top, .top, .slot 0, .top, .top, .top, .top, .slot 0, .slot 1, .top, .sum (hTokE 0), .slot 9, .slot 9, .top, .slot 9, .slot 9, .top, .sum (hBis 10 x ks), .slot 9, .slot 9, .slot 9, .slot 11, .slot 11, .slot 11, .slot 11, .slot 9, .top, .top, .slot 9, .sum (hLen 10), .sum (hILt true), .slot 9, .slot 10, .slot 10, .slot 10, .slot 10, .slot 9, .sum (hLPopAt 10 (.str sy ty)), .sum (hLApp 11), .slot 9, .sum (hSNe false)]
theorem led_AE1 (O : Orc) (X : LX) (ln : Int) (tl : Nat) (pb : List Value) (eb : Nat) (sg : List Value) (es : Nat) (L ca bo : Nat) (κ : Nat → Int) (τ : Nat → Nat) (sz : Int) (tz : Nat) (cv bv : List Value) (ec e2 : Nat) (vh vp : Value) (x : Nat) (ks ks' : List Nat) (sy : Str) (ty : Nat) : Seg (run (eE prog P b1 b2 O) 113 (led_AE1_h x ks ks' sy ty) (.root (denoteZ (ledCode P L))) ⟨lexS X ln tl [] eb [] es ++ [wS L (frm κ τ (fLedS0 X sz tz ca bo vh vp [])), wS ca (lst cv ec), wS bo (lst bv e2)], 0, 0, 0⟩)
    [bv.length < 1000000, decide ((↑bv.length : Int) < sz) = true, X.ok, (⟨#[]⟩ : Str) = B x, Bx cv ks, x < 5, cv.length < 100000, cv.length < 1000000, decide ((↑(bisN ks x) : Int) < (↑cv.length : Int)) = true, (0 : Int) ≤ (↑(bisN ks x) : Int) ∧ cv.length < 1000000, cv[(↑(bisN ks x) : Int).toNat]? = some (Value.str sy ty), bv.length < 1000000, (!(⟨#[]⟩ : Str).cps.toList == (⟨#[]⟩ : Str).cps.toList) = false] (.pure (.again (ledCode P L))) (lexS X ln tl [] eb [] es ++ [wS (L) (frm κ τ (fLedS1 X sz tz ca bo [(s_here, .str ⟨#[]⟩ (O.tok 1)), (s_place, .int ((↑(bisN ks x) : Int)) (O.tok 3))])), wS (ca) (lst (cv.eraseIdx (↑(bisN ks x) : Int).toNat) (ec + 1)), wS (bo) (lst (bv ++ [Value.str sy ty]) (e2 + 1))]) := by cases b2 <;> exact sg5 (by kernel_rfl)
noncomputable def led_BP00_h (x : Nat) (ks ks' : List Nat) (sy : Str) (ty : Nat) : List Hint := [.top, .top, .slot 9, .sum (hLen 11), .slot 9, .sum (hILt false), .top, .top, .slot 9, .sum (hLen 10), .sum (hIGt true), .slot 9, .slot 0, .top, .top, .top, .slot 0, .top, .top, .top, .slot 0, .top, .top, .top, .top, .slot 0, .slot 1, .top, .sum (hTokP 0), .slot 9, .slot 9, .top, .slot 9, .slot 9, .top, .sum (hBis 10 x ks), .slot 9, .slot 9, .slot 9, .slot 11, .slot 11, .slot 11, .slot 11, .slot 9, .top, .top, .slot 9, .sum (hLen 10), .sum (hILt false), .sum (hLApp 11), .slot 9, .sum (hSNe false)]
theorem led_BP00 (O : Orc) (X : LX) (ln : Int) (tl : Nat) (pb : List Value) (eb : Nat) (sg : List Value) (es : Nat) (L ca bo : Nat) (κ : Nat → Int) (τ : Nat → Nat) (sz : Int) (tz : Nat) (cv bv : List Value) (ec e2 : Nat) (vh vp : Value) (sx : Str) (tx : Nat) (x : Nat) (ks ks' : List Nat) (sy : Str) (ty : Nat) : Seg (run (eE prog P b1 b2 O) 113 (led_BP00_h x ks ks' sy ty) (.root (denoteZ (ledCode P L))) ⟨lexS X ln tl (.str sx tx :: pb) eb sg es ++ [wS L (frm κ τ (fLedS0 X sz tz ca bo vh vp [])), wS ca (lst cv ec), wS bo (lst bv e2)], 0, 0, 0⟩)
    [bv.length < 1000000, decide ((↑bv.length : Int) < sz) = false, cv.length < 1000000, decide ((0 : Int) < (↑cv.length : Int)) = true, X.ok, pb.length < 90000, sx = B x, Bx cv ks, x < 5, cv.length < 100000, cv.length < 1000000, decide ((↑(bisN ks x) : Int) < (↑cv.length : Int)) = false, bv.length < 1000000, (!sx.cps.toList == (⟨#[]⟩ : Str).cps.toList) = false] (.pure (.again (ledCode P L))) (lexS X ln tl pb (eb + 1) sg es ++ [wS (L) (frm κ τ (fLedS1 X sz tz ca bo [(s_here, .str sx (tx)), (s_place, .int ((↑(bisN ks x) : Int)) (O.tok 4))])), wS (ca) (lst (cv) (ec)), wS (bo) (lst (bv ++ [Value.str (⟨#[]⟩ : Str) (O.2 7)]) (e2 + 1))]) := by cases b2 <;> exact sg5 (by kernel_rfl)
noncomputable def led_BP01_h (x : Nat) (ks ks' : List Nat) (sy : Str) (ty : Nat) : List Hint := [.top, .top, .slot 9, .sum (hLen 11), .slot 9, .sum (hILt false), .top, .top, .slot 9, .sum (hLen 10), .sum (hIGt true), .slot 9, .slot 0, .top, .top, .top, .slot 0, .top, .top, .top, .slot 0, .top, .top, .top, .top, .slot 0, .slot 1, .top, .sum (hTokP 0), .slot 9, .slot 9, .top, .slot 9, .slot 9, .top, .sum (hBis 10 x ks), .slot 9, .slot 9, .slot 9, .slot 11, .slot 11, .slot 11, .slot 11, .slot 9, .top, .top, .slot 9, .sum (hLen 10), .sum (hILt false), .sum (hLApp 11), .slot 9, .sum (hSNe true), .top, .slot 9, .slot 9, .top, .sum (hIns 10 x ks')]
theorem led_BP01 (O : Orc) (X : LX) (ln : Int) (tl : Nat) (pb : List Value) (eb : Nat) (sg : List Value) (es : Nat) (L ca bo : Nat) (κ : Nat → Int) (τ : Nat → Nat) (sz : Int) (tz : Nat) (cv bv : List Value) (ec e2 : Nat) (vh vp : Value) (sx : Str) (tx : Nat) (x : Nat) (ks ks' : List Nat) (sy : Str) (ty : Nat) : Seg (run (eE prog P b1 b2 O) 124 (led_BP01_h x ks ks' sy ty) (.root (denoteZ (ledCode P L))) ⟨lexS X ln tl (.str sx tx :: pb) eb sg es ++ [wS L (frm κ τ (fLedS0 X sz tz ca bo vh vp [])), wS ca (lst cv ec), wS bo (lst bv e2)], 0, 0, 0⟩)
    [bv.length < 1000000, decide ((↑bv.length : Int) < sz) = false, cv.length < 1000000, decide ((0 : Int) < (↑cv.length : Int)) = true, X.ok, pb.length < 90000, sx = B x, Bx cv ks, x < 5, cv.length < 100000, cv.length < 1000000, decide ((↑(bisN ks x) : Int) < (↑cv.length : Int)) = false, bv.length < 1000000, (!sx.cps.toList == (⟨#[]⟩ : Str).cps.toList) = true, sx = B x, Bx cv ks', x < 5, cv.length < 100000] (.pure (.again (ledCode P L))) (lexS X ln tl pb (eb + 1) sg es ++ [wS (L) (frm κ τ (fLedS1 X sz tz ca bo [(s_here, .str sx (tx)), (s_place, .int ((↑(bisN ks x) : Int)) (O.tok 4))])), wS (ca) (lst (List.take (bisN ks' x) cv ++ Value.str sx tx :: List.drop (bisN ks' x) cv) (ec + 1)), wS (bo) (lst (bv ++ [Value.str (⟨#[]⟩ : Str) (O.2 7)]) (e2 + 1))]) := by cases b2 <;> exact sg5 (by kernel_rfl)
noncomputable def led_BE0_h (x : Nat) (ks ks' : List Nat) (sy : Str) (ty : Nat) : List Hint := [.top, .top, .slot 9, .sum (hLen 11), .slot 9, .sum (hILt false), .top, .top, .slot 9, .sum (hLen 10), .sum (hIGt true), .slot 9, .slot 0, .top, .top, .top, .slot 0, .top, .top, .top, .slot 0, .top, .top, .top, .top, .slot 0, .slot 1, .top, .sum (hTokE 0), .slot 9, .slot 9, .top, .slot 9, .slot 9, .top, .sum (hBis 10 x ks), .slot 9, .slot 9, .slot 9, .slot 11, .slot 11, .slot 11, .slot 11, .slot 9, .top, .top, .slot 9, .sum (hLen 10), .sum (hILt false), .sum (hLApp 11), .slot 9, .sum (hSNe false)]
theorem led_BE0 (O : Orc) (X : LX) (ln : Int) (tl : Nat) (pb : List Value) (eb : Nat) (sg : List Value) (es : Nat) (L ca bo : Nat) (κ : Nat → Int) (τ : Nat → Nat) (sz : Int) (tz : Nat) (cv bv : List Value) (ec e2 : Nat) (vh vp : Value) (x : Nat) (ks ks' : List Nat) (sy : Str) (ty : Nat) : Seg (run (eE prog P b1 b2 O) 113 (led_BE0_h x ks ks' sy ty) (.root (denoteZ (ledCode P L))) ⟨lexS X ln tl [] eb [] es ++ [wS L (frm κ τ (fLedS0 X sz tz ca bo vh vp [])), wS ca (lst cv ec), wS bo (lst bv e2)], 0, 0, 0⟩)
    [bv.length < 1000000, decide ((↑bv.length : Int) < sz) = false, cv.length < 1000000, decide ((0 : Int) < (↑cv.length : Int)) = true, X.ok, (⟨#[]⟩ : Str) = B x, Bx cv ks, x < 5, cv.length < 100000, cv.length < 1000000, decide ((↑(bisN ks x) : Int) < (↑cv.length : Int)) = false, bv.length < 1000000, (!(⟨#[]⟩ : Str).cps.toList == (⟨#[]⟩ : Str).cps.toList) = false] (.pure (.again (ledCode P L))) (lexS X ln tl [] eb [] es ++ [wS (L) (frm κ τ (fLedS1 X sz tz ca bo [(s_here, .str ⟨#[]⟩ (O.tok 3)), (s_place, .int ((↑(bisN ks x) : Int)) (O.tok 5))])), wS (ca) (lst (cv) (ec)), wS (bo) (lst (bv ++ [Value.str (⟨#[]⟩ : Str) (O.2 8)]) (e2 + 1))]) := by cases b2 <;> exact sg5 (by kernel_rfl)
noncomputable def led_BP10_h (x : Nat) (ks ks' : List Nat) (sy : Str) (ty : Nat) : List Hint := [.top, .top, .slot 9, .sum (hLen 11), .slot 9, .sum (hILt false), .top, .top, .slot 9, .sum (hLen 10), .sum (hIGt true), .slot 9, .slot 0, .top, .top, .top, .slot 0, .top, .top, .top, .slot 0, .top, .top, .top, .top, .slot 0, .slot 1, .top, .sum (hTokP 0), .slot 9, .slot 9, .top, .slot 9, .slot 9, .top, .sum (hBis 10 x ks), .slot 9, .slot 9, .slot 9, .slot 11, .slot 11, .slot 11, .slot 11, .slot 9, .top, .top, .slot 9, .sum (hLen 10), .sum (hILt true), .slot 9, .slot 10, .slot 10, .slot 10, .slot 10, .slot 9, .sum (hLPopAt 10 (.str sy ty)), .sum (hLApp 11), .slot 9, .sum (hSNe false)]
theorem led_BP10 (O : Orc) (X : LX) (ln : Int) (tl : Nat) (pb : List Value) (eb : Nat) (sg : List Value) (es : Nat) (L ca bo : Nat) (κ : Nat → Int) (τ : Nat → Nat) (sz : Int) (tz : Nat) (cv bv : List Value) (ec e2 : Nat) (vh vp : Value) (sx : Str) (tx : Nat) (x : Nat) (ks ks' : List Nat) (sy : Str) (ty : Nat) : Seg (run (eE prog P b1 b2 O) 125 (led_BP10_h x ks ks' sy ty) (.root (denoteZ (ledCode P L))) ⟨lexS X ln tl (.str sx tx :: pb) eb sg es ++ [wS L (frm κ τ (fLedS0 X sz tz ca bo vh vp [])), wS ca (lst cv ec), wS bo (lst bv e2)], 0, 0, 0⟩)
    [bv.length < 1000000, decide ((↑bv.length : Int) < sz) = false, cv.length < 1000000, decide ((0 : Int) < (↑cv.length : Int)) = true, X.ok, pb.length < 90000, sx = B x, Bx cv ks, x < 5, cv.length < 100000, cv.length < 1000000, decide ((↑(bisN ks x) : Int) < (↑cv.length : Int)) = true, (0 : Int) ≤ (↑(bisN ks x) : Int) ∧ cv.length < 1000000, cv[(↑(bisN ks x) : Int).toNat]? = some (Value.str sy ty), bv.length < 1000000, (!sx.cps.toList == (⟨#[]⟩ : Str).cps.toList) = false] (.pure (.again (ledCode P L))) (lexS X ln tl pb (eb + 1) sg es ++ [wS (L) (frm κ τ (fLedS1 X sz tz ca bo [(s_here, .str sx (tx)), (s_place, .int ((↑(bisN ks x) : Int)) (O.tok 4))])), wS (ca) (lst (cv.eraseIdx (↑(bisN ks x) : Int).toNat) (ec + 1)), wS (bo) (lst (bv ++ [Value.str sy ty]) (e2 + 1))]) := by cases b2 <;> exact sg5 (by kernel_rfl)
noncomputable def led_BP11_h (x : Nat) (ks ks' : List Nat) (sy : Str) (ty : Nat) : List Hint := [.top, .top, .slot 9, .sum (hLen 11), .slot 9, .sum (hILt false), .top, .top, .slot 9, .sum (hLen 10), .sum (hIGt true), .slot 9, .slot 0, .top, .top, .top, .slot 0, .top, .top, .top, .slot 0, .top, .top, .top, .top, .slot 0, .slot 1, .top, .sum (hTokP 0), .slot 9, .slot 9, .top, .slot 9, .slot 9, .top, .sum (hBis 10 x ks), .slot 9, .slot 9, .slot 9, .slot 11, .slot 11, .slot 11, .slot 11, .slot 9, .top, .top, .slot 9, .sum (hLen 10), .sum (hILt true), .slot 9, .slot 10, .slot 10, .slot 10, .slot 10, .slot 9, .sum (hLPopAt 10 (.str sy ty)), .sum (hLApp 11), .slot 9, .sum (hSNe true), .top, .slot 9, .slot 9, .top, .sum (hIns 10 x ks')]
theorem led_BP11 (O : Orc) (X : LX) (ln : Int) (tl : Nat) (pb : List Value) (eb : Nat) (sg : List Value) (es : Nat) (L ca bo : Nat) (κ : Nat → Int) (τ : Nat → Nat) (sz : Int) (tz : Nat) (cv bv : List Value) (ec e2 : Nat) (vh vp : Value) (sx : Str) (tx : Nat) (x : Nat) (ks ks' : List Nat) (sy : Str) (ty : Nat) : Seg (run (eE prog P b1 b2 O) 136 (led_BP11_h x ks ks' sy ty) (.root (denoteZ (ledCode P L))) ⟨lexS X ln tl (.str sx tx :: pb) eb sg es ++ [wS L (frm κ τ (fLedS0 X sz tz ca bo vh vp [])), wS ca (lst cv ec), wS bo (lst bv e2)], 0, 0, 0⟩)
    [bv.length < 1000000, decide ((↑bv.length : Int) < sz) = false, cv.length < 1000000, decide ((0 : Int) < (↑cv.length : Int)) = true, X.ok, pb.length < 90000, sx = B x, Bx cv ks, x < 5, cv.length < 100000, cv.length < 1000000, decide ((↑(bisN ks x) : Int) < (↑cv.length : Int)) = true, (0 : Int) ≤ (↑(bisN ks x) : Int) ∧ cv.length < 1000000, cv[(↑(bisN ks x) : Int).toNat]? = some (Value.str sy ty), bv.length < 1000000, (!sx.cps.toList == (⟨#[]⟩ : Str).cps.toList) = true, sx = B x, Bx (cv.eraseIdx (↑(bisN ks x) : Int).toNat) ks', x < 5, (cv.eraseIdx (↑(bisN ks x) : Int).toNat).length < 100000] (.pure (.again (ledCode P L))) (lexS X ln tl pb (eb + 1) sg es ++ [wS (L) (frm κ τ (fLedS1 X sz tz ca bo [(s_here, .str sx (tx)), (s_place, .int ((↑(bisN ks x) : Int)) (O.tok 4))])), wS (ca) (lst (List.take (bisN ks' x) (cv.eraseIdx (↑(bisN ks x) : Int).toNat) ++ Value.str sx tx :: List.drop (bisN ks' x) (cv.eraseIdx (↑(bisN ks x) : Int).toNat)) (ec + 1 + 1)), wS (bo) (lst (bv ++ [Value.str sy ty]) (e2 + 1))]) := by cases b2 <;> exact sg5 (by kernel_rfl)
noncomputable def led_BE1_h (x : Nat) (ks ks' : List Nat) (sy : Str) (ty : Nat) : List Hint := [.top, .top, .slot 9, .sum (hLen 11), .slot 9, .sum (hILt false), .top, .top, .slot 9, .sum (hLen 10), .sum (hIGt true), .slot 9, .slot 0, .top, .top, .top, .slot 0, .top, .top, .top, .slot 0, .top, .top, .top, .top, .slot 0, .slot 1, .top, .sum (hTokE 0), .slot 9, .slot 9, .top, .slot 9, .slot 9, .top, .sum (hBis 10 x ks), .slot 9, .slot 9, .slot 9, .slot 11, .slot 11, .slot 11, .slot 11, .slot 9, .top, .top, .slot 9, .sum (hLen 10), .sum (hILt true), .slot 9, .slot 10, .slot 10, .slot 10, .slot 10, .slot 9, .sum (hLPopAt 10 (.str sy ty)), .sum (hLApp 11), .slot 9, .sum (hSNe false)]
theorem led_BE1 (O : Orc) (X : LX) (ln : Int) (tl : Nat) (pb : List Value) (eb : Nat) (sg : List Value) (es : Nat) (L ca bo : Nat) (κ : Nat → Int) (τ : Nat → Nat) (sz : Int) (tz : Nat) (cv bv : List Value) (ec e2 : Nat) (vh vp : Value) (x : Nat) (ks ks' : List Nat) (sy : Str) (ty : Nat) : Seg (run (eE prog P b1 b2 O) 125 (led_BE1_h x ks ks' sy ty) (.root (denoteZ (ledCode P L))) ⟨lexS X ln tl [] eb [] es ++ [wS L (frm κ τ (fLedS0 X sz tz ca bo vh vp [])), wS ca (lst cv ec), wS bo (lst bv e2)], 0, 0, 0⟩)
    [bv.length < 1000000, decide ((↑bv.length : Int) < sz) = false, cv.length < 1000000, decide ((0 : Int) < (↑cv.length : Int)) = true, X.ok, (⟨#[]⟩ : Str) = B x, Bx cv ks, x < 5, cv.length < 100000, cv.length < 1000000, decide ((↑(bisN ks x) : Int) < (↑cv.length : Int)) = true, (0 : Int) ≤ (↑(bisN ks x) : Int) ∧ cv.length < 1000000, cv[(↑(bisN ks x) : Int).toNat]? = some (Value.str sy ty), bv.length < 1000000, (!(⟨#[]⟩ : Str).cps.toList == (⟨#[]⟩ : Str).cps.toList) = false] (.pure (.again (ledCode P L))) (lexS X ln tl [] eb [] es ++ [wS (L) (frm κ τ (fLedS1 X sz tz ca bo [(s_here, .str ⟨#[]⟩ (O.tok 3)), (s_place, .int ((↑(bisN ks x) : Int)) (O.tok 5))])), wS (ca) (lst (cv.eraseIdx (↑(bisN ks x) : Int).toNat) (ec + 1)), wS (bo) (lst (bv ++ [Value.str sy ty]) (e2 + 1))]) := by cases b2 <;> exact sg5 (by kernel_rfl)
noncomputable def led_x_h : List Hint := [.top, .top, .slot 9, .sum (hLen 11), .slot 9, .sum (hILt false), .top, .top, .slot 9, .sum (hLen 10), .sum (hIGt false)]
theorem led_x (O : Orc) (X : LX) (ln : Int) (tl : Nat) (pb : List Value) (eb : Nat) (sg : List Value) (es : Nat) (L ca bo : Nat) (κ : Nat → Int) (τ : Nat → Nat) (sz : Int) (tz : Nat) (cv bv : List Value) (ec e2 : Nat) (vh vp : Value) : Seg (run (eE prog P b1 b2 O) 31 (led_x_h) (.root (denoteZ (ledCode P L))) ⟨lexS X ln tl pb eb sg es ++ [wS L (frm κ τ (fLedS0 X sz tz ca bo vh vp [])), wS ca (lst cv ec), wS bo (lst bv e2)], 0, 0, 0⟩)
    [bv.length < 1000000, decide ((↑bv.length : Int) < sz) = false, cv.length < 1000000, decide ((0 : Int) < (↑cv.length : Int)) = false] (.pure (.done .next)) (lexS X ln tl pb eb sg es ++ [wS (L) (frm κ τ (fLedS1 X sz tz ca bo [(s_here, vh), (s_place, vp)])), wS (ca) (lst (cv) (ec)), wS (bo) (lst (bv) (e2))]) := by cases b2 <;> exact sg5 (by kernel_rfl)
end
section
variable (prog : Program) (d : Source → Nat → Nat) (P : Params) (b1 b2 : Bool) {T : Tops} (hT : ∀ a o, (topT P).get a = some o → T a o) {lv : Nat}
include hT
theorem led_f0_ok (hl : 5 ≤ lv) (x : Nat) (ks ks' : List Nat) (sy : Str) (ty : Nat) : HsOk prog (wd d P b1 b2) T lv (led_f0_h x ks ks' sy ty) := ⟨(hLen_ok _).mono _ _ _ (lw hl), (hILt_ok hT _).mono _ _ _ (lw hl), (hTokP_ok prog d P b1 b2 hT _).mono _ _ _ (lw hl), (hBis_ok prog d P b1 b2 hT _ _ _).mono _ _ _ (lw hl), (hLen_ok _).mono _ _ _ (lw hl), (hILt_ok hT _).mono _ _ _ (lw hl), (hLApp_ok _).mono _ _ _ (lw hl), (hSNe_ok hT _).mono _ _ _ (lw hl), trivial⟩
theorem led_f1_ok (hl : 5 ≤ lv) (x : Nat) (ks ks' : List Nat) (sy : Str) (ty : Nat) : HsOk prog (wd d P b1 b2) T lv (led_f1_h x ks ks' sy ty) := ⟨(hLen_ok _).mono _ _ _ (lw hl), (hILt_ok hT _).mono _ _ _ (lw hl), (hTokP_ok prog d P b1 b2 hT _).mono _ _ _ (lw hl), (hBis_ok prog d P b1 b2 hT _ _ _).mono _ _ _ (lw hl), (hLen_ok _).mono _ _ _ (lw hl), (hILt_ok hT _).mono _ _ _ (lw hl), (hLApp_ok _).mono _ _ _ (lw hl), (hSNe_ok hT _).mono _ _ _ (lw hl), (hIns_ok prog d P b1 b2 hT _ _ _).mono _ _ _ (lw hl), trivial⟩
theorem led_AP00_ok (hl : 5 ≤ lv) (x : Nat) (ks ks' : List Nat) (sy : Str) (ty : Nat) : HsOk prog (wd d P b1 b2) T lv (led_AP00_h x ks ks' sy ty) := ⟨(hLen_ok _).mono _ _ _ (lw hl), (hILt_ok hT _).mono _ _ _ (lw hl), (hTokP_ok prog d P b1 b2 hT _).mono _ _ _ (lw hl), (hBis_ok prog d P b1 b2 hT _ _ _).mono _ _ _ (lw hl), (hLen_ok _).mono _ _ _ (lw hl), (hILt_ok hT _).mono _ _ _ (lw hl), (hLApp_ok _).mono _ _ _ (lw hl), (hSNe_ok hT _).mono _ _ _ (lw hl), trivial⟩
theorem led_AP01_ok (hl : 5 ≤ lv) (x : Nat) (ks ks' : List Nat) (sy : Str) (ty : Nat) : HsOk prog (wd d P b1 b2) T lv (led_AP01_h x ks ks' sy ty) := ⟨(hLen_ok _).mono _ _ _ (lw hl), (hILt_ok hT _).mono _ _ _ (lw hl), (hTokP_ok prog d P b1 b2 hT _).mono _ _ _ (lw hl), (hBis_ok prog d P b1 b2 hT _ _ _).mono _ _ _ (lw hl), (hLen_ok _).mono _ _ _ (lw hl), (hILt_ok hT _).mono _ _ _ (lw hl), (hLApp_ok _).mono _ _ _ (lw hl), (hSNe_ok hT _).mono _ _ _ (lw hl), (hIns_ok prog d P b1 b2 hT _ _ _).mono _ _ _ (lw hl), trivial⟩
theorem led_AE0_ok (hl : 5 ≤ lv) (x : Nat) (ks ks' : List Nat) (sy : Str) (ty : Nat) : HsOk prog (wd d P b1 b2) T lv (led_AE0_h x ks ks' sy ty) := ⟨(hLen_ok _).mono _ _ _ (lw hl), (hILt_ok hT _).mono _ _ _ (lw hl), (hTokE_ok prog d P b1 b2 hT _).mono _ _ _ (lw hl), (hBis_ok prog d P b1 b2 hT _ _ _).mono _ _ _ (lw hl), (hLen_ok _).mono _ _ _ (lw hl), (hILt_ok hT _).mono _ _ _ (lw hl), (hLApp_ok _).mono _ _ _ (lw hl), (hSNe_ok hT _).mono _ _ _ (lw hl), trivial⟩
theorem led_AP10_ok (hl : 5 ≤ lv) (x : Nat) (ks ks' : List Nat) (sy : Str) (ty : Nat) : HsOk prog (wd d P b1 b2) T lv (led_AP10_h x ks ks' sy ty) := ⟨(hLen_ok _).mono _ _ _ (lw hl), (hILt_ok hT _).mono _ _ _ (lw hl), (hTokP_ok prog d P b1 b2 hT _).mono _ _ _ (lw hl), (hBis_ok prog d P b1 b2 hT _ _ _).mono _ _ _ (lw hl), (hLen_ok _).mono _ _ _ (lw hl), (hILt_ok hT _).mono _ _ _ (lw hl), (hLPopAt_ok _ _).mono _ _ _ (lw hl), (hLApp_ok _).mono _ _ _ (lw hl), (hSNe_ok hT _).mono _ _ _ (lw hl), trivial⟩
theorem led_AP11_ok (hl : 5 ≤ lv) (x : Nat) (ks ks' : List Nat) (sy : Str) (ty : Nat) : HsOk prog (wd d P b1 b2) T lv (led_AP11_h x ks ks' sy ty) := ⟨(hLen_ok _).mono _ _ _ (lw hl), (hILt_ok hT _).mono _ _ _ (lw hl), (hTokP_ok prog d P b1 b2 hT _).mono _ _ _ (lw hl), (hBis_ok prog d P b1 b2 hT _ _ _).mono _ _ _ (lw hl), (hLen_ok _).mono _ _ _ (lw hl), (hILt_ok hT _).mono _ _ _ (lw hl), (hLPopAt_ok _ _).mono _ _ _ (lw hl), (hLApp_ok _).mono _ _ _ (lw hl), (hSNe_ok hT _).mono _ _ _ (lw hl), (hIns_ok prog d P b1 b2 hT _ _ _).mono _ _ _ (lw hl), trivial⟩
theorem led_AE1_ok (hl : 5 ≤ lv) (x : Nat) (ks ks' : List Nat) (sy : Str) (ty : Nat) : HsOk prog (wd d P b1 b2) T lv (led_AE1_h x ks ks' sy ty) := ⟨(hLen_ok _).mono _ _ _ (lw hl), (hILt_ok hT _).mono _ _ _ (lw hl), (hTokE_ok prog d P b1 b2 hT _).mono _ _ _ (lw hl), (hBis_ok prog d P b1 b2 hT _ _ _).mono _ _ _ (lw hl), (hLen_ok _).mono _ _ _ (lw hl), (hILt_ok hT _).mono _ _ _ (lw hl), (hLPopAt_ok _ _).mono _ _ _ (lw hl), (hLApp_ok _).mono _ _ _ (lw hl), (hSNe_ok hT _).mono _ _ _ (lw hl), trivial⟩
theorem led_BP00_ok (hl : 5 ≤ lv) (x : Nat) (ks ks' : List Nat) (sy : Str) (ty : Nat) : HsOk prog (wd d P b1 b2) T lv (led_BP00_h x ks ks' sy ty) := ⟨(hLen_ok _).mono _ _ _ (lw hl), (hILt_ok hT _).mono _ _ _ (lw hl), (hLen_ok _).mono _ _ _ (lw hl), (hIGt_ok hT _).mono _ _ _ (lw hl), (hTokP_ok prog d P b1 b2 hT _).mono _ _ _ (lw hl), (hBis_ok prog d P b1 b2 hT _ _ _).mono _ _ _ (lw hl), (hLen_ok _).mono _ _ _ (lw hl), (hILt_ok hT _).mono _ _ _ (lw hl), (hLApp_ok _).mono _ _ _ (lw hl), (hSNe_ok hT _).mono _ _ _ (lw hl), trivial⟩
theorem led_BP01_ok (hl : 5 ≤ lv) (x : Nat) (ks ks' : List Nat) (sy : Str) (ty : Nat) : HsOk prog (wd d P b1 b2) T lv (led_BP01_h x ks ks' sy ty) := ⟨(hLen_ok _).mono _ _ _ (lw hl), (hILt_ok hT _).mono _ _ _ (lw hl), (hLen_ok _).mono _ _ _ (lw hl), (hIGt_ok hT _).mono _ _ _ (lw hl), (hTokP_ok prog d P b1 b2 hT _).mono _ _ _ (lw hl), (hBis_ok prog d P b1 b2 hT _ _ _).mono _ _ _ (lw hl), (hLen_ok _).mono _ _ _ (lw hl), (hILt_ok hT _).mono _ _ _ (lw hl), (hLApp_ok _).mono _ _ _ (lw hl), (hSNe_ok hT _).mono _ _ _ (lw hl), (hIns_ok prog d P b1 b2 hT _ _ _).mono _ _ _ (lw hl), trivial⟩
theorem led_BE0_ok (hl : 5 ≤ lv) (x : Nat) (ks ks' : List Nat) (sy : Str) (ty : Nat) : HsOk prog (wd d P b1 b2) T lv (led_BE0_h x ks ks' sy ty) := ⟨(hLen_ok _).mono _ _ _ (lw hl), (hILt_ok hT _).mono _ _ _ (lw hl), (hLen_ok _).mono _ _ _ (lw hl), (hIGt_ok hT _).mono _ _ _ (lw hl), (hTokE_ok prog d P b1 b2 hT _).mono _ _ _ (lw hl), (hBis_ok prog d P b1 b2 hT _ _ _).mono _ _ _ (lw hl), (hLen_ok _).mono _ _ _ (lw hl), (hILt_ok hT _).mono _ _ _ (lw hl), (hLApp_ok _).mono _ _ _ (lw hl), (hSNe_ok hT _).mono _ _ _ (lw hl), trivial⟩
theorem led_BP10_ok (hl : 5 ≤ lv) (x : Nat) (ks ks' : List Nat) (sy : Str) (ty : Nat) : HsOk prog (wd d P b1 b2) T lv (led_BP10_h x ks ks' sy ty) := ⟨(hLen_ok _).mono _ _ _ (lw hl), (hILt_ok hT _).mono _ _ _ (lw hl), (hLen_ok _).mono _ _ _ (lw hl), (hIGt_ok hT _).mono _ _ _ (lw hl), (hTokP_ok prog d P b1 b2 hT _).mono _ _ _ (lw hl), (hBis_ok prog d P b1 b2 hT _ _ _).mono _ _ _ (lw hl), (hLen_ok _).mono _ _ _ (lw hl), (hILt_ok hT _).mono _ _ _ (lw hl), (hLPopAt_ok _ _).mono _ _ _ (lw hl), (hLApp_ok _).mono _ _ _ (lw hl), (hSNe_ok hT _).mono _ _ _ (lw hl), trivial⟩
theorem led_BP11_ok (hl : 5 ≤ lv) (x : Nat) (ks ks' : List Nat) (sy : Str) (ty : Nat) : HsOk prog (wd d P b1 b2) T lv (led_BP11_h x ks ks' sy ty) := ⟨(hLen_ok _).mono _ _ _ (lw hl), (hILt_ok hT _).mono _ _ _ (lw hl), (hLen_ok _).mono _ _ _ (lw hl), (hIGt_ok hT _).mono _ _ _ (lw hl), (hTokP_ok prog d P b1 b2 hT _).mono _ _ _ (lw hl), (hBis_ok prog d P b1 b2 hT _ _ _).mono _ _ _ (lw hl), (hLen_ok _).mono _ _ _ (lw hl), (hILt_ok hT _).mono _ _ _ (lw hl), (hLPopAt_ok _ _).mono _ _ _ (lw hl), (hLApp_ok _).mono _ _ _ (lw hl), (hSNe_ok hT _).mono _ _ _ (lw hl), (hIns_ok prog d P b1 b2 hT _ _ _).mono _ _ _ (lw hl), trivial⟩
theorem led_BE1_ok (hl : 5 ≤ lv) (x : Nat) (ks ks' : List Nat) (sy : Str) (ty : Nat) : HsOk prog (wd d P b1 b2) T lv (led_BE1_h x ks ks' sy ty) := ⟨(hLen_ok _).mono _ _ _ (lw hl), (hILt_ok hT _).mono _ _ _ (lw hl), (hLen_ok _).mono _ _ _ (lw hl), (hIGt_ok hT _).mono _ _ _ (lw hl), (hTokE_ok prog d P b1 b2 hT _).mono _ _ _ (lw hl), (hBis_ok prog d P b1 b2 hT _ _ _).mono _ _ _ (lw hl), (hLen_ok _).mono _ _ _ (lw hl), (hILt_ok hT _).mono _ _ _ (lw hl), (hLPopAt_ok _ _).mono _ _ _ (lw hl), (hLApp_ok _).mono _ _ _ (lw hl), (hSNe_ok hT _).mono _ _ _ (lw hl), trivial⟩
theorem led_x_ok (hl : 5 ≤ lv) : HsOk prog (wd d P b1 b2) T lv (led_x_h) := ⟨(hLen_ok _).mono _ _ _ (lw hl), (hILt_ok hT _).mono _ _ _ (lw hl), (hLen_ok _).mono _ _ _ (lw hl), (hIGt_ok hT _).mono _ _ _ (lw hl), trivial⟩
end
/-- a ball taken up -/
noncomputable def insN (ks : List Nat) (x : Nat) : List Nat := ks.take (bisN ks x) ++ x :: ks.drop (bisN ks x)
noncomputable def ledY (car : List Nat) (here : Nat) : Nat := if bisN car here < car.length then car.getD (bisN car here) 0 else 0
noncomputable def ledC (car : List Nat) (here : Nat) : List Nat := if bisN car here < car.length then car.eraseIdx (bisN car here) else car
noncomputable def ledN (car : List Nat) (here : Nat) : List Nat := if here = 0 then ledC car here else insN (ledC car here) here
noncomputable def ledGo : Nat → List Nat → Nat → List Nat → List Nat → Option (List Nat × List Nat)
  | 0, _, _, _, _ => none
  | n + 1, pb, sz, car, bx => if bx.length < sz ∨ 0 < car.length then ledGo n pb.tail sz (ledN car (pb.headD 0)) (bx ++ [ledY car (pb.headD 0)]) else some (bx, pb)
noncomputable def ledBase (X : LX) (sz : Int) (tz ca bo : Nat) (r : List (Str × Value)) : List (Str × Value) :=
  (s_line, .ref X.I) :: (s_size, .int sz tz) :: (s_carrier, .ref ca) :: (s_boxes, .ref bo) :: r
noncomputable def ledH (X : LX) (ln : Int) (tl : Nat) (pb : List Value) (eb es L ca bo : Nat) (fo : Obj) (cv bv : List Value) (ec e2 : Nat) : List Slot :=
  lexS X ln tl pb eb [] es ++ [⟨true, L, fo⟩, ⟨true, ca, lst cv ec⟩, ⟨true, bo, lst bv e2⟩]
noncomputable def hpE (vh vp : Value) : List (Str × Value) := [(s_here, vh), (s_place, vp)]
noncomputable def ledΦ (X : LX) (ln : Int) (tl es L ca bo : Nat) (sz : Int) (tz : Nat) (bx pb : List Nat) : Result → List Slot → Prop := fun r H' =>
  r = .ok .next ∧ ∃ pbv eb κ τ vh vp cv ec bv e2, Bx pbv pb ∧ Bx bv bx ∧ H' = ledH X ln tl pbv eb es L ca bo (frm κ τ (ledBase X sz tz ca bo (hpE vh vp))) cv bv ec e2
theorem Bx.ins {vs : List Value} {ks : List Nat} (h : Bx vs ks) {x : Nat} (hx : x < 5) (t : Nat) : Bx (vs.take (bisN ks x) ++ .str (B x) t :: vs.drop (bisN ks x)) (insN ks x) := (h.take _).append (.cons hx t (h.drop _))
theorem B_ne0 {k : Nat} (hk : k < 5) : (!(B k).cps.toList == (⟨#[]⟩ : Str).cps.toList) = decide (k ≠ 0) := by
  have := B_eq hk (j := 0) (by lia)
  rw [show (⟨#[]⟩ : Str) = B 0 from rfl, this]
  by_cases h : k = 0 <;> simp [h]
theorem ledC_len (car : List Nat) (x : Nat) : (ledC car x).length ≤ car.length := by
  unfold ledC; split
  · rw [List.length_eraseIdx]; split <;> lia
  · exact Nat.le_refl _
theorem ledN_len (car : List Nat) (x : Nat) : (ledN car x).length ≤ car.length + 1 := by
  have := ledC_len car x
  unfold ledN; split
  · lia
  · unfold insN; simp; lia
theorem dltT {a b : Nat} (h : a < b) : decide ((a : Int) < (b : Int)) = true := decide_eq_true (Int.ofNat_lt.mpr h)
theorem dltF {a b : Nat} (h : ¬ a < b) : decide ((a : Int) < (b : Int)) = false := decide_eq_false fun x => h (Int.ofNat_lt.mp x)
theorem ledY_lt {car : List Nat} {k : Nat} (h : bisN car k < car.length) : ledY car k = car[bisN car k] := by
  unfold ledY; rw [if_pos h, List.getD_eq_getElem?_getD, List.getElem?_eq_getElem h]; rfl
theorem ledY_ge {car : List Nat} {k : Nat} (h : ¬ bisN car k < car.length) : ledY car k = 0 := if_neg h
theorem ledC_lt {car : List Nat} {k : Nat} (h : bisN car k < car.length) : ledC car k = car.eraseIdx (bisN car k) := if_pos h
theorem ledC_ge {car : List Nat} {k : Nat} (h : ¬ bisN car k < car.length) : ledC car k = car := if_neg h
theorem ledN_z {car c : List Nat} {k : Nat} (h : k = 0) (e : ledC car k = c) : ledN car k = c := (if_pos h).trans e
theorem ledN_s {car c : List Nat} {k : Nat} (h : ¬ k = 0) (e : ledC car k = c) : ledN car k = insN c k := (if_neg h).trans (by rw [e])
theorem B_neT {k : Nat} (hk : k < 5) (h : ¬ k = 0) : (!(B k).cps.toList == (⟨#[]⟩ : Str).cps.toList) = true := by rw [B_ne0 hk]; exact decide_eq_true h
theorem B_neF {k : Nat} (hk : k < 5) (h : k = 0) : (!(B k).cps.toList == (⟨#[]⟩ : Str).cps.toList) = false := by rw [B_ne0 hk, h]; rfl
section
variable (prog : Program) (d : Source → Nat → Nat) (P : Params) (b1 b2 : Bool) {T : Tops} (hT : ∀ a o, (topT P).get a = some o → T a o)
include hT
theorem led_loop {X : LX} (hX : X.ok) {ln : Int} {tl es L ca bo : Nat} {szn : Nat} {tz : Nat} {bx' pb' : List Nat} :
    ∀ (n : Nat) (pb car bx : List Nat) (pbv cv bv : List Value) (eb ec e2 : Nat) (κ : Nat → Int) (τ : Nat → Nat) (vh vp : Value), Bx pbv pb → Bx cv car → Bx bv bx → pb.length < 2000 → car.length + n < 2000 → bx.length + n < 2000 →
    ledGo n pb szn car bx = some (bx', pb') →
    Tri prog (wd d P b1 b2) 6 T (ledCode P L) (ledH X ln tl pbv eb es L ca bo (frm κ τ (ledBase X szn tz ca bo (hpE vh vp))) cv bv ec e2) (ledΦ X ln tl es L ca bo szn tz bx' pb')
  | 0, _, _, _, _, _, _, _, _, _, _, _, _, _, _, _, _, _, _, _, h => by cases h
  | n + 1, pb, car, bx, pbv, cv, bv, eb, ec, e2, κ, τ, vh, vp, hpb, hcv, hbv, b1', b2', b3', h => by
    unfold ledGo at h
    have lpb := hpb.length
    have lcv := hcv.length
    have lbv := hbv.length
    have l1 : bv.length < 1000000 := by lia
    have l2 : cv.length < 1000000 := by lia
    have l4 : cv.length < 100000 := by lia
    split at h
    · rename_i ht
      cases hpb with
      | nil =>
        have hk : (0 : Nat) < 5 := by lia
        simp only [List.headD_nil, List.tail_nil] at h
        by_cases hs : bx.length < szn
        · have t1 : decide ((↑bv.length : Int) < (szn : Int)) = true := dltT (by rw [lbv]; exact hs)
          by_cases hlt : bisN car 0 < car.length
          · have p1 : decide ((↑(bisN car 0) : Int) < (↑cv.length : Int)) = true := dltT (lcv ▸ hlt)
            obtain ⟨hy, ty, gv⟩ := hcv.get (List.getElem?_eq_getElem hlt)
            have ey : ledY car 0 = car[bisN car 0] := ledY_lt hlt
            have eC : ledC car 0 = car.eraseIdx (bisN car 0) := ledC_lt hlt
            generalize car[bisN car 0] = y at hy gv ey
            have hcv1 : Bx (cv.eraseIdx (bisN car 0)) (car.eraseIdx (bisN car 0)) := hcv.eraseIdx _
            have n1 : (!(⟨#[]⟩ : Str).cps.toList == (⟨#[]⟩ : Str).cps.toList) = false := rfl
            have eN : ledN car 0 = (car.eraseIdx (bisN car 0)) := ledN_z rfl eC
            have lN := ledN_len car 0
            rw [ey, eN] at h
            rw [eN] at lN
            refine tri_again hT (lv := 5) rfl (led_AE1_ok prog d P b1 b2 hT (by decide) 0 car (car.eraseIdx (bisN car 0)) (B y) ty) (fun O => led_AE1 prog P b1 b2 O X ln tl [] eb [] es L ca bo κ τ szn tz cv bv ec e2 vh vp 0 car (car.eraseIdx (bisN car 0)) (B y) ty) (fun _ => (k13 l1 t1 hX rfl hcv hk l4 l2 p1 ⟨by lia, l2⟩ gv l1 n1)) (fun _ => rfl) fun O => ?_
            exact led_loop hX n [] _ _ _ _ _ _ _ _ _ _ _ _ .nil hcv1 (hbv.append (.cons hy _ .nil)) (by simp) (by lia) (by simp; lia) h
          · have p1 : decide ((↑(bisN car 0) : Int) < (↑cv.length : Int)) = false := dltF (lcv ▸ hlt)
            have ey : ledY car 0 = 0 := ledY_ge hlt
            have eC : ledC car 0 = car := ledC_ge hlt
            have hcv1 : Bx cv car := hcv
            have n1 : (!(⟨#[]⟩ : Str).cps.toList == (⟨#[]⟩ : Str).cps.toList) = false := rfl
            have eN : ledN car 0 = car := ledN_z rfl eC
            have lN := ledN_len car 0
            rw [ey, eN] at h
            rw [eN] at lN
            refine tri_again hT (lv := 5) rfl (led_AE0_ok prog d P b1 b2 hT (by decide) 0 car car (B 0) 0) (fun O => led_AE0 prog P b1 b2 O X ln tl [] eb [] es L ca bo κ τ szn tz cv bv ec e2 vh vp 0 car car (B 0) 0) (fun _ => (k11 l1 t1 hX rfl hcv hk l4 l2 p1 l1 n1)) (fun _ => rfl) fun O => ?_
            exact led_loop hX n [] _ _ _ _ _ _ _ _ _ _ _ _ .nil hcv1 (hbv.append (Bx.cons (k := 0) (by lia) _ .nil)) (by simp) (by lia) (by simp; lia) h
        · have hc0 : 0 < car.length := by lia
          have t1 : decide ((↑bv.length : Int) < (szn : Int)) = false := dltF (by rw [lbv]; exact hs)
          have t2 : decide ((0 : Int) < (↑cv.length : Int)) = true := decide_eq_true (by lia)
          by_cases hlt : bisN car 0 < car.length
          · have p1 : decide ((↑(bisN car 0) : Int) < (↑cv.length : Int)) = true := dltT (lcv ▸ hlt)
            obtain ⟨hy, ty, gv⟩ := hcv.get (List.getElem?_eq_getElem hlt)
            have ey : ledY car 0 = car[bisN car 0] := ledY_lt hlt
            have eC : ledC car 0 = car.eraseIdx (bisN car 0) := ledC_lt hlt
            generalize car[bisN car 0] = y at hy gv ey
            have hcv1 : Bx (cv.eraseIdx (bisN car 0)) (car.eraseIdx (bisN car 0)) := hcv.eraseIdx _
            have n1 : (!(⟨#[]⟩ : Str).cps.toList == (⟨#[]⟩ : Str).cps.toList) = false := rfl
            have eN : ledN car 0 = (car.eraseIdx (bisN car 0)) := ledN_z rfl eC
            have lN := ledN_len car 0
            rw [ey, eN] at h
            rw [eN] at lN
            refine tri_again hT (lv := 5) rfl (led_BE1_ok prog d P b1 b2 hT (by decide) 0 car (car.eraseIdx (bisN car 0)) (B y) ty) (fun O => led_BE1 prog P b1 b2 O X ln tl [] eb [] es L ca bo κ τ szn tz cv bv ec e2 vh vp 0 car (car.eraseIdx (bisN car 0)) (B y) ty) (fun _ => (k15 l1 t1 l2 t2 hX rfl hcv hk l4 l2 p1 ⟨by lia, l2⟩ gv l1 n1)) (fun _ => rfl) fun O => ?_
            exact led_loop hX n [] _ _ _ _ _ _ _ _ _ _ _ _ .nil hcv1 (hbv.append (.cons hy _ .nil)) (by simp) (by lia) (by simp; lia) h
          · have p1 : decide ((↑(bisN car 0) : Int) < (↑cv.length : Int)) = false := dltF (lcv ▸ hlt)
            have ey : ledY car 0 = 0 := ledY_ge hlt
            have eC : ledC car 0 = car := ledC_ge hlt
            have hcv1 : Bx cv car := hcv
            have n1 : (!(⟨#[]⟩ : Str).cps.toList == (⟨#[]⟩ : Str).cps.toList) = false := rfl
            have eN : ledN car 0 = car := ledN_z rfl eC
            have lN := ledN_len car 0
            rw [ey, eN] at h
            rw [eN] at lN
            refine tri_again hT (lv := 5) rfl (led_BE0_ok prog d P b1 b2 hT (by decide) 0 car car (B 0) 0) (fun O => led_BE0 prog P b1 b2 O X ln tl [] eb [] es L ca bo κ τ szn tz cv bv ec e2 vh vp 0 car car (B 0) 0) (fun _ => (k13 l1 t1 l2 t2 hX rfl hcv hk l4 l2 p1 l1 n1)) (fun _ => rfl) fun O => ?_
            exact led_loop hX n [] _ _ _ _ _ _ _ _ _ _ _ _ .nil hcv1 (hbv.append (Bx.cons (k := 0) (by lia) _ .nil)) (by simp) (by lia) (by simp; lia) h
      | cons hk t hpb =>
        rename_i k pbv pb
        have b1q := b1'
        have l3 : pbv.length < 90000 := by simp only [List.length_cons] at b1q; have := hpb.length; lia
        simp only [List.headD_cons, List.tail_cons] at h
        by_cases hs : bx.length < szn
        · have t1 : decide ((↑bv.length : Int) < (szn : Int)) = true := dltT (by rw [lbv]; exact hs)
          by_cases hlt : bisN car k < car.length
          · by_cases h0 : k = 0
            · have p1 : decide ((↑(bisN car k) : Int) < (↑cv.length : Int)) = true := dltT (lcv ▸ hlt)
              obtain ⟨hy, ty, gv⟩ := hcv.get (List.getElem?_eq_getElem hlt)
              have ey : ledY car k = car[bisN car k] := ledY_lt hlt
              have eC : ledC car k = car.eraseIdx (bisN car k) := ledC_lt hlt
              generalize car[bisN car k] = y at hy gv ey
              have hcv1 : Bx (cv.eraseIdx (bisN car k)) (car.eraseIdx (bisN car k)) := hcv.eraseIdx _
              have n1 : (!(B k).cps.toList == (⟨#[]⟩ : Str).cps.toList) = false := B_neF hk h0
              have eN : ledN car k = (car.eraseIdx (bisN car k)) := ledN_z h0 eC
              have lN := ledN_len car k
              rw [ey, eN] at h
              rw [eN] at lN
              refine tri_again hT (lv := 5) rfl (led_AP10_ok prog d P b1 b2 hT (by decide) k car (car.eraseIdx (bisN car k)) (B y) ty) (fun O => led_AP10 prog P b1 b2 O X ln tl pbv eb [] es L ca bo κ τ szn tz cv bv ec e2 vh vp (B k) t k car (car.eraseIdx (bisN car k)) (B y) ty) (fun _ => (k14 l1 t1 hX l3 rfl hcv hk l4 l2 p1 ⟨by lia, l2⟩ gv l1 n1)) (fun _ => rfl) fun O => ?_
              exact led_loop hX n pb _ _ _ _ _ _ _ _ _ _ _ _ hpb hcv1 (hbv.append (.cons hy _ .nil)) (by simp only [List.length_cons] at b1q; lia) (by lia) (by simp; lia) h
            · have p1 : decide ((↑(bisN car k) : Int) < (↑cv.length : Int)) = true := dltT (lcv ▸ hlt)
              obtain ⟨hy, ty, gv⟩ := hcv.get (List.getElem?_eq_getElem hlt)
              have ey : ledY car k = car[bisN car k] := ledY_lt hlt
              have eC : ledC car k = car.eraseIdx (bisN car k) := ledC_lt hlt
              generalize car[bisN car k] = y at hy gv ey
              have hcv1 : Bx (cv.eraseIdx (bisN car k)) (car.eraseIdx (bisN car k)) := hcv.eraseIdx _
              have n1 : (!(B k).cps.toList == (⟨#[]⟩ : Str).cps.toList) = true := B_neT hk h0
              have l5 : (cv.eraseIdx (bisN car k)).length < 100000 := by have := hcv1.length; have := ledC_len car k; rw [eC] at this; lia
              have eN : ledN car k = insN (car.eraseIdx (bisN car k)) k := ledN_s h0 eC
              have lN := ledN_len car k
              rw [ey, eN] at h
              rw [eN] at lN
              refine tri_again hT (lv := 5) rfl (led_AP11_ok prog d P b1 b2 hT (by decide) k car (car.eraseIdx (bisN car k)) (B y) ty) (fun O => led_AP11 prog P b1 b2 O X ln tl pbv eb [] es L ca bo κ τ szn tz cv bv ec e2 vh vp (B k) t k car (car.eraseIdx (bisN car k)) (B y) ty) (fun _ => (k18 l1 t1 hX l3 rfl hcv hk l4 l2 p1 ⟨by lia, l2⟩ gv l1 n1 rfl hcv1 hk l5)) (fun _ => rfl) fun O => ?_
              exact led_loop hX n pb _ _ _ _ _ _ _ _ _ _ _ _ hpb (hcv1.ins hk t) (hbv.append (.cons hy _ .nil)) (by simp only [List.length_cons] at b1q; lia) (by lia) (by simp; lia) h
          · by_cases h0 : k = 0
            · have p1 : decide ((↑(bisN car k) : Int) < (↑cv.length : Int)) = false := dltF (lcv ▸ hlt)
              have ey : ledY car k = 0 := ledY_ge hlt
              have eC : ledC car k = car := ledC_ge hlt
              have hcv1 : Bx cv car := hcv
              have n1 : (!(B k).cps.toList == (⟨#[]⟩ : Str).cps.toList) = false := B_neF hk h0
              have eN : ledN car k = car := ledN_z h0 eC
              have lN := ledN_len car k
              rw [ey, eN] at h
              rw [eN] at lN
              refine tri_again hT (lv := 5) rfl (led_AP00_ok prog d P b1 b2 hT (by decide) k car car (B 0) 0) (fun O => led_AP00 prog P b1 b2 O X ln tl pbv eb [] es L ca bo κ τ szn tz cv bv ec e2 vh vp (B k) t k car car (B 0) 0) (fun _ => (k12 l1 t1 hX l3 rfl hcv hk l4 l2 p1 l1 n1)) (fun _ => rfl) fun O => ?_
              exact led_loop hX n pb _ _ _ _ _ _ _ _ _ _ _ _ hpb hcv1 (hbv.append (Bx.cons (k := 0) (by lia) _ .nil)) (by simp only [List.length_cons] at b1q; lia) (by lia) (by simp; lia) h
            · have p1 : decide ((↑(bisN car k) : Int) < (↑cv.length : Int)) = false := dltF (lcv ▸ hlt)
              have ey : ledY car k = 0 := ledY_ge hlt
              have eC : ledC car k = car := ledC_ge hlt
              have hcv1 : Bx cv car := hcv
              have n1 : (!(B k).cps.toList == (⟨#[]⟩ : Str).cps.toList) = true := B_neT hk h0
              have l5 : cv.length < 100000 := by have := hcv1.length; have := ledC_len car k; rw [eC] at this; lia
              have eN : ledN car k = insN car k := ledN_s h0 eC
              have lN := ledN_len car k
              rw [ey, eN] at h
              rw [eN] at lN
              refine tri_again hT (lv := 5) rfl (led_AP01_ok prog d P b1 b2 hT (by decide) k car car (B 0) 0) (fun O => led_AP01 prog P b1 b2 O X ln tl pbv eb [] es L ca bo κ τ szn tz cv bv ec e2 vh vp (B k) t k car car (B 0) 0) (fun _ => (k16 l1 t1 hX l3 rfl hcv hk l4 l2 p1 l1 n1 rfl hcv1 hk l5)) (fun _ => rfl) fun O => ?_
              exact led_loop hX n pb _ _ _ _ _ _ _ _ _ _ _ _ hpb (hcv1.ins hk t) (hbv.append (Bx.cons (k := 0) (by lia) _ .nil)) (by simp only [List.length_cons] at b1q; lia) (by lia) (by simp; lia) h
        · have hc0 : 0 < car.length := by lia
          have t1 : decide ((↑bv.length : Int) < (szn : Int)) = false := dltF (by rw [lbv]; exact hs)
          have t2 : decide ((0 : Int) < (↑cv.length : Int)) = true := decide_eq_true (by lia)
          by_cases hlt : bisN car k < car.length
          · by_cases h0 : k = 0
            · have p1 : decide ((↑(bisN car k) : Int) < (↑cv.length : Int)) = true := dltT (lcv ▸ hlt)
              obtain ⟨hy, ty, gv⟩ := hcv.get (List.getElem?_eq_getElem hlt)
              have ey : ledY car k = car[bisN car k] := ledY_lt hlt
              have eC : ledC car k = car.eraseIdx (bisN car k) := ledC_lt hlt
              generalize car[bisN car k] = y at hy gv ey
              have hcv1 : Bx (cv.eraseIdx (bisN car k)) (car.eraseIdx (bisN car k)) := hcv.eraseIdx _
              have n1 : (!(B k).cps.toList == (⟨#[]⟩ : Str).cps.toList) = false := B_neF hk h0
              have eN : ledN car k = (car.eraseIdx (bisN car k)) := ledN_z h0 eC
              have lN := ledN_len car k
              rw [ey, eN] at h
              rw [eN] at lN
              refine tri_again hT (lv := 5) rfl (led_BP10_ok prog d P b1 b2 hT (by decide) k car (car.eraseIdx (bisN car k)) (B y) ty) (fun O => led_BP10 prog P b1 b2 O X ln tl pbv eb [] es L ca bo κ τ szn tz cv bv ec e2 vh vp (B k) t k car (car.eraseIdx (bisN car k)) (B y) ty) (fun _ => (k16 l1 t1 l2 t2 hX l3 rfl hcv hk l4 l2 p1 ⟨by lia, l2⟩ gv l1 n1)) (fun _ => rfl) fun O => ?_
              exact led_loop hX n pb _ _ _ _ _ _ _ _ _ _ _ _ hpb hcv1 (hbv.append (.cons hy _ .nil)) (by simp only [List.length_cons] at b1q; lia) (by lia) (by simp; lia) h
            · have p1 : decide ((↑(bisN car k) : Int) < (↑cv.length : Int)) = true := dltT (lcv ▸ hlt)
              obtain ⟨hy, ty, gv⟩ := hcv.get (List.getElem?_eq_getElem hlt)
              have ey : ledY car k = car[bisN car k] := ledY_lt hlt
              have eC : ledC car k = car.eraseIdx (bisN car k) := ledC_lt hlt
              generalize car[bisN car k] = y at hy gv ey
              have hcv1 : Bx (cv.eraseIdx (bisN car k)) (car.eraseIdx (bisN car k)) := hcv.eraseIdx _
              have n1 : (!(B k).cps.toList == (⟨#[]⟩ : Str).cps.toList) = true := B_neT hk h0
              have l5 : (cv.eraseIdx (bisN car k)).length < 100000 := by have := hcv1.length; have := ledC_len car k; rw [eC] at this; lia
              have eN : ledN car k = insN (car.eraseIdx (bisN car k)) k := ledN_s h0 eC
              have lN := ledN_len car k
              rw [ey, eN] at h
              rw [eN] at lN
              refine tri_again hT (lv := 5) rfl (led_BP11_ok prog d P b1 b2 hT (by decide) k car (car.eraseIdx (bisN car k)) (B y) ty) (fun O => led_BP11 prog P b1 b2 O X ln tl pbv eb [] es L ca bo κ τ szn tz cv bv ec e2 vh vp (B k) t k car (car.eraseIdx (bisN car k)) (B y) ty) (fun _ => (k20 l1 t1 l2 t2 hX l3 rfl hcv hk l4 l2 p1 ⟨by lia, l2⟩ gv l1 n1 rfl hcv1 hk l5)) (fun _ => rfl) fun O => ?_
              exact led_loop hX n pb _ _ _ _ _ _ _ _ _ _ _ _ hpb (hcv1.ins hk t) (hbv.append (.cons hy _ .nil)) (by simp only [List.length_cons] at b1q; lia) (by lia) (by simp; lia) h
          · by_cases h0 : k = 0
            · have p1 : decide ((↑(bisN car k) : Int) < (↑cv.length : Int)) = false := dltF (lcv ▸ hlt)
              have ey : ledY car k = 0 := ledY_ge hlt
              have eC : ledC car k = car := ledC_ge hlt
              have hcv1 : Bx cv car := hcv
              have n1 : (!(B k).cps.toList == (⟨#[]⟩ : Str).cps.toList) = false := B_neF hk h0
              have eN : ledN car k = car := ledN_z h0 eC
              have lN := ledN_len car k
              rw [ey, eN] at h
              rw [eN] at lN
              refine tri_again hT (lv := 5) rfl (led_BP00_ok prog d P b1 b2 hT (by decide) k car car (B 0) 0) (fun O => led_BP00 prog P b1 b2 O X ln tl pbv eb [] es L ca bo κ τ szn tz cv bv ec e2 vh vp (B k) t k car car (B 0) 0) (fun _ => (k14 l1 t1 l2 t2 hX l3 rfl hcv hk l4 l2 p1 l1 n1)) (fun _ => rfl) fun O => ?_
              exact led_loop hX n pb _ _ _ _ _ _ _ _ _ _ _ _ hpb hcv1 (hbv.append (Bx.cons (k := 0) (by lia) _ .nil)) (by simp only [List.length_cons] at b1q; lia) (by lia) (by simp; lia) h
            · have p1 : decide ((↑(bisN car k) : Int) < (↑cv.length : Int)) = false := dltF (lcv ▸ hlt)
              have ey : ledY car k = 0 := ledY_ge hlt
              have eC : ledC car k = car := ledC_ge hlt
              have hcv1 : Bx cv car := hcv
              have n1 : (!(B k).cps.toList == (⟨#[]⟩ : Str).cps.toList) = true := B_neT hk h0
              have l5 : cv.length < 100000 := by have := hcv1.length; have := ledC_len car k; rw [eC] at this; lia
              have eN : ledN car k = insN car k := ledN_s h0 eC
              have lN := ledN_len car k
              rw [ey, eN] at h
              rw [eN] at lN
              refine tri_again hT (lv := 5) rfl (led_BP01_ok prog d P b1 b2 hT (by decide) k car car (B 0) 0) (fun O => led_BP01 prog P b1 b2 O X ln tl pbv eb [] es L ca bo κ τ szn tz cv bv ec e2 vh vp (B k) t k car car (B 0) 0) (fun _ => (k18 l1 t1 l2 t2 hX l3 rfl hcv hk l4 l2 p1 l1 n1 rfl hcv1 hk l5)) (fun _ => rfl) fun O => ?_
              exact led_loop hX n pb _ _ _ _ _ _ _ _ _ _ _ _ hpb (hcv1.ins hk t) (hbv.append (Bx.cons (k := 0) (by lia) _ .nil)) (by simp only [List.length_cons] at b1q; lia) (by lia) (by simp; lia) h
    · rename_i hn
      cases h
      have t1 : decide ((↑bv.length : Int) < (szn : Int)) = false := decide_eq_false (by lia)
      have t2 : decide ((0 : Int) < (↑cv.length : Int)) = false := decide_eq_false (by lia)
      exact tri_done hT (lv := 5) rfl (led_x_ok prog d P b1 b2 hT (by decide)) (fun O => led_x prog P b1 b2 O X ln tl pbv eb [] es L ca bo κ τ szn tz cv bv ec e2 vh vp) (fun _ => k4 l1 t1 l2 t2) fun O => ⟨rfl, pbv, eb, κ, τ, vh, vp, cv, ec, bv, e2, hpb, hbv, rfl⟩
end
noncomputable def itL (l i : Nat) : Obj := ⟨.type "list_iterator", none, .fields ⟨[.ref l, .int (Int.ofNat i) 0]⟩, #[]⟩
noncomputable def itLx (i : Nat) : Obj := ⟨.type "list_iterator", none, .fields ⟨[.none, .int (Int.ofNat i) 0]⟩, #[]⟩
noncomputable def is_lit (id : String) : Bool := S.eqLit 36058839055461744822429329989390181918337346850548333 id
theorem is_lit_eq {id : String} (h : is_lit id = true) : id = "list_iterator.__next__" := eqLit_iff (by kernel_rfl) h
noncomputable def itIdx (o : Obj) : Nat := match o.data with | .fields ⟨[_, .int i _]⟩ => i.toNat | _ => 0
noncomputable def hLNextO (j : Nat) (v : Value) (H : List Slot) (a : Nat) (l : Nat) (vs : List Value) (a' : Nat) (o : Obj) : HOut := ⟨[(a, a')], [], [([⟨true, a', o⟩], [⟨true, a', itL l (itIdx o)⟩])], [vs[itIdx o]? = some v], 0, 0, 0, fun _ _ _ => .ok (.ret v), fun _ _ _ => setSlot H j (itL l (itIdx o + 1))⟩
noncomputable def hLNext (j jl : Nat) (v : Value) : Handler := fun c H => bR is_lit c (fun a => onLa H jl fun l vs _ => onSl H j fun a' o => some (hLNextO j v H a l vs a' o))
noncomputable def hLStopO (j : Nat) (H : List Slot) (a : Nat) (l : Nat) (vs : List Value) (a' : Nat) (o : Obj) : HOut := ⟨[(a, a')], [], [([⟨true, a', o⟩], [⟨true, a', itL l (itIdx o)⟩])], [vs[itIdx o]? = none], 2, 0, 0, fun as _ _ => .error (.ref (as.getD 1 0)), fun as _ _ => addSlot (addSlot (setSlot H j (itLx (itIdx o))) ⟨true, as.getD 0 0, tup0⟩) ⟨true, as.getD 1 0, stopObj (as.getD 0 0)⟩⟩
noncomputable def hLStop (j jl : Nat) : Handler := fun c H => bR is_lit c (fun a => onLa H jl fun l vs _ => onSl H j fun a' o => some (hLStopO j H a l vs a' o))
section
variable (prog : Program) (w : World) {T : Tops}
theorem lit_calls {A : Around} {s : Shared} {it l i : Nat} {vs : List Value} {ep : Nat} {Q : Value → Shared → Prop} {E : Value → Shared → Prop} (ho : s.heap.get? it = some (itL l i)) (hl : s.heap.get? l = some (lst vs ep)) {v : Value} (hx : vs[i]? = some v)
    (hQ : Q v { s with heap := s.heap.update it (fun o => o.mapFields (·.setIfInBounds 1 (.int (Int.ofNat (i + 1)) 0))) }) : wpAny (model prog w) A (PySem.call (.builtin "list_iterator.__next__") [.ref it]) Q E s := by
  have hit : s.heap.IsListIter it l i := ⟨_, ho, rfl, rfl⟩
  refine wpAny_call_entry slot_listiter_next hit.typeIs entry_listiter_next ?_ (args_listiter_next _)
  show wpAny _ _ (field (.ref it) 0 >>= _) _ _ s
  refine wpAny_bind (wpAny_field ho (x := .ref l) rfl rfl ?_)
  show wpAny _ _ (if (Value.ref l == Value.none) = true then _ else _) _ _ s
  rw [if_neg (show ¬ ((Value.ref l == Value.none) = true) from Bool.false_ne_true)]
  show wpAny _ _ (field (.ref it) 1 >>= _) _ _ s
  refine wpAny_bind (wpAny_field ho (x := .int (Int.ofNat i) 0) rfl rfl ?_)
  show wpAny _ _ (seqItems? (.ref l) >>= _) _ _ s
  refine wpAny_bind (wpAny_seqItems hl rfl ?_)
  have hx' : (⟨vs⟩ : Array Value)[i]? = some v := by simpa using hx
  simp only [Int.ofNat_eq_natCast, Int.toNat_natCast, hx']
  refine wpAny_bind (wpAny_setField ho rfl (by simp) (wpAny_pure ⟨v, rfl, ?_⟩))
  exact hQ
theorem hLNext_ok (j jl : Nat) (v : Value) : HOk prog w T 0 (hLNext j jl v) := by
  intro c H out e hi A s hA hS
  unfold hLNext at e
  refine bR_elim (P := fun c => CallsTo _ _ A c s _) e fun id a hid e1 => ?_
  refine onLa_elim e1 fun w' l vs ep hl e2 => ?_
  refine onSl_elim e2 fun a' o hg e3 => ?_
  clear e e1 e2
  cases e3
  obtain ⟨h1, h2, hh, h3⟩ := hi
  have ea : a = a' := h1 (a, a') (.head _)
  have eo := hh _ (.head _)
  have hx := h3 _ (.head _)
  clear h1 h2 hh h3
  rw [is_lit_eq hid]
  subst ea
  have eo' : o = itL l (itIdx o) := by
    dsimp only at eo
    injection eo with e1 _
    injection e1
  generalize itIdx o = i at eo' hx
  subst eo'
  have ho := getSlot_obj hS hg
  have hlo := getSlot_obj hS (lstAt_eq hl)
  refine (CallsTo.of_call prog w (R := fun x s' => x = v ∧ s' = _) (lit_calls prog w ho hlo hx ⟨rfl, rfl⟩)).mono prog w ?_
  rintro r s' ⟨x, rfl, rfl, rfl⟩
  exact ⟨[], [], [], rfl, rfl, rfl, rfl, hS.update hg rfl (f := fun o => o.mapFields (·.setIfInBounds 1 (.int (Int.ofNat (i + 1)) 0))) rfl⟩
theorem hLStop_ok (j jl : Nat) : HOk prog w T 0 (hLStop j jl) := by
  intro c H out e hi A s hA hS
  unfold hLStop at e
  refine bR_elim (P := fun c => CallsTo _ _ A c s _) e fun id a hid e1 => ?_
  refine onLa_elim e1 fun w' l vs ep hl e2 => ?_
  refine onSl_elim e2 fun a' o hg e3 => ?_
  clear e e1 e2
  cases e3
  obtain ⟨h1, h2, hh, h3⟩ := hi
  have ea : a = a' := h1 (a, a') (.head _)
  have eo := hh _ (.head _)
  have hx := h3 _ (.head _)
  clear h1 h2 hh h3
  rw [is_lit_eq hid]
  subst ea
  have eo' : o = itL l (itIdx o) := by
    dsimp only at eo
    injection eo with e1 _
    injection e1
  generalize itIdx o = i at eo' hx
  subst eo'
  have ho := getSlot_obj hS hg
  have hlo := getSlot_obj hS (lstAt_eq hl)
  have hit : s.heap.IsListIter a l i := ⟨_, ho, rfl, rfl⟩
  have p1 := hS.update hg rfl (f := fun o => o.mapFields (·.setIfInBounds 0 .none)) rfl
  have p2 := p1.sat.alloc (o := tup0) rfl
  have p3 := p2.sat.alloc (o := stopObj (s.heap.update a (fun o => o.mapFields (·.setIfInBounds 0 .none))).objs.size) rfl
  refine CallsTo.of_code prog w (codeAny_call_builtin slot_listiter_next.plain entry_listiter_next (slot_listiter_next.check _ _ _ _ _ _ _ _ hit.typeIs (args_listiter_next _) ?_))
  show wpAny _ _ (field (.ref a) 0 >>= _) _ _ s
  refine wpAny_bind (wpAny_field ho (x := .ref l) rfl rfl ?_)
  show wpAny _ _ (if (Value.ref l == Value.none) = true then _ else _) _ _ s
  rw [if_neg (show ¬ ((Value.ref l == Value.none) = true) from Bool.false_ne_true)]
  show wpAny _ _ (field (.ref a) 1 >>= _) _ _ s
  refine wpAny_bind (wpAny_field ho (x := .int (Int.ofNat i) 0) rfl rfl ?_)
  show wpAny _ _ (seqItems? (.ref l) >>= _) _ _ s
  refine wpAny_bind (wpAny_seqItems hlo rfl ?_)
  have hx' : (⟨vs⟩ : Array Value)[i]? = none := by simpa using hx
  simp only [Int.ofNat_eq_natCast, Int.toNat_natCast, hx']
  refine wpAny_bind (wpAny_rule (wpAny_bind (wpAny_setField ho rfl (by simp) ?_)))
  show wpAny _ _ (newExc (.type "StopIteration") [] >>= _) _ _ _
  refine wpAny_bind ?_
  simp only [newExc, newTuple]
  refine wpAny_bind (wpAny_newObj_type ?_ (by size_fits))
  refine wpAny_bind (m := firstArgMember _ _) (wpAny_of_eq (a := Value.none) (by first | rfl | (simp only [firstArgMember]; rfl)) ?_)
  refine wpAny_newObj_type ?_ (by size_fits)
  simp only [raiseNew]
  refine wpAny_bind (wpAny_handled ?_)
  rw [show (A.mark none).in1.handled = none from hA.handled]
  refine wpAny_bind (wpAny_pure (wpAny_throw ?_))
  exact ⟨[_, _], [], [], rfl, rfl, rfl, rfl, p1.trans (p2.trans p3)⟩
end
section
variable (prog : Program) (w : World)
/-- from the slots H the tree ends, raises nothing, and gives Ψ -/
noncomputable def Tx {α : Type} (lv : Nat) (T : Tops) (t : Sem α) (H : List Slot) (Ψ : α → List Slot → Prop) : Prop :=
  ∀ A s, OkT lv A → Sat T s H → wpAny (model prog w) A t (fun a s' => ∃ H', Ψ a H' ∧ Post T H s H' s') (fun _ _ => False) s
/-- what is asked behind a statement, a test, a loop's body, .. -/
noncomputable abbrev kCons (lv : Nat) (T : Tops) (rest : List Stmt) (env : Env) (Ψ : Flow → List Slot → Prop) : Flow → List Slot → Prop := fun f H1 => match f with | .next => Tx prog w lv T (execs rest env) H1 Ψ | f => Ψ f H1
noncomputable abbrev kIf (lv : Nat) (T : Tops) (body orelse : List Stmt) (env : Env) (Ψ : Flow → List Slot → Prop) : Bool → List Slot → Prop := fun b H1 => if b then Tx prog w lv T (execs body env) H1 Ψ else Tx prog w lv T (execs orelse env) H1 Ψ
noncomputable abbrev kBody (lv : Nat) (T : Tops) (c : Code) (Φ : Result → List Slot → Prop) : Flow → List Slot → Prop := fun f H2 => match f with
  | .next => Tri prog w (lv + 1) T c H2 Φ
  | .cont => Tri prog w (lv + 1) T c H2 Φ
  | .brk => Φ (.ok .next) H2
  | .ret v => Φ (.ok (.ret v)) H2
abbrev kEnd (Φ : Result → List Slot → Prop) : Flow → List Slot → Prop := fun f H2 => Φ (.ok f) H2
noncomputable abbrev kWhile (lv : Nat) (T : Tops) (test : PySem.Expr) (body orelse : List Stmt) (env : Env) (Φ : Result → List Slot → Prop) : Bool → List Slot → Prop := fun b H1 => if b then Tx prog w lv T (execs body env) H1 (kBody prog w lv T (.whileLoop test body orelse env) Φ) else Tx prog w lv T (execs orelse env) H1 (kEnd Φ)
noncomputable abbrev kAsg (lv : Nat) (T : Tops) (target : PySem.Expr) (it : Value) (body orelse : List Stmt) (env : Env) (Φ : Result → List Slot → Prop) : Unit → List Slot → Prop := fun _ H2 => Tx prog w lv T (execs body env) H2 (kBody prog w lv T (.forLoop target it body orelse env) Φ)
noncomputable abbrev kTurn (lv : Nat) (T : Tops) (target : PySem.Expr) (it : Value) (body orelse : List Stmt) (env : Env) (Φ : Result → List Slot → Prop) : Option Value → List Slot → Prop := fun r H1 => match r with
  | none => Tx prog w lv T (execs orelse env) H1 (kEnd Φ)
  | some v => Tx prog w lv T (assign target env v) H1 (kAsg prog w lv T target it body orelse env Φ)
variable {prog w} {T : Tops} {lv : Nat} {H : List Slot}
theorem Tx.mono {α : Type} {t : Sem α} {Ψ Ψ' : α → List Slot → Prop} (h : Tx prog w lv T t H Ψ) (hi : ∀ a H', Ψ a H' → Ψ' a H') : Tx prog w lv T t H Ψ' :=
  fun A s hA hS => wpAny_mono (h A s hA hS) (fun a s' ⟨H', p, q⟩ => ⟨H', hi a H' p, q⟩) fun _ _ x => x
theorem Tx.use {α : Type} {t : Sem α} {Ψ : α → List Slot → Prop} (h : Tx prog w lv T t H Ψ) {A : Around} (hA : OkT lv A) {H0 : List Slot} {s0 s : Shared} (hp : Post T H0 s0 H s) {Q : α → Shared → Prop} {E : Value → Shared → Prop}
    (hQ : ∀ a H' s', Ψ a H' → Post T H0 s0 H' s' → Q a s') : wpAny (model prog w) A t Q E s :=
  wpAny_mono (h A s hA hp.sat) (fun a s' ⟨H', p, q⟩ => hQ a H' s' p (hp.trans q)) fun _ _ x => x.elim
theorem Tx.pure {α : Type} {a : α} {Ψ : α → List Slot → Prop} (h : Ψ a H) : Tx prog w lv T (Pure.pure a) H Ψ := fun A s hA hS => wpAny_pure ⟨H, h, Post.refl hS⟩
theorem Tx.bind {α β : Type} {m : Sem α} {f : α → Sem β} {Ψ : β → List Slot → Prop} (h : Tx prog w lv T m H (fun a H1 => Tx prog w lv T (f a) H1 Ψ)) : Tx prog w lv T (m >>= f) H Ψ := fun A s hA hS =>
  wpAny_bind (h.use hA (Post.refl hS) fun a H1 s1 h1 hp => h1.use hA hp fun b H2 s2 h2 hp2 => ⟨H2, h2, hp2⟩)
theorem tx_execs_nil {env : Env} {Ψ : Flow → List Slot → Prop} (h : Ψ .next H) : Tx prog w lv T (execs [] env) H Ψ := fun A s hA hS => wpAny_execs_nil ⟨H, h, Post.refl hS⟩
theorem tx_execs_cons {env : Env} {st : Stmt} {rest : List Stmt} {Ψ : Flow → List Slot → Prop}
    (h : Tx prog w lv T (exec st env) H (kCons prog w lv T rest env Ψ)) : Tx prog w lv T (execs (st :: rest) env) H Ψ := fun A s hA hS =>
  wpAny_execs_cons (h.use hA (Post.refl hS) fun f H1 s1 h1 hp => by
    cases f with
    | next => exact Tx.use h1 hA hp fun b H2 s2 h2 hp2 => ⟨H2, h2, hp2⟩
    | brk => exact ⟨H1, h1, hp⟩
    | cont => exact ⟨H1, h1, hp⟩
    | ret v => exact ⟨H1, h1, hp⟩)
theorem tx_If {env : Env} {test : PySem.Expr} {body orelse : List Stmt} {pos : Pos} {Ψ : Flow → List Slot → Prop}
    (h : Tx prog w lv T (isTrue test env (eval test env)) H (kIf prog w lv T body orelse env Ψ)) : Tx prog w lv T (exec (.If test body orelse pos) env) H Ψ := fun A s hA hS =>
  wpAny_If (h.use hA (Post.refl hS) fun b H1 s1 h1 hp => by
    cases b
    · exact Tx.use h1 hA hp fun b H2 s2 h2 hp2 => ⟨H2, h2, hp2⟩
    · exact Tx.use h1 hA hp fun b H2 s2 h2 hp2 => ⟨H2, h2, hp2⟩)
/-- a loop's code ends without an exception -/
noncomputable def okF (Ψ : Flow → List Slot → Prop) : Result → List Slot → Prop := fun r H' => ∃ f, r = .ok f ∧ Ψ f H'
theorem Tri.useA {c : Code} {Φ : Result → List Slot → Prop} (h : Tri prog w lv T c H Φ) {A : Around} (hA : OkA lv A) {H0 : List Slot} {s0 s : Shared} (hp : Post T H0 s0 H s) {R : Result → Shared → Prop}
    (hR : ∀ r H' s', Φ r H' → Post T H0 s0 H' s' → R r s') : codeAny (model prog w) A c R s :=
  codeAny_mono (h A s hA hp.sat) fun r s' ⟨H', p, q⟩ => hR r H' s' p (hp.trans q)
theorem tx_While {env : Env} {test : PySem.Expr} {body orelse : List Stmt} {pos : Pos} {Ψ : Flow → List Slot → Prop} (h : Tri prog w lv T (.whileLoop test body orelse env) H (okF Ψ)) : Tx prog w lv T (exec (.While test body orelse pos) env) H Ψ := fun A s hA hS =>
  wpAny_While (h.useA hA.ok (Post.refl hS) fun r H' s' ⟨f, e, hf⟩ hp => by subst e; exact ⟨H', hf, hp⟩)
theorem tx_For {env : Env} {target iter : PySem.Expr} {body orelse : List Stmt} {pos : Pos} {Ψ : Flow → List Slot → Prop} (hs : ∀ x, foldedSetIterable iter env x = Pure.pure x)
    (h : Tx prog w lv T (eval iter env) H (fun x H1 => Tx prog w lv T (pyIter x) H1 (fun it H2 => Tri prog w lv T (.forLoop target it body orelse env) H2 (okF Ψ)))) : Tx prog w lv T (exec (.For target iter body orelse pos) env) H Ψ := fun A s hA hS =>
  wpAny_For (h.use hA (Post.refl hS) fun x H1 s1 h1 hp => h1.use hA hp fun it H2 s2 h2 hp2 => Tri.useA h2 hA.ok hp2 fun r H' s' ⟨f, e, hf⟩ hp => by subst e; exact ⟨H', hf, hp⟩) hs
/-- one turn of a while -/
theorem tri_while {env : Env} {test : PySem.Expr} {body orelse : List Stmt} {Φ : Result → List Slot → Prop}
    (h : Tx prog w lv T (isTrue test env (eval test env)) H (kWhile prog w lv T test body orelse env Φ)) : Tri prog w (lv + 1) T (.whileLoop test body orelse env) H Φ := fun A s hA hS => by
  have hA' : OkT lv (A.under (.whileLoop test body orelse env)) := hA.under rfl
  refine codeAny_of_tree ?_
  show wpAny _ _ ((whileTurn test body orelse env).onRaise (fun x => do noteFrame x env; theTreesLotGoes x)) _ _ s
  refine wpAny_noted ?_
  simp only [whileTurn]
  refine wpAny_bind (h.use hA' (Post.refl hS) fun b H1 s1 h1 hp => ?_)
  cases b with
  | false =>
    simp only [Bool.false_eq_true, if_false]
    exact wpAny_bind (Tx.use (Ψ := kEnd Φ) h1 hA' hp fun f H2 s2 h2 hp2 => wpAny_pure ⟨H2, h2, hp2⟩)
  | true =>
    simp only [if_true]
    refine wpAny_bind (Tx.use (Ψ := kBody prog w lv T (.whileLoop test body orelse env) Φ) h1 hA' hp fun f H2 s2 h2 hp2 => ?_)
    cases f with
    | next => exact wpAny_pure ⟨rfl, Tri.useA h2 hA hp2 fun r H' s' p q => ⟨H', p, q⟩⟩
    | cont => exact wpAny_pure ⟨rfl, Tri.useA h2 hA hp2 fun r H' s' p q => ⟨H', p, q⟩⟩
    | brk => exact wpAny_pure ⟨H2, h2, hp2⟩
    | ret v => exact wpAny_pure ⟨H2, h2, hp2⟩
theorem tri_func {env : Env} {body : List Stmt} {Φ : Result → List Slot → Prop} (h : Tx prog w lv T (execs body env) H (fun f H' => Φ (.ok (.ret (match f with | .ret v => v | _ => .none))) H')) : Tri prog w (lv + 1) T (.func body env) H Φ := fun A s hA hS =>
  codeAny_func (h.use (A := A.deeper env) (hA.under (c := .func body env) rfl) (Post.refl hS) fun f H' s' p q => ⟨H', p, q⟩)
/-- one turn of a for -/
theorem tri_for {env : Env} {target : PySem.Expr} {it : Value} {body orelse : List Stmt} {Φ : Result → List Slot → Prop} (ht : ∀ v, letOwnedTupleGo target it v = Pure.pure ())
    (h : Tx prog w lv T (pyNext it) H (kTurn prog w lv T target it body orelse env Φ)) : Tri prog w (lv + 1) T (.forLoop target it body orelse env) H Φ := fun A s hA hS => by
  have hA' : OkT lv (A.under (.forLoop target it body orelse env)) := hA.under rfl
  refine codeAny_of_tree ?_
  show wpAny _ _ ((forTurn target it body orelse env).onRaise (fun x => do noteFrame x env; theTreesLotGoes x)) _ _ s
  refine wpAny_noted ?_
  simp only [forTurn]
  refine wpAny_bind (wpAny_standAt (wpAny_bind (wpAny_onRaise (h.use hA' (Post.refl hS) fun r H1 s1 h1 hp => ?_))))
  cases r with
  | none => exact wpAny_pure ⟨rfl, codeAny_block (Tx.use (Ψ := kEnd Φ) h1 hA' hp fun f H2 s2 h2 hp2 => ⟨H2, h2, hp2⟩)⟩
  | some v =>
    refine wpAny_bind (wpAny_of_eq (ht v) ?_)
    refine wpAny_bind (Tx.use (Ψ := kAsg prog w lv T target it body orelse env Φ) h1 hA' hp fun _ H2 s2 h2 hp2 => wpAny_bind (Tx.use (Ψ := kBody prog w lv T (.forLoop target it body orelse env) Φ) h2 hA' hp2 fun f H3 s3 h3 hp3 => ?_))
    cases f with
    | next => exact wpAny_pure ⟨rfl, Tri.useA h3 hA hp3 fun r H' s' p q => ⟨H', p, q⟩⟩
    | cont => exact wpAny_pure ⟨rfl, Tri.useA h3 hA hp3 fun r H' s' p q => ⟨H', p, q⟩⟩
    | brk => exact wpAny_pure ⟨H3, h3, hp3⟩
    | ret v => exact wpAny_pure ⟨H3, h3, hp3⟩
noncomputable abbrev execsZ : List Stmt → Env → Sem Flow := ZFast.zw12563942051412417395
noncomputable abbrev evalZ : PySem.Expr → Env → Sem Value := ZFast.zw14044960220447912780
noncomputable abbrev isTrueZ : PySem.Expr → Env → Sem Value → Sem Bool := ZFast.zw15418851999007992765
noncomputable abbrev pyNextZ : Value → Sem (Option Value) := ZFast.zw9404975358583537561
noncomputable abbrev assignZ : PySem.Expr → Env → Value → Sem Unit := ZFast.zw17772580674575903948
noncomputable abbrev compareZ : CmpOp → Value → Value → Sem Value := ZFast.zw12886488535604756494
theorem execsZ_eq (l : List Stmt) (env : Env) : execs l env = execsZ l env := congrFun (congrFun ZFast.ze12563942051412417395 l) env
theorem evalZ_eq (l : PySem.Expr) (env : Env) : eval l env = evalZ l env := congrFun (congrFun ZFast.ze14044960220447912780 l) env
theorem isTrueZ_eq (l : PySem.Expr) (env : Env) : isTrue l env (eval l env) = isTrueZ l env (evalZ l env) := by
  rw [evalZ_eq]; exact congrFun (congrFun (congrFun ZFast.ze15418851999007992765 l) env) _
theorem pyNextZ_eq (v : Value) : pyNext v = pyNextZ v := congrFun ZFast.ze9404975358583537561 v
theorem assignZ_eq (t : PySem.Expr) (env : Env) (v : Value) : assign t env v = assignZ t env v := congrFun (congrFun (congrFun ZFast.ze17772580674575903948 t) env) v
theorem compareZ_eq (o : CmpOp) (a b : Value) : compareOp o a b = compareZ o a b := congrFun (congrFun (congrFun ZFast.ze12886488535604756494 o) a) b
variable {tt : TT} (hT : ∀ a o, tt.get a = some o → T a o) {n : Nat} {hs : List Hint} {cs : Orc → List Prop}
include hT in
theorem tx_run {α : Type} {t t' : Sem α} (e : t = t') (hok : HsOk prog w T lv hs) {f : Orc → α} {H' : Orc → List Slot} {Ψ : α → List Slot → Prop}
    (seg : ∀ O, Seg (run ⟨prog, w.params, tt, O⟩ n hs (.root t') ⟨H, 0, 0, 0⟩) (cs O) (.pure (f O)) (H' O)) (hcs : ∀ O, ∀ p ∈ cs O, p)
    (hn : ∀ O, Ψ (f O) (H' O)) : Tx prog w lv T t H Ψ := fun A s hA hS => by
  rw [e]
  exact wp_run hT hA hS hok.get (F := fun O t h => t = .pure (f O) ∧ h = H' O) (fun O => (seg O).good (hcs O) ⟨rfl, rfl⟩) fun O t h s' ⟨e1, e2⟩ hp => by
    subst e1 e2
    exact ⟨fun a ea => by cases ea; exact ⟨_, hn O, hp⟩, fun x ex => by cases ex⟩
include hT in
theorem tx_runP {α : Type} {t t' : Sem α} (e : t = t') (hok : HsOk prog w T lv hs) {ps : Orc → List Prop} {f : Orc → α} {H' : Orc → List Slot} {Ψ : α → List Slot → Prop}
    (seg : ∀ O, SegP (run ⟨prog, w.params, tt, O⟩ n hs (.root t') ⟨H, 0, 0, 0⟩) (cs O) (ps O) (.pure (f O)) (H' O)) (hcs : ∀ O, ∀ p ∈ cs O, p)
    (hn : ∀ O, (∀ p ∈ ps O, p) → Ψ (f O) (H' O)) : Tx prog w lv T t H Ψ := fun A s hA hS => by
  rw [e]
  exact wp_run hT hA hS hok.get (F := fun O t h => (t = .pure (f O) ∧ h = H' O) ∧ ∀ p ∈ ps O, p) (fun O => (seg O).good (hcs O) fun hp => ⟨⟨rfl, rfl⟩, hp⟩) fun O t h s' ⟨⟨e1, e2⟩, hps⟩ hp => by
    subst e1 e2
    exact ⟨fun a ea => by cases ea; exact ⟨_, hn O hps, hp⟩, fun x ex => by cases ex⟩
end
noncomputable def forI (s : Stmt) : PySem.Expr := ((sV s).1.getD 1 default)
noncomputable abbrev pyIterZ : Value → Sem Value := ZFast.zw8711993805878244202
theorem pyIterZ_eq (v : Value) : pyIter v = pyIterZ v := congrFun ZFast.ze8711993805878244202 v
theorem execs_app (env : Env) : ∀ (l1 l2 : List Stmt), execs (l1 ++ l2) env = (execs l1 env >>= fun f => match f with | .next => execs l2 env | f => pure f)
  | [], l2 => rfl
  | a :: l1, l2 => by
    show execs (a :: (l1 ++ l2)) env = _
    rw [execs_cons, execs_cons]
    show _ = Sem.bind (Sem.bind _ _) _
    rw [Sem.bind_assoc]
    refine congrArg (Sem.bind (exec a env)) (funext fun f => ?_)
    cases f with
    | next => exact execs_app env l1 l2
    | brk => rfl
    | cont => rfl
    | ret v => rfl
section
variable {prog : Program} {w : World} {T : Tops} {lv : Nat} {H : List Slot}
noncomputable abbrev kApp (prog : Program) (w : World) (lv : Nat) (T : Tops) (l2 : List Stmt) (env : Env) (Ψ : Flow → List Slot → Prop) : Flow → List Slot → Prop := fun f H1 => f = .next ∧ Tx prog w lv T (execs l2 env) H1 Ψ
theorem tx_app {env : Env} {l1 l2 : List Stmt} {Ψ : Flow → List Slot → Prop} (h : Tx prog w lv T (execs l1 env) H (kApp prog w lv T l2 env Ψ)) : Tx prog w lv T (execs (l1 ++ l2) env) H Ψ := by
  rw [execs_app]
  exact Tx.bind (h.mono fun f H1 ⟨e, h1⟩ => by subst e; exact h1)
end
section
variable {prog : Program} {d : Source → Nat → Nat} {P : Params} {b1 b2 : Bool} {T : Tops} {lv : Nat} {H : List Slot} {n : Nat} {hs : List Hint} {cs : Orc → List Prop} {H' : Orc → List Slot} (hT : ∀ a o, (topT P).get a = some o → T a o)
include hT
theorem jaA {c : Code} {c' : Orc → Code} {Φ : Result → List Slot → Prop} (seg : ∀ O, Seg (run (eE prog P b1 b2 O) n hs (.root (denoteZ c)) ⟨H, 0, 0, 0⟩) (cs O) (.pure (.again (c' O))) (H' O)) (hok : HsOk prog (wd d P b1 b2) T lv hs) (hcs : ∀ O, ∀ p ∈ cs O, p) (hn : ∀ O, Tri prog (wd d P b1 b2) (lv + 1) T (c' O) (H' O) Φ) (hc : okCode c = true := by rfl) (hq : ∀ O, (c' O).quiet = true := by exact fun _ => rfl) : Tri prog (wd d P b1 b2) (lv + 1) T c H Φ :=
  tri_again hT hc hok seg hcs hq hn
theorem jaAP {c : Code} {c' : Orc → Code} {p : Orc → Prop} {Φ : Result → List Slot → Prop} (seg : ∀ O, SegP (run (eE prog P b1 b2 O) n hs (.root (denoteZ c)) ⟨H, 0, 0, 0⟩) (cs O) [p O] (.pure (.again (c' O))) (H' O)) (hok : HsOk prog (wd d P b1 b2) T lv hs) (hcs : ∀ O, ∀ p ∈ cs O, p) (hn : ∀ O, p O → Tri prog (wd d P b1 b2) (lv + 1) T (c' O) (H' O) Φ) (hc : okCode c = true := by rfl) (hq : ∀ O, (c' O).quiet = true := by exact fun _ => rfl) : Tri prog (wd d P b1 b2) (lv + 1) T c H Φ :=
  tri_againP hT hc hok seg hcs hq (fun O hp => hn O (hp _ (.head _)))
theorem jaB {l : PySem.Expr} {e : Env} {f : Orc → Bool} {Ψ : Bool → List Slot → Prop} (seg : ∀ O, Seg (run (eE prog P b1 b2 O) n hs (.root (isTrueZ l e (evalZ l e))) ⟨H, 0, 0, 0⟩) (cs O) (.pure (f O)) (H' O)) (hok : HsOk prog (wd d P b1 b2) T lv hs) (hcs : ∀ O, ∀ p ∈ cs O, p) (hn : ∀ O, Ψ (f O) (H' O)) : Tx prog (wd d P b1 b2) lv T (isTrue l e (eval l e)) H Ψ :=
  tx_run hT (isTrueZ_eq _ _) hok seg hcs hn
theorem jaC {o : CmpOp} {a b : Value} {f : Orc → Value} {Ψ : Value → List Slot → Prop} (seg : ∀ O, Seg (run (eE prog P b1 b2 O) n hs (.root (compareZ o a b)) ⟨H, 0, 0, 0⟩) (cs O) (.pure (f O)) (H' O)) (hok : HsOk prog (wd d P b1 b2) T lv hs) (hcs : ∀ O, ∀ p ∈ cs O, p) (hn : ∀ O, Ψ (f O) (H' O)) : Tx prog (wd d P b1 b2) lv T (compareOp o a b) H Ψ :=
  tx_run hT (compareZ_eq _ _ _) hok seg hcs hn
theorem jaD {c : Code} {f : Orc → Flow} {Φ : Result → List Slot → Prop} (seg : ∀ O, Seg (run (eE prog P b1 b2 O) n hs (.root (denoteZ c)) ⟨H, 0, 0, 0⟩) (cs O) (.pure (.done (f O))) (H' O)) (hok : HsOk prog (wd d P b1 b2) T lv hs) (hcs : ∀ O, ∀ p ∈ cs O, p) (hn : ∀ O, Φ (.ok (f O)) (H' O)) (hc : okCode c = true := by rfl) : Tri prog (wd d P b1 b2) (lv + 1) T c H Φ :=
  tri_done hT hc hok seg hcs hn
theorem jaE {l : List Stmt} {e : Env} {f : Orc → Flow} {Ψ : Flow → List Slot → Prop} (seg : ∀ O, Seg (run (eE prog P b1 b2 O) n hs (.root (execsZ l e)) ⟨H, 0, 0, 0⟩) (cs O) (.pure (f O)) (H' O)) (hok : HsOk prog (wd d P b1 b2) T lv hs) (hcs : ∀ O, ∀ p ∈ cs O, p) (hn : ∀ O, Ψ (f O) (H' O)) : Tx prog (wd d P b1 b2) lv T (execs l e) H Ψ :=
  tx_run hT (execsZ_eq _ _) hok seg hcs hn
theorem jaEP {l : List Stmt} {e : Env} {f : Orc → Flow} {p : Orc → Prop} {Ψ : Flow → List Slot → Prop} (seg : ∀ O, SegP (run (eE prog P b1 b2 O) n hs (.root (execsZ l e)) ⟨H, 0, 0, 0⟩) (cs O) [p O] (.pure (f O)) (H' O)) (hok : HsOk prog (wd d P b1 b2) T lv hs) (hcs : ∀ O, ∀ p ∈ cs O, p) (hn : ∀ O, p O → Ψ (f O) (H' O)) : Tx prog (wd d P b1 b2) lv T (execs l e) H Ψ :=
  tx_runP hT (execsZ_eq _ _) hok seg hcs (fun O hp => hn O (hp _ (.head _)))
theorem jaI {v : Value} {f : Orc → Value} {Ψ : Value → List Slot → Prop} (seg : ∀ O, Seg (run (eE prog P b1 b2 O) n hs (.root (pyIterZ v)) ⟨H, 0, 0, 0⟩) (cs O) (.pure (f O)) (H' O)) (hok : HsOk prog (wd d P b1 b2) T lv hs) (hcs : ∀ O, ∀ p ∈ cs O, p) (hn : ∀ O, Ψ (f O) (H' O)) : Tx prog (wd d P b1 b2) lv T (pyIter v) H Ψ :=
  tx_run hT (pyIterZ_eq _) hok seg hcs hn
theorem jaN {v : Value} {f : Orc → (Option Value)} {Ψ : (Option Value) → List Slot → Prop} (seg : ∀ O, Seg (run (eE prog P b1 b2 O) n hs (.root (pyNextZ v)) ⟨H, 0, 0, 0⟩) (cs O) (.pure (f O)) (H' O)) (hok : HsOk prog (wd d P b1 b2) T lv hs) (hcs : ∀ O, ∀ p ∈ cs O, p) (hn : ∀ O, Ψ (f O) (H' O)) : Tx prog (wd d P b1 b2) lv T (pyNext v) H Ψ :=
  tx_run hT (pyNextZ_eq _) hok seg hcs hn
theorem jaS {l : PySem.Expr} {e : Env} {v : Value} {f : Orc → Unit} {Ψ : Unit → List Slot → Prop} (seg : ∀ O, Seg (run (eE prog P b1 b2 O) n hs (.root (assignZ l e v)) ⟨H, 0, 0, 0⟩) (cs O) (.pure (f O)) (H' O)) (hok : HsOk prog (wd d P b1 b2) T lv hs) (hcs : ∀ O, ∀ p ∈ cs O, p) (hn : ∀ O, Ψ (f O) (H' O)) : Tx prog (wd d P b1 b2) lv T (assign l e v) H Ψ :=
  tx_run hT (assignZ_eq _ _ _) hok seg hcs hn
theorem jaV {l : PySem.Expr} {e : Env} {f : Orc → Value} {Ψ : Value → List Slot → Prop} (seg : ∀ O, Seg (run (eE prog P b1 b2 O) n hs (.root (evalZ l e)) ⟨H, 0, 0, 0⟩) (cs O) (.pure (f O)) (H' O)) (hok : HsOk prog (wd d P b1 b2) T lv hs) (hcs : ∀ O, ∀ p ∈ cs O, p) (hn : ∀ O, Ψ (f O) (H' O)) : Tx prog (wd d P b1 b2) lv T (eval l e) H Ψ :=
  tx_run hT (evalZ_eq _ _) hok seg hcs hn
theorem jaVP {l : PySem.Expr} {e : Env} {f : Orc → Value} {p : Orc → Prop} {Ψ : Value → List Slot → Prop} (seg : ∀ O, SegP (run (eE prog P b1 b2 O) n hs (.root (evalZ l e)) ⟨H, 0, 0, 0⟩) (cs O) [p O] (.pure (f O)) (H' O)) (hok : HsOk prog (wd d P b1 b2) T lv hs) (hcs : ∀ O, ∀ p ∈ cs O, p) (hn : ∀ O, p O → Ψ (f O) (H' O)) : Tx prog (wd d P b1 b2) lv T (eval l e) H Ψ :=
  tx_runP hT (evalZ_eq _ _) hok seg hcs (fun O hp => hn O (hp _ (.head _)))
end
noncomputable abbrev fLedS20 (X : LX) (sz : Int) (tz : Nat) (ca : Nat) (bo : Nat) (vh : Value) (vp : Value) (r : List (Str × Value)) : List (Str × Value) := (s_line, .ref X.I) :: (s_size, .int sz tz) :: (s_carrier, .ref ca) :: (s_boxes, .ref bo) :: (s_here, vh) :: (s_place, vp) :: r
section
variable (prog : Program) (P : Params) (b1 b2 : Bool)
noncomputable def led_b_h : List Hint := [.slot 9, .slot 9, .slot 9, .slot 9]
theorem led_b (O : Orc) (X : LX) (ln : Int) (tl : Nat) (pb : List Value) (eb : Nat) (sg : List Value) (es : Nat) (L : Nat) (κ : Nat → Int) (τ : Nat → Nat) (sz : Int) (tz : Nat) : Seg (run (eE prog P b1 b2 O) 26 (led_b_h) (.root (execsZ ((fnB (st 13)).take 2) (ledEnv P L))) ⟨lexS X ln tl pb eb sg es ++ [wS L (frm κ τ [(s_line, .ref X.I), (s_size, .int sz tz)])], 0, 0, 0⟩)
    [] (.pure (Flow.next)) (lexS X ln tl pb eb sg es ++ [wS (L) (frm (ext κ 2 [hz prog (mkP P b1 b2) s_carrier, hz prog (mkP P b1 b2) s_boxes]) (ext τ 2 [(O.tok 0), (O.tok 1)]) [(s_line, .ref (X.1)), (s_size, .int (sz) (tz)), (s_carrier, .ref (O.addr 0)), (s_boxes, .ref (O.addr 1))]), wS (O.addr 0) (lst [] 0), wS (O.addr 1) (lst [] 0)]) := sg5 (by kernel_rfl)
noncomputable def led_i_h : List Hint := [.slot 9]
theorem led_i (O : Orc) (X : LX) (ln : Int) (tl : Nat) (pb : List Value) (eb : Nat) (sg : List Value) (es : Nat) (L ca bo : Nat) (κ : Nat → Int) (τ : Nat → Nat) (sz : Int) (tz : Nat) (cv bv : List Value) (ec e2 : Nat) (vh vp : Value) : Seg (run (eE prog P b1 b2 O) 8 (led_i_h) (.root (evalZ (forI ledF) (ledEnv P L))) ⟨lexS X ln tl pb eb sg es ++ [wS L (frm κ τ (fLedS20 X sz tz ca bo vh vp [])), wS ca (lst cv ec), wS bo (lst bv e2)], 0, 0, 0⟩)
    [] (.pure (.ref (bo))) (lexS X ln tl pb eb sg es ++ [wS (L) (frm κ τ [(s_line, .ref (X.1)), (s_size, .int (sz) (tz)), (s_carrier, .ref (ca)), (s_boxes, .ref (bo)), (s_here, vh), (s_place, vp)]), wS (ca) (lst (cv) (ec)), wS (bo) (lst (bv) (e2))]) := sg5 (by kernel_rfl)
noncomputable def led_it_h : List Hint := [.slot 11, .slot 11, .call, .slot 11, .slot 12]
theorem led_it (O : Orc) (X : LX) (ln : Int) (tl : Nat) (pb : List Value) (eb : Nat) (sg : List Value) (es : Nat) (L ca bo : Nat) (κ : Nat → Int) (τ : Nat → Nat) (sz : Int) (tz : Nat) (cv bv : List Value) (ec e2 : Nat) (vh vp : Value) : Seg (run (eE prog P b1 b2 O) 15 (led_it_h) (.root (pyIterZ (.ref bo))) ⟨lexS X ln tl pb eb sg es ++ [wS L (frm κ τ (fLedS20 X sz tz ca bo vh vp [])), wS ca (lst cv ec), wS bo (lst bv e2)], 0, 0, 0⟩)
    [] (.pure (.ref (O.addr 0))) (lexS X ln tl pb eb sg es ++ [wS (L) (frm κ τ [(s_line, .ref (X.1)), (s_size, .int (sz) (tz)), (s_carrier, .ref (ca)), (s_boxes, .ref (bo)), (s_here, vh), (s_place, vp)]), wS (ca) (lst (cv) (ec)), wS (bo) (lst (bv) (e2)), wS (O.addr 0) (itL bo 0)]) := by cases b2 <;> exact sg5 (by kernel_rfl)
noncomputable def led_g0_h (sx : Str) (tx : Nat) : List Hint := [.slot 12, .sum (hLNext 12 11 (.str sx tx)), .slot 9, .slot 9, .slot 9, .slot 0, .top, .top, .top, .slot 0, .top, .top, .top, .slot 0, .top, .top, .top, .top, .slot 0, .slot 1, .slot 9, .top, .sum (hPush 0)]
theorem led_g0 (O : Orc) (X : LX) (ln : Int) (tl : Nat) (pb : List Value) (eb : Nat) (sg : List Value) (es : Nat) (L ca bo : Nat) (κ : Nat → Int) (τ : Nat → Nat) (sz : Int) (tz : Nat) (cv bv : List Value) (ec e2 : Nat) (vh vp : Value) (it i : Nat) (sx : Str) (tx : Nat) : Seg (run (eE prog P b1 b2 O) 42 (led_g0_h sx tx) (.root (denoteZ (ledFor P L it))) ⟨lexS X ln tl pb eb sg es ++ [wS L (frm κ τ (fLedS20 X sz tz ca bo vh vp [])), wS ca (lst cv ec), wS bo (lst bv e2), wS it (itL bo i)], 0, 0, 0⟩)
    [bv[i]? = some (.str sx tx), X.ok, pb.length < 90000] (.pure (.again (ledFor P L it))) (lexS X ln tl (pb ++ [.str sx tx]) (eb + 1) sg es ++ [wS (L) (frm (ext κ 6 [hz prog (mkP P b1 b2) s_box]) (ext τ 6 [(O.tok 0)]) [(s_line, .ref (X.1)), (s_size, .int (sz) (tz)), (s_carrier, .ref (ca)), (s_boxes, .ref (bo)), (s_here, vh), (s_place, vp), (s_box, .str sx (tx))]), wS (ca) (lst (cv) (ec)), wS (bo) (lst (bv) (e2)), wS (it) (itL bo (i + 1))]) := sg5 (by kernel_rfl)
noncomputable def led_g1_h (sx : Str) (tx : Nat) : List Hint := [.slot 12, .sum (hLNext 12 11 (.str sx tx)), .slot 9, .slot 9, .slot 9, .slot 0, .top, .top, .top, .slot 0, .top, .top, .top, .slot 0, .top, .top, .top, .top, .slot 0, .slot 1, .slot 9, .top, .sum (hPush 0)]
theorem led_g1 (O : Orc) (X : LX) (ln : Int) (tl : Nat) (pb : List Value) (eb : Nat) (sg : List Value) (es : Nat) (L ca bo : Nat) (κ : Nat → Int) (τ : Nat → Nat) (sz : Int) (tz : Nat) (cv bv : List Value) (ec e2 : Nat) (vh vp : Value) (it i : Nat) (sx : Str) (tx : Nat) (vb : Value) : Seg (run (eE prog P b1 b2 O) 42 (led_g1_h sx tx) (.root (denoteZ (ledFor P L it))) ⟨lexS X ln tl pb eb sg es ++ [wS L (frm κ τ (fLedS20 X sz tz ca bo vh vp [(s_box, vb)])), wS ca (lst cv ec), wS bo (lst bv e2), wS it (itL bo i)], 0, 0, 0⟩)
    [bv[i]? = some (.str sx tx), X.ok, pb.length < 90000] (.pure (.again (ledFor P L it))) (lexS X ln tl (pb ++ [.str sx tx]) (eb + 1) sg es ++ [wS (L) (frm κ τ [(s_line, .ref (X.1)), (s_size, .int (sz) (tz)), (s_carrier, .ref (ca)), (s_boxes, .ref (bo)), (s_here, vh), (s_place, vp), (s_box, .str sx (tx))]), wS (ca) (lst (cv) (ec)), wS (bo) (lst (bv) (e2)), wS (it) (itL bo (i + 1))]) := sg5 (by kernel_rfl)
noncomputable def led_gx_h : List Hint := [.slot 12, .sum (hLStop 12 11), .slot 14]
theorem led_gx (O : Orc) (X : LX) (ln : Int) (tl : Nat) (pb : List Value) (eb : Nat) (sg : List Value) (es : Nat) (L ca bo : Nat) (κ : Nat → Int) (τ : Nat → Nat) (sz : Int) (tz : Nat) (cv bv : List Value) (ec e2 : Nat) (vh vp : Value) (it i : Nat) (vb : Value) : Seg (run (eE prog P b1 b2 O) 10 (led_gx_h) (.root (denoteZ (ledFor P L it))) ⟨lexS X ln tl pb eb sg es ++ [wS L (frm κ τ (fLedS20 X sz tz ca bo vh vp [(s_box, vb)])), wS ca (lst cv ec), wS bo (lst bv e2), wS it (itL bo i)], 0, 0, 0⟩)
    [bv[i]? = none] (.pure (.again (Code.block [] (ledEnv P L)))) (lexS X ln tl pb eb sg es ++ [wS L (frm κ τ (fLedS20 X sz tz ca bo vh vp [(s_box, vb)])), wS ca (lst cv ec), wS bo (lst bv e2), wS it (itLx i), wS (O.addr 0) tup0, wS (O.addr 1) (stopObj (O.addr 0))]) := sg5 (by kernel_rfl)
noncomputable def led_gb_h : List Hint := []
theorem led_gb (O : Orc) (A : List Slot) (L : Nat) : Seg (run (eE prog P b1 b2 O) 6 (led_gb_h) (.root (denoteZ (Code.block [] (ledEnv P L)))) ⟨A, 0, 0, 0⟩)
    [] (.pure (.done .next)) A := sg5 (by kernel_rfl)
noncomputable def led_r_h : List Hint := [.slot 9]
theorem led_r (O : Orc) (X : LX) (ln : Int) (tl : Nat) (pb : List Value) (eb : Nat) (sg : List Value) (es : Nat) (L ca bo : Nat) (κ : Nat → Int) (τ : Nat → Nat) (sz : Int) (tz : Nat) (cv bv : List Value) (ec e2 : Nat) (vh vp : Value) (vb : Value) (N : List Slot) : Seg (run (eE prog P b1 b2 O) 9 (led_r_h) (.root (execsZ [(fnB (st 13)).getD 4 default] (ledEnv P L))) ⟨(lexS X ln tl pb eb sg es ++ ([wS L (frm κ τ (fLedS20 X sz tz ca bo vh vp [(s_box, vb)])), wS ca (lst cv ec), wS bo (lst bv e2)] ++ N)), 0, 0, 0⟩)
    [] (.pure (.ret (.ref bo))) (lexS X ln tl pb eb sg es ++ ([wS L (frm κ τ (fLedS20 X sz tz ca bo vh vp [(s_box, vb)])), wS ca (lst cv ec), wS bo (lst bv e2)] ++ N)) := sg5 (by kernel_rfl)
end
section
variable (prog : Program) (d : Source → Nat → Nat) (P : Params) (b1 b2 : Bool) {T : Tops} (hT : ∀ a o, (topT P).get a = some o → T a o) {lv : Nat}
include hT
theorem led_b_ok (hl : 0 ≤ lv) : HsOk prog (wd d P b1 b2) T lv (led_b_h) := trivial
theorem led_i_ok (hl : 0 ≤ lv) : HsOk prog (wd d P b1 b2) T lv (led_i_h) := trivial
theorem led_it_ok (hl : 0 ≤ lv) : HsOk prog (wd d P b1 b2) T lv (led_it_h) := trivial
theorem led_g0_ok (hl : 5 ≤ lv) (sx : Str) (tx : Nat) : HsOk prog (wd d P b1 b2) T lv (led_g0_h sx tx) := ⟨(hLNext_ok prog _ _ _ _).mono _ _ _ (lw hl), (hPush_ok prog d P b1 b2 hT _).mono _ _ _ (lw hl), trivial⟩
theorem led_g1_ok (hl : 5 ≤ lv) (sx : Str) (tx : Nat) : HsOk prog (wd d P b1 b2) T lv (led_g1_h sx tx) := ⟨(hLNext_ok prog _ _ _ _).mono _ _ _ (lw hl), (hPush_ok prog d P b1 b2 hT _).mono _ _ _ (lw hl), trivial⟩
theorem led_gx_ok (hl : 5 ≤ lv) : HsOk prog (wd d P b1 b2) T lv (led_gx_h) := ⟨(hLStop_ok prog _ _ _).mono _ _ _ (lw hl), trivial⟩
theorem led_gb_ok (hl : 0 ≤ lv) : HsOk prog (wd d P b1 b2) T lv (led_gb_h) := trivial
theorem led_r_ok (hl : 0 ≤ lv) : HsOk prog (wd d P b1 b2) T lv (led_r_h) := trivial
end
theorem Post.drop {T : Tops} {H H' H'' : List Slot} {s s' : Shared} (h : Post T H s H' s') (hs : H''.Sublist H') : Post T H s H'' s' :=
  ⟨h.sat.part hs, h.keep, fun sl hm hw => h.grow sl (hs.mem hm) hw⟩
section
variable {prog : Program} {w : World} {T : Tops} {lv : Nat} {H : List Slot}
theorem Tri.drop {c : Code} {Φ Ψ : Result → List Slot → Prop} (h : Tri prog w lv T c H Φ) (hi : ∀ r H', Φ r H' → ∃ H'', H''.Sublist H' ∧ Ψ r H'') : Tri prog w lv T c H Ψ := fun A s hA hS =>
  codeAny_mono (h A s hA hS) fun r s' ⟨H', p, q⟩ => by
    obtain ⟨H'', hs, p'⟩ := hi r H' p
    exact ⟨H'', p', q.drop hs⟩
theorem Tx.drop {α : Type} {t : Sem α} {Φ Ψ : α → List Slot → Prop} (h : Tx prog w lv T t H Φ) (hi : ∀ r H', Φ r H' → ∃ H'', H''.Sublist H' ∧ Ψ r H'') : Tx prog w lv T t H Ψ := fun A s hA hS =>
  wpAny_mono (h A s hA hS) (fun r s' ⟨H', p, q⟩ => by
    obtain ⟨H'', hs, p'⟩ := hi r H' p
    exact ⟨H'', p', q.drop hs⟩) fun _ _ x => x
end
noncomputable def hpB (vh vp vb : Value) : List (Str × Value) := [(s_here, vh), (s_place, vp), (s_box, vb)]
section
variable (prog : Program) (d : Source → Nat → Nat) (P : Params) (b1 b2 : Bool) {T : Tops} (hT : ∀ a o, (topT P).get a = some o → T a o)
include hT
noncomputable def ledFΦ (X : LX) (ln : Int) (tl es L ca bo : Nat) (sz : Int) (tz : Nat) (pbv : List Value) (cv bv : List Value) (ec e2 : Nat) : Result → List Slot → Prop := fun r H' =>
  ∃ f, r = .ok f ∧ f = .next ∧ ∃ eb κ τ vh vp vb N, H' = lexS X ln tl pbv eb [] es ++ ([⟨true, L, frm κ τ (ledBase X sz tz ca bo (hpB vh vp vb))⟩, ⟨true, ca, lst cv ec⟩, ⟨true, bo, lst bv e2⟩] ++ N)
theorem led_for1 {X : LX} (hX : X.ok) {ln : Int} {tl es L ca bo : Nat} {sz : Int} {tz : Nat} {cv bv : List Value} {ec e2 it : Nat} {vh vp : Value} :
    ∀ (n i : Nat) (pbv rest : List Value) (ks : List Nat) (eb : Nat) (κ : Nat → Int) (τ : Nat → Nat) (vb : Value), bv.drop i = rest → Bx rest ks → n = rest.length → pbv.length + n < 90000 →
    Tri prog (wd d P b1 b2) 6 T (ledFor P L it) (lexS X ln tl pbv eb [] es ++ [⟨true, L, frm κ τ (ledBase X sz tz ca bo (hpB vh vp vb))⟩, ⟨true, ca, lst cv ec⟩, ⟨true, bo, lst bv e2⟩, ⟨true, it, itL bo i⟩]) (ledFΦ X ln tl es L ca bo sz tz (pbv ++ rest) cv bv ec e2)
  | 0, i, pbv, rest, ks, eb, κ, τ, vb, hd, hb, hn, hl => by
    cases hb with
    | cons => cases hn
    | nil =>
      have hx : bv[i]? = none := by
        rw [List.getElem?_eq_none_iff]
        have := congrArg List.length hd
        simp at this; lia
      refine tri_again hT (lv := 5) rfl (led_gx_ok prog d P b1 b2 hT (by decide)) (fun O => led_gx prog P b1 b2 O X ln tl pbv eb [] es L ca bo κ τ sz tz cv bv ec e2 vh vp it i vb) (fun _ => k1 hx) (fun _ => rfl) fun O => ?_
      exact tri_done hT (lv := 5) rfl (led_gb_ok prog d P b1 b2 hT (by decide)) (fun O' => led_gb prog P b1 b2 O' _ L) (fun _ => mem0) fun O' => ⟨.next, rfl, rfl, eb, κ, τ, vh, vp, vb, _, by rw [List.append_nil]; rfl⟩
  | n + 1, i, pbv, rest, ks, eb, κ, τ, vb, hd, hb, hn, hl => by
    cases hb with
    | nil => cases hn
    | cons hk t hb =>
      rename_i k vs ks
      have hx : bv[i]? = some (.str (B k) t) := by
        have : (bv.drop i)[0]? = some (.str (B k) t) := by rw [hd]; rfl
        rw [List.getElem?_drop] at this
        simpa using this
      have hd' : bv.drop (i + 1) = vs := by
        have := congrArg List.tail hd
        simpa [List.tail_drop] using this
      simp only [List.length_cons] at hn
      refine tri_again hT (lv := 5) rfl (led_g1_ok prog d P b1 b2 hT (by decide) (B k) t) (fun O => led_g1 prog P b1 b2 O X ln tl pbv eb [] es L ca bo κ τ sz tz cv bv ec e2 vh vp it i (B k) t vb) (fun _ => k3 hx hX (by lia)) (fun _ => rfl) fun O => ?_
      rw [show pbv ++ Value.str (B k) t :: vs = (pbv ++ [Value.str (B k) t]) ++ vs by simp]
      exact led_for1 hX n (i + 1) _ vs ks _ _ _ _ hd' hb (by lia) (by simp; lia)
theorem led_for {X : LX} (hX : X.ok) {ln : Int} {tl es L ca bo : Nat} {sz : Int} {tz : Nat} {cv bv : List Value} {ec e2 it : Nat} {vh vp : Value} {pbv : List Value} {bx : List Nat} {eb : Nat} {κ : Nat → Int} {τ : Nat → Nat} (hb : Bx bv bx) (hne : 0 < bx.length) (hl : pbv.length + bx.length < 90000) :
    Tri prog (wd d P b1 b2) 6 T (ledFor P L it) (lexS X ln tl pbv eb [] es ++ [⟨true, L, frm κ τ (ledBase X sz tz ca bo (hpE vh vp))⟩, ⟨true, ca, lst cv ec⟩, ⟨true, bo, lst bv e2⟩, ⟨true, it, itL bo 0⟩]) (ledFΦ X ln tl es L ca bo sz tz (pbv ++ bv) cv bv ec e2) := by
  cases hb with
  | nil => cases hne
  | cons hk t hb =>
    rename_i k vs ks
    simp only [List.length_cons] at hl
    have := hb.length
    refine tri_again hT (lv := 5) rfl (led_g0_ok prog d P b1 b2 hT (by decide) (B k) t) (fun O => led_g0 prog P b1 b2 O X ln tl pbv eb [] es L ca bo κ τ sz tz cv (.str (B k) t :: vs) ec e2 vh vp it 0 (B k) t) (fun _ => k3 rfl hX (by lia)) (fun _ => rfl) fun O => ?_
    rw [show pbv ++ Value.str (B k) t :: vs = (pbv ++ [Value.str (B k) t]) ++ vs by simp]
    exact led_for1 prog d P b1 b2 hT hX vs.length 1 _ vs ks _ _ _ _ rfl hb rfl (by simp; lia)
end
section
variable (prog : Program) (P : Params) (b1 b2 : Bool)
noncomputable def led_p_h : List Hint := [.slot 9, .slot 9, .slot 9, .slot 9]
theorem led_p (O : Orc) (X : LX) (ln : Int) (tl : Nat) (pb : List Value) (eb : Nat) (sg : List Value) (es : Nat) (sz : Int) (tz : Nat) : Seg (run (eE prog P b1 b2 O) 15 (led_p_h) (.root (preZ 123 (fdOf (to123 P)) ⟨[.ref X.I, .int sz tz], []⟩)) ⟨lexS X ln tl pb eb sg es, 0, 0, 0⟩)
    [] (.pure (envOf 123 (fdOf (to123 P)) (O.addr 0))) (lexS X ln tl pb eb sg es ++ [wS (O.addr 0) (frm (ext zeroI 0 [hz prog (mkP P b1 b2) s_line, hz prog (mkP P b1 b2) s_size]) (ext zeroN 0 [(O.tok 0), (O.tok 1)]) [(s_line, .ref (X.1)), (s_size, .int (sz) (tz))])]) := sg5 (by kernel_rfl)
end
section
variable (prog : Program) (d : Source → Nat → Nat) (P : Params) (b1 b2 : Bool) {T : Tops} (hT : ∀ a o, (topT P).get a = some o → T a o) {lv : Nat}
include hT
theorem led_p_ok (hl : 0 ≤ lv) : HsOk prog (wd d P b1 b2) T lv (led_p_h) := trivial
end
theorem led_body : fnB (st 13) = (fnB (st 13)).take 2 ++ [.While (whT ledW) (whB ledW) [] ledW.pos, .For (forT ledF) (forI ledF) (forB ledF) [] ledF.pos, (fnB (st 13)).getD 4 default] := by kernel_rfl
noncomputable def ledR (X : LX) (ln : Int) (tl es : Nat) (bx pb : List Nat) : Result → List Slot → Prop := fun r H' =>
  ∃ bo pbv eb bv e2, Bx pbv (pb ++ bx) ∧ Bx bv bx ∧ r = .ok (.ret (.ref bo)) ∧ H' = lexS X ln tl pbv eb [] es ++ [⟨true, bo, lst bv e2⟩]
section
variable (prog : Program) (d : Source → Nat → Nat) (P : Params) (b1 b2 : Bool) {T : Tops} (hT : ∀ a o, (topT P).get a = some o → T a o)
include hT
theorem led_while {X : LX} (hX : X.ok) {ln : Int} {tl es L ca bo : Nat} {szn : Nat} {tz : Nat} {bx' pb' : List Nat} (n : Nat) {pb : List Nat} {pbv : List Value} {eb ec e2 : Nat} {κ : Nat → Int} {τ : Nat → Nat} (hpb : Bx pbv pb) (hne : 0 < pb.length) (hsz : 0 < szn) (hl : pb.length < 1000) (hn : n < 1000)
    (h : ledGo (n + 1) pb szn [] [] = some (bx', pb')) :
    Tri prog (wd d P b1 b2) 6 T (ledCode P L) (ledH X ln tl pbv eb es L ca bo (frm κ τ (ledBase X szn tz ca bo [])) [] [] ec e2) (ledΦ X ln tl es L ca bo szn tz bx' pb') := by
  cases hpb with
  | nil => cases hne
  | cons hk t hpb =>
    rename_i k pbv pb
    have lpb := hpb.length
    simp only [List.length_cons] at hl
    unfold ledGo at h
    rw [if_pos (.inl (by simpa using hsz))] at h
    have ey : ledY [] k = 0 := by unfold ledY; rw [if_neg (by simp)]
    have eC : ledC [] k = [] := by unfold ledC; rw [if_neg (by simp)]
    simp only [List.headD_cons, List.tail_cons, ey] at h
    have l1 : ([] : List Value).length < 1000000 := by simp
    have l4 : ([] : List Value).length < 100000 := by simp
    have l3 : pbv.length < 90000 := by lia
    have t1 : decide ((↑([] : List Value).length : Int) < (szn : Int)) = true := decide_eq_true (by simp; lia)
    have p1 : decide ((↑(bisN [] k) : Int) < (↑([] : List Value).length : Int)) = false := decide_eq_false (by simp)
    by_cases h0 : k = 0
    · have n1 : (!(B k).cps.toList == (⟨#[]⟩ : Str).cps.toList) = false := by rw [B_ne0 hk]; rw [h0]; rfl
      have eN : ledN [] k = [] := by unfold ledN; rw [if_pos h0, eC]
      rw [eN] at h
      refine tri_again hT (lv := 5) rfl (led_f0_ok prog d P b1 b2 hT (by decide) k [] [] (B 0) 0) (fun O => led_f0 prog P b1 b2 O X ln tl pbv eb [] es L ca bo κ τ szn tz [] [] ec e2 (B k) t k [] [] (B 0) 0) (fun _ => k12 l1 t1 hX l3 rfl .nil hk l4 l1 p1 l1 n1) (fun _ => rfl) fun O => ?_
      exact led_loop prog d P b1 b2 hT hX n pb _ _ _ _ _ _ _ _ _ _ _ _ hpb .nil (Bx.cons (k := 0) (by lia) _ .nil) (by lia) (by simp; lia) (by simp; lia) h
    · have n1 : (!(B k).cps.toList == (⟨#[]⟩ : Str).cps.toList) = true := by rw [B_ne0 hk]; exact decide_eq_true h0
      have eN : ledN [] k = insN [] k := by unfold ledN; rw [if_neg h0, eC]
      rw [eN] at h
      refine tri_again hT (lv := 5) rfl (led_f1_ok prog d P b1 b2 hT (by decide) k [] [] (B 0) 0) (fun O => led_f1 prog P b1 b2 O X ln tl pbv eb [] es L ca bo κ τ szn tz [] [] ec e2 (B k) t k [] [] (B 0) 0) (fun _ => k16 l1 t1 hX l3 rfl .nil hk l4 l1 p1 l1 n1 rfl .nil hk l4) (fun _ => rfl) fun O => ?_
      exact led_loop prog d P b1 b2 hT hX n pb _ _ _ _ _ _ _ _ _ _ _ _ hpb (Bx.nil.ins hk t) (Bx.cons (k := 0) (by lia) _ .nil) (by lia) (by unfold insN; simp; lia) (by simp; lia) h
theorem led_call {X : LX} (hX : X.ok) {ln : Int} {tl es : Nat} {szn : Nat} {tz : Nat} {bx' pb' : List Nat} (n : Nat) {pb : List Nat} {pbv : List Value} {eb : Nat} (hpb : Bx pbv pb) (hne : 0 < pb.length) (hsz : 0 < szn) (hl : pb.length < 1000) (hn : n < 1000) (hx : 0 < bx'.length) (hx2 : pb'.length + bx'.length < 90000)
    (h : ledGo (n + 1) pb szn [] [] = some (bx', pb')) :
    Tri prog (wd d P b1 b2) 7 T (.call (.ref 123) ⟨[.ref X.I, .int szn tz], []⟩) (lexS X ln tl pbv eb [] es) (ledR X ln tl es bx' pb') := by
  refine tri_def hT (lv := 6) (hT 123 (to123 P) rfl) rfl rfl rfl rfl rfl (hT 122 (to122 P) rfl) rfl rfl (hT 2 (to2 P) rfl) rfl (led_p_ok prog d P b1 b2 hT (by decide)) (fun O => led_p prog P b1 b2 O X ln tl pbv eb [] es szn tz) (fun _ => mem0) fun O => ?_
  show Tri _ _ 7 T (.func (fnB (st 13)) (ledEnv P (O.addr 0))) _ _
  rw [led_body]
  refine tri_func (lv := 6) (tx_app ?_)
  refine tx_run hT (execsZ_eq _ _) (led_b_ok prog d P b1 b2 hT (by decide)) (fun O' => led_b prog P b1 b2 O' X ln tl pbv eb [] es (O.addr 0) _ _ szn tz) (fun _ => mem0) fun O' => ⟨rfl, ?_⟩
  refine tx_execs_cons (tx_While (Tri.mono _ _ (led_while prog d P b1 b2 hT hX n (ca := O'.addr 0) (bo := O'.addr 1) hpb hne hsz hl hn h) (by lia) ?_))
  rintro r H' ⟨rfl, pbv', eb', κ, τ, vh, vp, cv, ec, bv, e2, hpb', hbv, rfl⟩
  refine ⟨.next, rfl, ?_⟩
  have lb := hbv.length
  have lp := hpb'.length
  refine tx_execs_cons (tx_For (fun _ => rfl) ?_)
  refine tx_run hT (evalZ_eq _ _) (led_i_ok prog d P b1 b2 hT (by decide)) (fun O2 => led_i prog P b1 b2 O2 X ln tl pbv' eb' [] es (O.addr 0) (O'.addr 0) (O'.addr 1) κ τ szn tz cv bv ec e2 vh vp) (fun _ => mem0) fun O2 => ?_
  refine tx_run hT (pyIterZ_eq _) (led_it_ok prog d P b1 b2 hT (by decide)) (fun O3 => led_it prog P b1 b2 O3 X ln tl pbv' eb' [] es (O.addr 0) (O'.addr 0) (O'.addr 1) κ τ szn tz cv bv ec e2 vh vp) (fun _ => mem0) fun O3 => ?_
  refine Tri.mono _ _ (led_for prog d P b1 b2 hT hX hbv hx (by lia)) (by lia) ?_
  rintro r H' ⟨f, rfl, rfl, eb2, κ2, τ2, vh2, vp2, vb, N, rfl⟩
  refine ⟨.next, rfl, ?_⟩
  refine Tx.drop (tx_run hT (execsZ_eq _ _) (led_r_ok prog d P b1 b2 hT (by decide)) (fun O4 => led_r prog P b1 b2 O4 X ln tl (pbv' ++ bv) eb2 [] es (O.addr 0) (O'.addr 0) (O'.addr 1) κ2 τ2 szn tz cv bv ec e2 vh2 vp2 vb N) (fun _ => mem0) (Ψ := fun f H' => f = .ret (.ref (O'.addr 1)) ∧ H' = _) fun O4 => ⟨rfl, rfl⟩) ?_
  rintro r H' ⟨rfl, rfl⟩
  refine ⟨lexS X ln tl (pbv' ++ bv) eb2 [] es ++ [⟨true, O'.addr 1, lst bv e2⟩], ?_, O'.addr 1, _, eb2, bv, e2, hpb'.append hbv, hbv, rfl, rfl⟩
  exact List.Sublist.append (List.Sublist.refl _) (.cons _ (.cons _ (.cons_cons _ (List.nil_sublist _))))
end
end Mine
namespace Mine
open PySem PySem.W
noncomputable def tupO (x : Str) (tx : Nat) (i : Int) (ti : Nat) : Obj := ⟨.type "tuple", none, .seq ⟨[.str x tx, .int i ti]⟩ 0, #[]⟩
end Mine
namespace Mine
open PySem PySem.W PySem.W.X PyProof.Rows
section
variable {prog : Program} {w : World} {A : Around} {E : Value → Shared → Prop} {s : Shared}
noncomputable def tup2 (v u : Value) : Obj := ⟨.type "tuple", none, .seq ⟨[v, u]⟩ 0, #[]⟩
theorem tlt_gen {a b : Nat} {v1 v2 u1 u2 : Value} (ha : s.heap.get? a = some (tup2 v1 v2)) (hb : s.heap.get? b = some (tup2 u1 u2)) {e1 e2 r1 r2 : Bool} {Q : Value → Shared → Prop}
    (h1 : ∀ (A : Around) (E : Value → Shared → Prop) (Q : Bool → Shared → Prop), Q e1 s → wpAny (model prog w) A (eqBool v1 u1) Q E s)
    (h2 : ∀ (A : Around) (E : Value → Shared → Prop) (Q : Bool → Shared → Prop), Q e2 s → wpAny (model prog w) A (eqBool v2 u2) Q E s)
    (g1 : ∀ (A : Around) (E : Value → Shared → Prop) (Q : Value → Shared → Prop), Q (.bool r1) s → wpAny (model prog w) A (richCompare .Lt v1 u1) Q E s)
    (g2 : ∀ (A : Around) (E : Value → Shared → Prop) (Q : Value → Shared → Prop), Q (.bool r2) s → wpAny (model prog w) A (richCompare .Lt v2 u2) Q E s)
    (h : Q (.bool (if e1 then (if e2 then false else r2) else r1)) s) : wpAny (model prog w) A (PySem.call (.builtin "tuple.__lt__") [.ref a, .ref b]) Q E s := by
  refine wpAny_call_entry F.slot_tuple_lt (T := "tuple") ⟨_, ha, rfl⟩ F.entry_tuple_lt ?_ (F.args_tuple_lt_2 _ _)
  obtain ⟨hp, g, d, tk, os⟩ := s
  have f2 := AutoSeq1.sub_tuple_tuple
  unfold tup2 at ha hb
  wp_walk using AutoSeq1.wpAny_loadPart' ha, AutoSeq1.wpAny_loadPart' hb, wpAny_forIn_list _ (fun (rest : List (Value × Value)) b s' => b.1 = none ∧ s' = ⟨hp, g, d, tk, os⟩ ∧ (rest = [(v1, u1), (v2, u2)] ∨ (rest = [(v2, u2)] ∧ e1 = true) ∨ (rest = [] ∧ e1 = true ∧ e2 = true))) _
  case turn =>
    rintro ⟨y, x⟩ rest b s' ⟨hb', rfl, hz⟩
    rcases hz with hz | ⟨hz, q1⟩ | ⟨hz, _⟩
    · cases hz
      refine wpAny_bind (h1 _ _ _ ?_)
      cases e1 with
      | true => exact wpAny_pure ⟨rfl, rfl, .inr (.inl ⟨rfl, rfl⟩)⟩
      | false =>
        refine wpAny_bind (wpAny_rule (wpAny_bind (g1 _ _ _ ?_)))
        wp_walk
        exact ⟨_, rfl, h⟩
    · cases hz
      refine wpAny_bind (h2 _ _ _ ?_)
      subst q1
      cases e2 with
      | true => exact wpAny_pure ⟨rfl, rfl, .inr (.inr ⟨rfl, rfl, rfl⟩)⟩
      | false =>
        refine wpAny_bind (wpAny_rule (wpAny_bind (g2 _ _ _ ?_)))
        wp_walk
        exact ⟨_, rfl, h⟩
    · cases hz
  case fin =>
    rintro ⟨b1, b2⟩ s' ⟨hb', rfl, hz⟩
    simp only at hb'
    subst hb'
    rcases hz with hz | ⟨hz, q1⟩ | ⟨_, q1, q2⟩
    · cases hz
    · cases hz
    · subst q1 q2
      wp_walk
      exact ⟨_, rfl, h⟩
  case h => exact ⟨rfl, rfl, .inl rfl⟩
/-- two tuples of a text and an int -/
theorem tlt_si {a b : Nat} {x y : Str} {tx ty ti tj : Nat} {i j : Int} (ha : s.heap.get? a = some (tupO x tx i ti)) (hb : s.heap.get? b = some (tupO y ty j tj)) (hu : A.units < cLine) {Q : Value → Shared → Prop}
    (h : Q (.bool (if x == y then (if i == j then false else decide (i < j)) else decide (x.cps.toList < y.cps.toList))) s) : wpAny (model prog w) A (compareOp .Lt (.ref a) (.ref b)) Q E s := by
  show wpAny _ _ (richCompare .Lt (.ref a) (.ref b)) Q E s
  refine wpAny_richCompare_same_room (T := "tuple") ⟨_, ha, rfl⟩ ⟨_, hb, rfl⟩ F.slot_tuple_lt ?_ hu
  refine tlt_gen (v1 := .str x tx) (v2 := .int i ti) (u1 := .str y ty) (u2 := .int j tj) (e1 := x == y) (e2 := i == j) (r1 := decide (x.cps.toList < y.cps.toList)) (r2 := decide (i < j)) ha hb (fun A E Q h => eqBool_str h) (fun A E Q h => wpAny_eqBool_int h)
    (fun A E Q h => (show wpAny _ _ (compareOp .Lt _ _) _ _ _ from lt_str h)) (fun A E Q h => (show wpAny _ _ (compareOp .Lt _ _) _ _ _ from lt_int h)) ⟨by (intro e; cases e), ?_⟩
  simpa using h
end
end Mine
namespace Mine
noncomputable abbrev Bl := Nat × Nat
noncomputable def lt2 (a b : Bl) : Bool := Nat.blt a.1 b.1 || (Nat.beq a.1 b.1 && Nat.blt a.2 b.2)
noncomputable def gB (hs : List Bl) (i : Nat) : Bl := hs.getD i (0, 0)
/-- _siftdown's loop and end -/
noncomputable def sdGo : Nat → List Bl → Bl → Nat → Nat → List Bl
  | 0, hs, x, s, p => hs.set p x
  | n + 1, hs, x, s, p => if s < p then (if lt2 x (gB hs ((p - 1) / 2)) then sdGo n (hs.set p (gB hs ((p - 1) / 2))) x s ((p - 1) / 2) else hs.set p x) else hs.set p x
noncomputable def sdN (hs : List Bl) (s p : Nat) : List Bl := sdGo p hs (gB hs p) s p
noncomputable def suC (hs : List Bl) (p : Nat) : Nat := if 2 * p + 2 < hs.length && !lt2 (gB hs (2 * p + 1)) (gB hs (2 * p + 2)) then 2 * p + 2 else 2 * p + 1
/-- _siftup's loop -/
noncomputable def suGo : Nat → List Bl → Nat → List Bl × Nat
  | 0, hs, p => (hs, p)
  | n + 1, hs, p => if 2 * p + 1 < hs.length then suGo n (hs.set p (gB hs (suC hs p))) (suC hs p) else (hs, p)
noncomputable def suN (hs : List Bl) (p : Nat) : List Bl :=
  sdN ((suGo hs.length hs p).1.set (suGo hs.length hs p).2 (gB hs p)) p (suGo hs.length hs p).2
noncomputable def hfyGo : Nat → List Bl → List Bl
  | 0, hs => hs
  | n + 1, hs => hfyGo n (suN hs n)
noncomputable def hfyN (hs : List Bl) : List Bl := hfyGo (hs.length / 2) hs
noncomputable def popN (hs : List Bl) : List Bl := if hs.length ≤ 1 then [] else suN (hs.dropLast.set 0 (gB hs (hs.length - 1))) 0
noncomputable def gN (l : List Nat) (i : Nat) : Nat := l.getD i 0
noncomputable def spot : Nat → List Nat → Nat → Option Nat
  | 0, _, _ => none
  | n + 1, l, i => if i < l.length then (if gN l i = 0 then some i else spot n l (i + 1)) else none
noncomputable def lpGo : Nat → List Bl → List Nat → Option (List Nat)
  | 0, _, _ => none
  | n + 1, bl, bx => if bl.length = 0 then some bx else
    match spot 100 (bx.set (gB bl 0).2 0) ((gB bl 0).2 + 1) with
    | none => none
    | some i => lpGo n (popN bl) ((bx.set (gB bl 0).2 0).set i (gB bl 0).1)
noncomputable def ballsFrom : List Nat → Nat → List Bl
  | [], _ => []
  | c :: r, k => if c = 0 then ballsFrom r (k + 1) else (c, k) :: ballsFrom r (k + 1)
noncomputable def lpN (strip : List Nat) : Option (List Nat) := lpGo 40 (hfyN (ballsFrom strip 0)) (strip ++ List.replicate (ballsFrom strip 0).length 0)
/-- one row -/
noncomputable def tbRow (row : List Nat) (ball : Nat) : List Nat × Nat :=
  if ball = 0 then (row, 0) else if bisN row ball < row.length then (row.set (bisN row ball) ball, gN row (bisN row ball)) else (row ++ [ball], 0)
noncomputable def tbIn : List (List Nat) → Nat → List (List Nat) × Nat
  | [], b => ([], b)
  | r :: rs, b => ((tbRow r b).1 :: (tbIn rs (tbRow r b).2).1, (tbIn rs (tbRow r b).2).2)
noncomputable def tbN : List Nat → List (List Nat) → List (List Nat)
  | [], t => t
  | b :: r, t => tbN r (if (tbIn t b).2 = 0 then (tbIn t b).1 else (tbIn t b).1 ++ [[(tbIn t b).2]])
/-- one round: due from boxes, boxes from pb -/
noncomputable def rnd (boxes : List Nat) : Option (List Nat) := match ledGo 60 boxes boxes.length [] [], lpN boxes with
  | some (bx, []), some due => if due.take bx.length == bx && (due.drop bx.length).all (· == 0) && Nat.blt boxes.length 40 && Nat.blt 0 bx.length && Nat.blt bx.length 40 then some bx else none
  | _, _ => none
noncomputable def chk (strip : List Nat) : Bool := match rnd strip with
  | some b1 => match rnd b1 with
    | some b2 => tbN b2 [] == tbN strip [] && Nat.blt 0 b2.length && Nat.blt b2.length 40
    | none => false
  | none => false
noncomputable def tails : List (List Nat) := [[]] ++ (List.range 5).map (fun a => [a]) ++ (List.range 5).flatMap (fun a => (List.range 5).map fun b => [a, b]) ++ (List.range 5).flatMap (fun a => (List.range 5).flatMap fun b => (List.range 5).map fun c => [a, b, c])
end Mine
namespace Mine
open PySem PySem.W PySem.W.X PyProof.Rows
/-- item by item -/
noncomputable def Al {α β : Type} (R : α → β → Prop) (vs : List α) (bs : List β) : Prop := vs.length = bs.length ∧ ∀ (i : Nat) v b, vs[i]? = some v → bs[i]? = some b → R v b
section
variable {α β : Type} {R : α → β → Prop} {vs us : List α} {bs cs : List β}
theorem Al.nil : Al R [] [] := ⟨rfl, fun i v b h => by simp at h⟩
theorem Al.cons {v : α} {b : β} (h : R v b) (r : Al R vs bs) : Al R (v :: vs) (b :: bs) := ⟨by simp [r.1], fun i v' b' h1 h2 => by
  cases i with
  | zero => simp at h1 h2; subst h1 h2; exact h
  | succ n => exact r.2 n v' b' (by simpa using h1) (by simpa using h2)⟩
theorem Al.mono {R' : α → β → Prop} (hi : ∀ v b, R v b → R' v b) (h : Al R vs bs) : Al R' vs bs := ⟨h.1, fun i v b h1 h2 => hi v b (h.2 i v b h1 h2)⟩
theorem Al.get (h : Al R vs bs) {i : Nat} (hi : i < bs.length) (d : β) : ∃ v, vs[i]? = some v ∧ R v (bs.getD i d) := by
  have hv : i < vs.length := by rw [h.1]; exact hi
  refine ⟨vs[i], List.getElem?_eq_getElem hv, h.2 i _ _ (List.getElem?_eq_getElem hv) ?_⟩
  rw [List.getD_eq_getElem?_getD, List.getElem?_eq_getElem hi]; rfl
theorem Al.set (h : Al R vs bs) (i : Nat) {v : α} {b : β} (hr : R v b) : Al R (vs.set i v) (bs.set i b) := ⟨by simp [h.1], fun j v' b' h1 h2 => by
  rw [List.getElem?_set] at h1 h2
  by_cases hij : i = j
  · rw [if_pos hij] at h1 h2
    split at h1
    · split at h2
      · cases h1; cases h2; exact hr
      · cases h2
    · cases h1
  · rw [if_neg hij] at h1 h2
    exact h.2 j v' b' h1 h2⟩
theorem Al.dropLast (h : Al R vs bs) : Al R vs.dropLast bs.dropLast := ⟨by simp [h.1], fun i v b h1 h2 => by
  rw [List.getElem?_dropLast] at h1 h2
  split at h1
  · split at h2
    · exact h.2 i v b h1 h2
    · cases h2
  · cases h1⟩
theorem Al.append (h : Al R vs bs) (h' : Al R us cs) : Al R (vs ++ us) (bs ++ cs) := ⟨by simp [h.1, h'.1], fun i v b h1 h2 => by
  rcases Nat.lt_or_ge i vs.length with hl | hl
  · rw [List.getElem?_append_left hl] at h1
    rw [List.getElem?_append_left (by rw [← h.1]; exact hl)] at h2
    exact h.2 i v b h1 h2
  · rw [List.getElem?_append_right hl] at h1
    rw [List.getElem?_append_right (by rw [← h.1]; exact hl), ← h.1] at h2
    exact h'.2 _ v b h1 h2⟩
end
/-- a ball, as it lies -/
noncomputable def Rb (T : Tops) (v : Value) (b : Bl) : Prop := ∃ a t t2, v = .ref a ∧ b.1 < 5 ∧ T a (tupO (B b.1) t (b.2 : Nat) t2)
noncomputable abbrev HB (T : Tops) (vs : List Value) (bs : List Bl) : Prop := Al (Rb T) vs bs
theorem str_beq (x y : Str) : (x == y) = (x.cps.toList == y.cps.toList) := by
  rw [Bool.eq_iff_iff, beq_iff_eq, beq_iff_eq]
  constructor
  · rintro rfl; rfl
  · intro h
    cases x with | mk a => cases y with | mk b => cases a with | mk a => cases b with | mk b => simp at h; rw [h]
theorem lt2_eq {p q : Bl} (hp : p.1 < 5) (hq : q.1 < 5) : (if B p.1 == B q.1 then (if ((p.2 : Nat) : Int) == ((q.2 : Nat) : Int) then false else decide (((p.2 : Nat) : Int) < ((q.2 : Nat) : Int))) else decide ((B p.1).cps.toList < (B q.1).cps.toList)) = lt2 p q := by
  rw [str_beq, B_eq hp hq, B_lt hp hq]
  have nb : ∀ a b : Nat, Nat.blt a b = decide (a < b) := fun a b => by
    rw [Bool.eq_iff_iff, decide_eq_true_iff]; exact iff_of_eq Nat.blt_eq
  have ne : ∀ a b : Nat, Nat.beq a b = decide (a = b) := fun a b => by
    rw [Bool.eq_iff_iff, decide_eq_true_iff]; exact iff_of_eq Nat.beq_eq
  unfold lt2
  rw [nb, nb, ne]
  by_cases h : p.1 = q.1
  · rw [decide_eq_true h, if_pos rfl, h]
    by_cases h2 : p.2 = q.2
    · rw [h2]; simp
    · have h3 : ¬ ((p.2 : Nat) : Int) = ((q.2 : Nat) : Int) := by lia
      rw [if_neg (by simpa using h3)]; simp
  · rw [decide_eq_false h, if_neg (by simp)]; simp
section
variable {prog : Program} {w : World} {T : Tops} {lv : Nat} {H : List Slot}
theorem tx_tlt {v u : Value} {p q : Bl} (hv : Rb T v p) (hu : Rb T u q) : Tx prog w lv T (compareOp .Lt v u) H (fun r H' => r = .bool (lt2 p q) ∧ H' = H) := fun A s hA hS => by
  obtain ⟨a, t, t2, rfl, hp, ha⟩ := hv
  obtain ⟨b, u1, u2, rfl, hq, hb⟩ := hu
  refine tlt_si (hS.top _ _ ha) (hS.top _ _ hb) (by have := hA.units; unfold cLine; lia) ⟨H, ⟨?_, rfl⟩, Post.refl hS⟩
  rw [lt2_eq hp hq]
variable {env : Env}
theorem tx_isTrue_not {x : PySem.Expr} {pos : Pos} {whole : Sem Value} {Ψ : Bool → List Slot → Prop} (h : Tx prog w lv T (isTrue x env (eval x env)) H (fun c H' => Ψ (!c) H')) : Tx prog w lv T (isTrue (.UnaryOp .Not x pos) env whole) H Ψ := fun A s hA hS =>
  isTrue_not (h.use hA (Post.refl hS) fun c H1 s1 h1 hp => ⟨H1, h1, hp⟩)
theorem tx_isTrue_and2 {x y : PySem.Expr} {pos : Pos} {whole : Sem Value} {Ψ : Bool → List Slot → Prop} (h : Tx prog w lv T (isTrue x env (eval x env)) H (fun c H' => if c then Tx prog w lv T (isTrue y env (eval y env)) H' Ψ else Ψ false H')) : Tx prog w lv T (isTrue (.BoolOp .And [x, y] pos) env whole) H Ψ := fun A s hA hS =>
  isTrue_and (h.use hA (Post.refl hS) fun c H1 s1 h1 hp => by
    cases c with
    | false => exact ⟨H1, h1, hp⟩
    | true => exact isTrue_and (Tx.use h1 hA hp fun c2 H2 s2 h2 hp2 => by
        cases c2 with
        | false => exact ⟨H2, h2, hp2⟩
        | true => exact isTrue_and_nil ⟨H2, h2, hp2⟩))
theorem tx_isTrue_or2 {x y : PySem.Expr} {pos : Pos} {whole : Sem Value} {Ψ : Bool → List Slot → Prop} (h : Tx prog w lv T (isTrue x env (eval x env)) H (fun c H' => if c then Ψ true H' else Tx prog w lv T (isTrue y env (eval y env)) H' Ψ)) : Tx prog w lv T (isTrue (.BoolOp .Or [x, y] pos) env whole) H Ψ := fun A s hA hS =>
  isTrue_or (h.use hA (Post.refl hS) fun c H1 s1 h1 hp => by
    cases c with
    | true => exact ⟨H1, h1, hp⟩
    | false => exact isTrue_or (Tx.use h1 hA hp fun c2 H2 s2 h2 hp2 => by
        cases c2 with
        | true => exact ⟨H2, h2, hp2⟩
        | false => exact isTrue_or_nil ⟨H2, h2, hp2⟩))
abbrev kBool (Ψ : Bool → List Slot → Prop) : Value → List Slot → Prop := fun c H3 => ∃ b, c = .bool b ∧ Ψ b H3
noncomputable abbrev kCmp2 (prog : Program) (w : World) (lv : Nat) (T : Tops) (op : CmpOp) (a : Value) (Ψ : Bool → List Slot → Prop) : Value → List Slot → Prop := fun b H2 => Tx prog w lv T (compareOp op a b) H2 (kBool Ψ)
noncomputable abbrev kCmp (prog : Program) (w : World) (lv : Nat) (T : Tops) (op : CmpOp) (r : PySem.Expr) (env : Env) (Ψ : Bool → List Slot → Prop) : Value → List Slot → Prop := fun a H1 => Tx prog w lv T (eval r env) H1 (kCmp2 prog w lv T op a Ψ)
/-- a comparison that gives a bool -/
theorem tx_isTrue_cmp {l r : PySem.Expr} {op : CmpOp} {pos : Pos} {whole : Sem Value} {Ψ : Bool → List Slot → Prop} (hm : behindInMarks op r = false)
    (h : Tx prog w lv T (eval l env) H (kCmp prog w lv T op r env Ψ)) : Tx prog w lv T (isTrue (.Compare l [op] [r] pos) env whole) H Ψ := fun A s hA hS =>
  wpAny_isTrue_Compare1 (h.use hA (Post.refl hS) fun a H1 s1 h1 hp => Tx.use (Ψ := kCmp2 prog w lv T op a Ψ) h1 hA hp fun b H2 s2 h2 hp2 => Tx.use (Ψ := kBool Ψ) h2 hA hp2 fun c H3 s3 ⟨b, e, h3⟩ hp3 => by
    subst e
    exact wpAny_truthy_bool ⟨H3, h3, hp3⟩) hm
end
end Mine
namespace Mine
open PySem PySem.W PySem.W.X PyProof.Rows PySem.Calls
noncomputable def is_int_rshift (id : String) : Bool := S.eqLit 1954753560319954401256180983099242 id
theorem is_int_rshift_eq {id : String} (h : is_int_rshift id = true) : id = "int.__rshift__" := eqLit_iff (by kernel_rfl) h
noncomputable def hShrO (H : List Slot) (i : Int) (j : Int) : HOut := ⟨[], [], [], [0 ≤ i ∧ j = 1], 0, 1, 0, fun _ ts _ => .ok (.ret (.int (i / 2) (ts.getD 0 0))), fun _ _ _ => H⟩
noncomputable def hShr : Handler := fun c H => bII is_int_rshift c (fun i _ j _ => some (hShrO H i j))
section
variable (prog : Program) (w : World) {T : Tops}
theorem shr_calls {A : Around} {s : Shared} {a : Int} {t u : Nat} {Q : Value → Shared → Prop} {E : Value → Shared → Prop} (h0 : 0 ≤ a) (h : Q (.int (a / 2) s.toks) { s with toks := s.toks + 1 }) : wpAny (model prog w) A (PySem.call (.builtin "int.__rshift__") [.int a t, .int 1 u]) Q E s := by
  refine wpAny_call_entry F.slot_int_rshift (typeIs_int s a t) F.entry_int_rshift ?_ (F.args_int_rshift_2 _ _)
  show wpAny _ _ (if (1 : Int) ≥ (Builtin.Int.intBits a : Int) then _ else _) _ _ s
  by_cases hb : (1 : Int) ≥ (Builtin.Int.intBits a : Int)
  · rw [if_pos hb]
    have e : (if a < 0 then (-1 : Int) else 0) = a / 2 := by rw [if_neg (Int.not_lt.mpr h0), half_of_few_bits h0 hb]
    refine wpAny_bind (wpAny_rule ?_)
    show wpAny _ _ ((do ret (← mkInt (if a < 0 then (-1 : Int) else 0))) >>= _) _ _ s
    rw [e]
    exact wpAny_bind (wpAny_bind (wpAny_mkInt (wpAny_pure (wpAny_pure ⟨_, rfl, h⟩))))
  · rw [if_neg hb]
    show wpAny _ _ (do ret (← mkInt (a.fdiv (2 ^ (1 : Int).toNat)))) _ _ s
    rw [fdiv_two]
    exact wpAny_bind (wpAny_mkInt (wpAny_pure ⟨_, rfl, h⟩))
theorem hShr_ok : HOk prog w T 0 hShr := by
  intro c H out e hi A s hA hS
  unfold hShr at e
  refine bII_elim (P := fun c => CallsTo _ _ A c s _) e fun id i ti j tj hid e1 => ?_
  clear e
  cases e1
  obtain ⟨h1, h2, hh, h3⟩ := hi
  obtain ⟨h0, rfl⟩ := h3 _ (.head _)
  clear h1 h2 hh h3
  rw [is_int_rshift_eq hid]
  refine (CallsTo.of_call prog w (R := fun x s' => x = .int (i / 2) s.toks ∧ s' = _) (shr_calls prog w h0 ⟨rfl, rfl⟩)).mono prog w ?_
  rintro r s' ⟨x, rfl, rfl, rfl⟩
  exact ⟨[], [s.toks], [], rfl, rfl, rfl, rfl, (Post.refl hS).toks (Nat.le_succ _)⟩
end
noncomputable def is_int_mul (id : String) : Bool := S.eqLit 116512245094328231196454762 id
theorem is_int_mul_eq {id : String} (h : is_int_mul id = true) : id = "int.__mul__" := eqLit_iff (by kernel_rfl) h
noncomputable def hMul2O (H : List Slot) (i : Int) (j : Int) : HOut := ⟨[], [], [], [i = 2], 0, 1, 0, fun _ ts _ => .ok (.ret (.int (2 * j) (ts.getD 0 0))), fun _ _ _ => H⟩
noncomputable def hMul2 : Handler := fun c H => bII is_int_mul c (fun i _ j _ => some (hMul2O H i j))
section
variable (prog : Program) (w : World) {T : Tops}
theorem mul2_calls {A : Around} {s : Shared} {a : Int} {t u : Nat} {Q : Value → Shared → Prop} {E : Value → Shared → Prop} (h : Q (.int (2 * a) s.toks) { s with toks := s.toks + 1 }) : wpAny (model prog w) A (PySem.call (.builtin "int.__mul__") [.int 2 t, .int a u]) Q E s := by
  refine wpAny_call_entry F.slot_int_mul (typeIs_int s 2 t) F.entry_int_mul ?_ (F.args_int_mul_2 _ _)
  have e : Builtin.«int.__mul__» ⟨[.int 2 t, .int a u], []⟩ = (do ret (← mkInt (2 * a))) := by
    kernel_rfl
  rw [e]
  exact wpAny_bind (wpAny_mkInt (wpAny_pure ⟨_, rfl, h⟩))
theorem hMul2_ok : HOk prog w T 0 hMul2 := by
  intro c H out e hi A s hA hS
  unfold hMul2 at e
  refine bII_elim (P := fun c => CallsTo _ _ A c s _) e fun id i ti j tj hid e1 => ?_
  clear e
  cases e1
  obtain ⟨h1, h2, hh, h3⟩ := hi
  have e0 : i = 2 := h3 _ (.head _)
  clear h1 h2 hh h3
  rw [is_int_mul_eq hid]
  subst e0
  refine (CallsTo.of_call prog w (R := fun x s' => x = .int (2 * j) s.toks ∧ s' = _) (mul2_calls prog w ⟨rfl, rfl⟩)).mono prog w ?_
  rintro r s' ⟨x, rfl, rfl, rfl⟩
  exact ⟨[], [s.toks], [], rfl, rfl, rfl, rfl, (Post.refl hS).toks (Nat.le_succ _)⟩
end
end Mine
namespace Mine
open PySem PySem.W
noncomputable def ifT (s : Stmt) : PySem.Expr := ((sV s).1.getD 0 default)
noncomputable def cmL (e : PySem.Expr) : PySem.Expr := ((xV e).1.getD 0 default)
noncomputable def cmR (e : PySem.Expr) : PySem.Expr := ((xV e).1.getD 1 default)
noncomputable def stAt (i j : Nat) : Stmt := (fnB (st i)).getD j default
noncomputable def sdW : Stmt := stAt 6 1
noncomputable def sdI : Stmt := (whB sdW).getD 2 default
noncomputable def sdEnv (P : Params) (L : Nat) : Env := envOf 53 (fdOf (to53 P)) L
noncomputable def sdCode (P : Params) (L : Nat) : Code := .whileLoop (whT sdW) (whB sdW) [] (sdEnv P L)
end Mine
namespace Mine
open PySem PySem.W PySem.W.X PyProof.Rows
noncomputable abbrev fSdS0 (l : Nat) (s : Int) (ts : Nat) (p : Int) (tp : Nat) (x : Nat) (r : List (Str × Value)) : List (Str × Value) := (s_heap, .ref l) :: (s_startpos, .int (s) (ts)) :: (s_pos, .int (p) (tp)) :: (s_newitem, .ref x) :: r
noncomputable abbrev fSdS1 (l : Nat) (s : Int) (ts : Nat) (p : Int) (tp : Nat) (x : Nat) (r : List (Str × Value)) : List (Str × Value) := (s_heap, .ref l) :: (s_startpos, .int s ts) :: (s_pos, .int p tp) :: (s_newitem, .ref x) :: r
section
variable (prog : Program) (P : Params) (b1 b2 : Bool)
variable {l L ep ts tp x y tq : Nat} {κ : Nat → Int} {τ : Nat → Nat} {vs : List Value} {s p q : Int} {w1 w2 : Value} {Φ : Result → List Slot → Prop}
noncomputable def sd_p_h : List Hint := [.slot 1, .slot 1, .slot 1, .slot 1, .slot 1, .slot 1]
theorem sd_p (O : Orc) (l : Nat) (vs : List Value) (ep : Nat) (s p : Int) (ts tp : Nat) : Seg (run (eE prog P b1 b2 O) 19 sd_p_h (.root (preZ 53 (fdOf (to53 P)) ⟨[.ref l, .int s ts, .int p tp], []⟩)) ⟨[wS l (lst vs ep)], 0, 0, 0⟩)
    [] (.pure (envOf 53 (fdOf (to53 P)) (O.addr 0))) [wS l (lst vs ep), wS (O.addr 0) (frm (ext zeroI 0 [hz prog (mkP P b1 b2) s_heap, hz prog (mkP P b1 b2) s_startpos, hz prog (mkP P b1 b2) s_pos]) (ext zeroN 0 [O.tok 0, O.tok 1, O.tok 2]) [(s_heap, .ref l), (s_startpos, .int (s) (ts)), (s_pos, .int (p) (tp))])] := sg5 (by kernel_rfl)
noncomputable def sd_a_h (x : Nat) : List Hint := [.slot 1, .slot 1, .slot 0, .slot 0, .slot 0, .sum (hLGet 0 (.ref x)), .slot 1, .slot 1]
theorem sd_a (O : Orc) : Seg (run (eE prog P b1 b2 O) 23 (sd_a_h x) (.root (execsZ [stAt 6 0] (sdEnv P L))) ⟨[wS l (lst vs ep), wS L (frm κ τ [(s_heap, .ref l), (s_startpos, .int s ts), (s_pos, .int p tp)])], 0, 0, 0⟩)
    [(0 : Int) ≤ p ∧ p < (1000000 : Int), vs[p.toNat]? = some (Value.ref x)] (.pure (Flow.next)) [wS l (lst vs ep), wS L (frm (ext κ 3 [hz prog (mkP P b1 b2) s_newitem]) (ext τ 3 [O.tok 0]) (fSdS0 l s ts p tp x []))] := sg5 (by kernel_rfl)
noncomputable def sd_t0t_h : List Hint := [.slot 1, .slot 1, .sum (hIGt true)]
theorem sd_t0t (O : Orc) : Seg (run (eE prog P b1 b2 O) 13 sd_t0t_h (.root (isTrueZ (whT sdW) (sdEnv P L) (evalZ (whT sdW) (sdEnv P L)))) ⟨[wS l (lst vs ep), wS L (frm κ τ (fSdS1 l s ts p tp x []))], 0, 0, 0⟩)
    [decide (s < p) = true] (.pure (true)) [wS l (lst vs ep), wS L (frm κ τ (fSdS0 l s ts p tp x []))] := by cases b2 <;> exact sg5 (by kernel_rfl)
noncomputable def sd_t0f_h : List Hint := [.slot 1, .slot 1, .sum (hIGt false)]
theorem sd_t0f (O : Orc) : Seg (run (eE prog P b1 b2 O) 13 sd_t0f_h (.root (isTrueZ (whT sdW) (sdEnv P L) (evalZ (whT sdW) (sdEnv P L)))) ⟨[wS l (lst vs ep), wS L (frm κ τ (fSdS1 l s ts p tp x []))], 0, 0, 0⟩)
    [decide (s < p) = false] (.pure (false)) [wS l (lst vs ep), wS L (frm κ τ (fSdS0 l s ts p tp x []))] := by cases b2 <;> exact sg5 (by kernel_rfl)
noncomputable def sd_b0_h (y : Nat) : List Hint := [.slot 1, .call, .sum (hShr), .slot 1, .slot 1, .slot 1, .slot 1, .slot 0, .slot 0, .slot 0, .sum (hLGet 0 (.ref y)), .slot 1, .slot 1]
theorem sd_b0 (O : Orc) : Seg (run (eE prog P b1 b2 O) 42 (sd_b0_h y) (.root (execsZ ((whB sdW).take 2) (sdEnv P L))) ⟨[wS l (lst vs ep), wS L (frm κ τ (fSdS1 l s ts p tp x []))], 0, 0, 0⟩)
    [(0 : Int) ≤ p - (1 : Int) ∧ (1 : Int) = (1 : Int), (0 : Int) ≤ (p - (1 : Int)) / (2 : Int) ∧ (p - (1 : Int)) / (2 : Int) < (1000000 : Int), vs[((p - (1 : Int)) / (2 : Int)).toNat]? = some (Value.ref y)] (.pure (Flow.next)) [wS l (lst vs ep), wS L (frm (ext κ 4 [hz prog (mkP P b1 b2) s_parentpos, hz prog (mkP P b1 b2) s_parent]) (ext τ 4 [O.tok 4, O.tok 5]) (fSdS0 l s ts p tp x [(s_parentpos, .int ((p - (1 : Int)) / (2 : Int)) (O.tok 3)), (s_parent, .ref y)]))] := sg5 (by kernel_rfl)
noncomputable def sd_e0_h : List Hint := [.slot 1, .slot 1, .slot 1, .slot 0, .slot 0, .sum (hLSet 0)]
theorem sd_e0 (O : Orc) : Seg (run (eE prog P b1 b2 O) 18 sd_e0_h (.root (execsZ [stAt 6 2] (sdEnv P L))) ⟨[wS l (lst vs ep), wS L (frm κ τ (fSdS1 l s ts p tp x []))], 0, 0, 0⟩)
    [(0 : Int) ≤ p ∧ p < (↑vs.length : Int) ∧ vs.length < 1000000] (.pure (Flow.next)) [wS l (lst (vs.set p.toNat (Value.ref x)) (ep)), wS L (frm κ τ (fSdS0 l s ts p tp x []))] := sg5 (by kernel_rfl)
noncomputable def sd_t1t_h : List Hint := [.slot 1, .slot 1, .sum (hIGt true)]
theorem sd_t1t (O : Orc) : Seg (run (eE prog P b1 b2 O) 13 sd_t1t_h (.root (isTrueZ (whT sdW) (sdEnv P L) (evalZ (whT sdW) (sdEnv P L)))) ⟨[wS l (lst vs ep), wS L (frm κ τ (fSdS1 l s ts p tp x [(s_parentpos, w1), (s_parent, w2)]))], 0, 0, 0⟩)
    [decide (s < p) = true] (.pure (true)) [wS l (lst vs ep), wS L (frm κ τ (fSdS0 l s ts p tp x [(s_parentpos, w1), (s_parent, w2)]))] := by cases b2 <;> exact sg5 (by kernel_rfl)
noncomputable def sd_t1f_h : List Hint := [.slot 1, .slot 1, .sum (hIGt false)]
theorem sd_t1f (O : Orc) : Seg (run (eE prog P b1 b2 O) 13 sd_t1f_h (.root (isTrueZ (whT sdW) (sdEnv P L) (evalZ (whT sdW) (sdEnv P L)))) ⟨[wS l (lst vs ep), wS L (frm κ τ (fSdS1 l s ts p tp x [(s_parentpos, w1), (s_parent, w2)]))], 0, 0, 0⟩)
    [decide (s < p) = false] (.pure (false)) [wS l (lst vs ep), wS L (frm κ τ (fSdS0 l s ts p tp x [(s_parentpos, w1), (s_parent, w2)]))] := by cases b2 <;> exact sg5 (by kernel_rfl)
noncomputable def sd_b1_h (y : Nat) : List Hint := [.slot 1, .call, .sum (hShr), .slot 1, .slot 1, .slot 1, .slot 1, .slot 0, .slot 0, .slot 0, .sum (hLGet 0 (.ref y)), .slot 1, .slot 1]
theorem sd_b1 (O : Orc) : Seg (run (eE prog P b1 b2 O) 42 (sd_b1_h y) (.root (execsZ ((whB sdW).take 2) (sdEnv P L))) ⟨[wS l (lst vs ep), wS L (frm κ τ (fSdS1 l s ts p tp x [(s_parentpos, w1), (s_parent, w2)]))], 0, 0, 0⟩)
    [(0 : Int) ≤ p - (1 : Int) ∧ (1 : Int) = (1 : Int), (0 : Int) ≤ (p - (1 : Int)) / (2 : Int) ∧ (p - (1 : Int)) / (2 : Int) < (1000000 : Int), vs[((p - (1 : Int)) / (2 : Int)).toNat]? = some (Value.ref y)] (.pure (Flow.next)) [wS l (lst vs ep), wS L (frm κ τ (fSdS0 l s ts p tp x [(s_parentpos, .int ((p - (1 : Int)) / (2 : Int)) (O.tok 3)), (s_parent, .ref y)]))] := sg5 (by kernel_rfl)
noncomputable def sd_e1_h : List Hint := [.slot 1, .slot 1, .slot 1, .slot 0, .slot 0, .sum (hLSet 0)]
theorem sd_e1 (O : Orc) : Seg (run (eE prog P b1 b2 O) 18 sd_e1_h (.root (execsZ [stAt 6 2] (sdEnv P L))) ⟨[wS l (lst vs ep), wS L (frm κ τ (fSdS1 l s ts p tp x [(s_parentpos, w1), (s_parent, w2)]))], 0, 0, 0⟩)
    [(0 : Int) ≤ p ∧ p < (↑vs.length : Int) ∧ vs.length < 1000000] (.pure (Flow.next)) [wS l (lst (vs.set p.toNat (Value.ref x)) (ep)), wS L (frm κ τ (fSdS0 l s ts p tp x [(s_parentpos, w1), (s_parent, w2)]))] := sg5 (by kernel_rfl)
noncomputable def sd_n_h : List Hint := [.slot 1]
theorem sd_n (O : Orc) : Seg (run (eE prog P b1 b2 O) 8 sd_n_h (.root (evalZ (cmL (ifT sdI)) (sdEnv P L))) ⟨[wS l (lst vs ep), wS L (frm κ τ (fSdS1 l s ts p tp x [(s_parentpos, .int q tq), (s_parent, .ref y)]))], 0, 0, 0⟩)
    [] (.pure (.ref x)) [wS l (lst vs ep), wS L (frm κ τ (fSdS0 l s ts p tp x [(s_parentpos, .int (q) (tq)), (s_parent, .ref y)]))] := sg5 (by kernel_rfl)
noncomputable def sd_q_h : List Hint := [.slot 1]
theorem sd_q (O : Orc) : Seg (run (eE prog P b1 b2 O) 8 sd_q_h (.root (evalZ (cmR (ifT sdI)) (sdEnv P L))) ⟨[wS l (lst vs ep), wS L (frm κ τ (fSdS1 l s ts p tp x [(s_parentpos, .int q tq), (s_parent, .ref y)]))], 0, 0, 0⟩)
    [] (.pure (.ref y)) [wS l (lst vs ep), wS L (frm κ τ (fSdS0 l s ts p tp x [(s_parentpos, .int (q) (tq)), (s_parent, .ref y)]))] := sg5 (by kernel_rfl)
noncomputable def sd_c_h : List Hint := [.slot 1, .slot 1, .slot 1, .slot 0, .slot 0, .sum (hLSet 0), .slot 1, .slot 1, .slot 1]
theorem sd_c (O : Orc) : Seg (run (eE prog P b1 b2 O) 29 sd_c_h (.root (execsZ (ifB sdI) (sdEnv P L))) ⟨[wS l (lst vs ep), wS L (frm κ τ (fSdS1 l s ts p tp x [(s_parentpos, .int q tq), (s_parent, .ref y)]))], 0, 0, 0⟩)
    [(0 : Int) ≤ p ∧ p < (↑vs.length : Int) ∧ vs.length < 1000000] (.pure (Flow.cont)) [wS l (lst (vs.set p.toNat (Value.ref y)) (ep)), wS L (frm κ τ [(s_heap, .ref l), (s_startpos, .int (s) (ts)), (s_pos, .int (q) (tq)), (s_newitem, .ref x), (s_parentpos, .int (q) (tq)), (s_parent, .ref y)])] := sg5 (by kernel_rfl)
noncomputable def sd_k_h : List Hint := []
theorem sd_k (O : Orc) : Seg (run (eE prog P b1 b2 O) 7 sd_k_h (.root (execsZ [(whB sdW).getD 3 default] (sdEnv P L))) ⟨[wS l (lst vs ep), wS L (frm κ τ (fSdS1 l s ts p tp x [(s_parentpos, .int q tq), (s_parent, .ref y)]))], 0, 0, 0⟩)
    [] (.pure (Flow.brk)) [wS l (lst vs ep), wS L (frm κ τ (fSdS0 l s ts p tp x [(s_parentpos, .int (q) (tq)), (s_parent, .ref y)]))] := sg5 (by kernel_rfl)
end
section
variable (prog : Program) (d : Source → Nat → Nat) (P : Params) (b1 b2 : Bool) {T : Tops} (hT : ∀ a o, (topT P).get a = some o → T a o) {lv : Nat}
include hT
variable {l L ep ts tp x y tq : Nat} {κ : Nat → Int} {τ : Nat → Nat} {vs : List Value} {s p q : Int} {w1 w2 : Value} {Φ : Result → List Slot → Prop}
theorem sd_p_ok (hl : 0 ≤ lv) : HsOk prog (wd d P b1 b2) T lv sd_p_h := trivial
theorem sd_p_x (hl : 0 ≤ lv) (hn : ∀ O : Orc, Tri prog (wd d P b1 b2) (lv + 1) T (.func (fnB (st 6)) (envOf 53 (fdOf (to53 P)) (O.addr 0))) [wS l (lst vs ep), wS (O.addr 0) (frm (ext zeroI 0 [hz prog (mkP P b1 b2) s_heap, hz prog (mkP P b1 b2) s_startpos, hz prog (mkP P b1 b2) s_pos]) (ext zeroN 0 [O.tok 0, O.tok 1, O.tok 2]) [(s_heap, .ref l), (s_startpos, .int (s) (ts)), (s_pos, .int (p) (tp))])] Φ) : Tri prog (wd d P b1 b2) (lv + 1) T (.call (.ref 53) ⟨[.ref l, .int s ts, .int p tp], []⟩) [wS l (lst vs ep)] Φ :=
  tri_def hT (lv := lv) (hT 53 (to53 P) rfl) rfl rfl rfl rfl rfl (hT 52 (to52 P) rfl) rfl rfl (hT 2 (to2 P) rfl) rfl (sd_p_ok prog d P b1 b2 hT hl) (fun O => sd_p prog P b1 b2 O l vs ep s p ts tp) (fun O => mem0) hn
theorem sd_a_ok (hl : 1 ≤ lv) : HsOk prog (wd d P b1 b2) T lv (sd_a_h x) := ⟨(hLGet_ok _ _).mono _ _ _ (lw hl), trivial⟩
theorem sd_t0t_ok (hl : 1 ≤ lv) : HsOk prog (wd d P b1 b2) T lv sd_t0t_h := ⟨(hIGt_ok hT _).mono _ _ _ hl, trivial⟩
theorem sd_t0f_ok (hl : 1 ≤ lv) : HsOk prog (wd d P b1 b2) T lv sd_t0f_h := ⟨(hIGt_ok hT _).mono _ _ _ hl, trivial⟩
theorem sd_b0_ok (hl : 1 ≤ lv) : HsOk prog (wd d P b1 b2) T lv (sd_b0_h y) := ⟨(hShr_ok _ _).mono _ _ _ (lw hl), (hLGet_ok _ _).mono _ _ _ (lw hl), trivial⟩
theorem sd_e0_ok (hl : 1 ≤ lv) : HsOk prog (wd d P b1 b2) T lv sd_e0_h := ⟨(hLSet_ok _).mono _ _ _ (lw hl), trivial⟩
theorem sd_t1t_ok (hl : 1 ≤ lv) : HsOk prog (wd d P b1 b2) T lv sd_t1t_h := ⟨(hIGt_ok hT _).mono _ _ _ hl, trivial⟩
theorem sd_t1f_ok (hl : 1 ≤ lv) : HsOk prog (wd d P b1 b2) T lv sd_t1f_h := ⟨(hIGt_ok hT _).mono _ _ _ hl, trivial⟩
theorem sd_b1_ok (hl : 1 ≤ lv) : HsOk prog (wd d P b1 b2) T lv (sd_b1_h y) := ⟨(hShr_ok _ _).mono _ _ _ (lw hl), (hLGet_ok _ _).mono _ _ _ (lw hl), trivial⟩
theorem sd_e1_ok (hl : 1 ≤ lv) : HsOk prog (wd d P b1 b2) T lv sd_e1_h := ⟨(hLSet_ok _).mono _ _ _ (lw hl), trivial⟩
theorem sd_n_ok (hl : 0 ≤ lv) : HsOk prog (wd d P b1 b2) T lv sd_n_h := trivial
theorem sd_q_ok (hl : 0 ≤ lv) : HsOk prog (wd d P b1 b2) T lv sd_q_h := trivial
theorem sd_c_ok (hl : 1 ≤ lv) : HsOk prog (wd d P b1 b2) T lv sd_c_h := ⟨(hLSet_ok _).mono _ _ _ (lw hl), trivial⟩
theorem sd_k_ok (hl : 0 ≤ lv) : HsOk prog (wd d P b1 b2) T lv sd_k_h := trivial
end
theorem sd_body : fnB (st 6) = [stAt 6 0] ++ (.While (whT sdW) (whB sdW) [] sdW.pos :: [stAt 6 2]) := by kernel_rfl
theorem sd_wbody : whB sdW = (whB sdW).take 2 ++ (.If (ifT sdI) (ifB sdI) [] sdI.pos :: [(whB sdW).getD 3 default]) := by kernel_rfl
theorem sd_test : ifT sdI = .Compare (cmL (ifT sdI)) [.Lt] [cmR (ifT sdI)] (ifT sdI).pos := by kernel_rfl
noncomputable def sdF (κ : Nat → Int) (τ : Nat → Nat) (l : Nat) (s p : Int) (ts tp x : Nat) (r : List (Str × Value)) : Obj :=
  frm κ τ ((s_heap, .ref l) :: (s_startpos, .int s ts) :: (s_pos, .int p tp) :: (s_newitem, .ref x) :: r)
noncomputable def sdR (r : List (Str × Value)) : Prop := r = [] ∨ ∃ w1 w2, r = [(s_parentpos, w1), (s_parent, w2)]
theorem sdGo_len (hs : List Bl) (b : Bl) (s : Nat) : ∀ n (hs : List Bl) p, (sdGo n hs b s p).length = hs.length
  | 0, hs, p => by simp [sdGo]
  | n + 1, hs, p => by
    unfold sdGo
    split
    · split
      · rw [sdGo_len hs b s n]; simp
      · simp
    · simp
section
variable (prog : Program) (d : Source → Nat → Nat) (P : Params) (b1 b2 : Bool) {T : Tops} (hT : ∀ a o, (topT P).get a = some o → T a o)
noncomputable def sdΨ (T : Tops) (l L : Nat) (ep : Nat) (s : Nat) (ts x : Nat) (b : Bl) (len : Nat) (res : List Bl) : Flow → List Slot → Prop := fun f H' =>
  f = .next ∧ ∃ vs hs κ τ p tp r, HB T vs hs ∧ sdR r ∧ p < hs.length ∧ hs.length = len ∧ hs.set p b = res ∧ H' = [⟨true, l, lst vs ep⟩, ⟨true, L, sdF κ τ l s (p : Nat) ts tp x r⟩]
include hT
theorem sd_stop {l L ep : Nat} {s ts x m : Nat} {b : Bl} {hs : List Bl} {vs : List Value} {κ : Nat → Int} {τ : Nat → Nat} {p tp : Nat} {r : List (Str × Value)} (hv : HB T vs hs) (hr : sdR r) (hp : p < hs.length) (hm : hs.length = m) (hlt : ¬ s < p) :
    Tri prog (wd d P b1 b2) 2 T (sdCode P L) [⟨true, l, lst vs ep⟩, ⟨true, L, sdF κ τ l s p ts tp x r⟩] (okF (sdΨ T l L ep s ts x b m (hs.set p b))) := by
  have t1 : decide ((s : Int) < (p : Int)) = false := decide_eq_false (by lia)
  refine tri_while (lv := 1) ?_
  rcases hr with rfl | ⟨w1, w2, rfl⟩
  · refine jaB hT (sd_t0f prog P b1 b2) (sd_t0f_ok prog d P b1 b2 hT (by decide)) (fun O => k1 t1) fun O => ?_
    refine it_f ?_
    exact tx_execs_nil ⟨.next, rfl, rfl, vs, hs, _, _, p, tp, _, hv, .inl rfl, hp, hm, rfl, rfl⟩
  · refine jaB hT (sd_t1f prog P b1 b2) (sd_t1f_ok prog d P b1 b2 hT (by decide)) (fun O => k1 t1) fun O => ?_
    refine it_f ?_
    exact tx_execs_nil ⟨.next, rfl, rfl, vs, hs, _, _, p, tp, _, hv, .inr ⟨_, _, rfl⟩, hp, hm, rfl, rfl⟩
theorem sd_loop {l L ep : Nat} {s ts x m : Nat} {b : Bl} (hb : Rb T (.ref x) b) :
    ∀ (n : Nat) (hs : List Bl) (vs : List Value) (κ : Nat → Int) (τ : Nat → Nat) (p tp : Nat) (r : List (Str × Value)), HB T vs hs → sdR r → p ≤ n → p < hs.length → hs.length < 100000 → hs.length = m →
    Tri prog (wd d P b1 b2) 2 T (sdCode P L) [⟨true, l, lst vs ep⟩, ⟨true, L, sdF κ τ l s p ts tp x r⟩] (okF (sdΨ T l L ep s ts x b m (sdGo n hs b s p)))
  | 0, hs, vs, κ, τ, p, tp, r, hv, hr, hn, hp, hl, hm => sd_stop prog d P b1 b2 hT hv hr hp hm (by lia)
  | n + 1, hs, vs, κ, τ, p, tp, r, hv, hr, hn, hp, hl, hm => by
    by_cases hlt : ¬ s < p
    · have step : sdGo (n + 1) hs b s p = hs.set p b := by
        unfold sdGo; rw [if_neg hlt]
      rw [step]
      exact sd_stop prog d P b1 b2 hT hv hr hp hm hlt
    replace hlt : s < p := by lia
    have hq : (p - 1) / 2 < hs.length := by lia
    obtain ⟨v, gv, rv⟩ : ∃ v, vs[(p - 1) / 2]? = some v ∧ Rb T v (gB hs ((p - 1) / 2)) := hv.get hq (0, 0)
    obtain ⟨y, ty, ty2, rfl, hy5, hTy⟩ := id rv
    have eq1 : (((p : Int) - 1) / 2) = (((p - 1) / 2 : Nat) : Int) := by lia
    have t1 : decide ((s : Int) < (p : Int)) = true := decide_eq_true (by lia)
    have c0 : (0 : Int) ≤ (p : Int) - (1 : Int) ∧ (1 : Int) = (1 : Int) := ⟨by lia, rfl⟩
    have c1 : (0 : Int) ≤ ((p : Int) - (1 : Int)) / (2 : Int) ∧ ((p : Int) - (1 : Int)) / (2 : Int) < (1000000 : Int) := by lia
    have c2 : vs[(((p : Int) - (1 : Int)) / (2 : Int)).toNat]? = some (Value.ref y) := by rw [eq1, Int.toNat_natCast]; exact gv
    have len := hv.1
    -- behind the two stores
    have tail : ∀ (κ : Nat → Int) (τ : Nat → Nat) (tq : Nat), Tx prog (wd d P b1 b2) 1 T (execs (.If (ifT sdI) (ifB sdI) [] sdI.pos :: [(whB sdW).getD 3 default]) (sdEnv P L))
        [⟨true, l, lst vs ep⟩, ⟨true, L, sdF κ τ l s p ts tp x [(s_parentpos, .int (((p : Int) - 1) / 2) tq), (s_parent, .ref y)]⟩]
        (kBody prog (wd d P b1 b2) 1 T (sdCode P L) (okF (sdΨ T l L ep s ts x b m (sdGo (n + 1) hs b s p)))) := fun κ τ tq => by
      refine tx_execs_cons (tx_If ?_)
      rw [sd_test]
      refine tx_isTrue_cmp (by kernel_rfl) ?_
      refine jaV hT (sd_n prog P b1 b2) (sd_n_ok prog d P b1 b2 hT (by decide)) k0 fun O => ?_
      refine jaV hT (sd_q prog P b1 b2) (sd_q_ok prog d P b1 b2 hT (by decide)) k0 fun O => ?_
      refine (tx_tlt hb rv).mono ?_
      rintro c H' ⟨rfl, rfl⟩
      refine ⟨_, rfl, ?_⟩
      cases hlt2 : lt2 b (gB hs ((p - 1) / 2)) with
      | true =>
        refine it_t ?_
        refine jaE hT (sd_c prog P b1 b2) (sd_c_ok prog d P b1 b2 hT (by decide)) (fun O => k1 (by lia)) fun O => ?_
        have step : sdGo (n + 1) hs b s p = sdGo n (hs.set p (gB hs ((p - 1) / 2))) b s ((p - 1) / 2) := by
          conv => lhs; unfold sdGo
          rw [if_pos hlt, if_pos hlt2]
        rw [step, Int.toNat_natCast]
        have hv' := hv.set p rv
        rw [eq1]
        exact sd_loop hb n (hs.set p (gB hs ((p - 1) / 2))) _ κ τ ((p - 1) / 2) tq _ hv' (.inr ⟨_, _, rfl⟩) (by lia) (by simp; lia) (by simp; lia) (by simp; lia)
      | false =>
        refine it_f ?_
        refine tx_execs_nil ?_
        refine jaE hT (sd_k prog P b1 b2) (sd_k_ok prog d P b1 b2 hT (by decide)) k0 fun O => ?_
        have step : sdGo (n + 1) hs b s p = hs.set p b := by
          conv => lhs; unfold sdGo
          rw [if_pos hlt, if_neg (by rw [hlt2]; simp)]
        exact ⟨.next, rfl, rfl, vs, hs, _, _, p, tp, _, hv, .inr ⟨_, _, rfl⟩, hp, hm, step.symm, rfl⟩
    refine tri_while (lv := 1) ?_
    rcases hr with rfl | ⟨w1, w2, rfl⟩
    · refine jaB hT (sd_t0t prog P b1 b2) (sd_t0t_ok prog d P b1 b2 hT (by decide)) (fun O => k1 t1) fun O => ?_
      refine it_t ?_
      rw [sd_wbody]
      refine tx_app ?_
      refine jaE hT (sd_b0 prog P b1 b2) (sd_b0_ok prog d P b1 b2 hT (by decide)) (fun O => k3 c0 c1 c2) fun O' => ⟨rfl, ?_⟩
      exact tail _ _ _
    · refine jaB hT (sd_t1t prog P b1 b2) (sd_t1t_ok prog d P b1 b2 hT (by decide)) (fun O => k1 t1) fun O => ?_
      refine it_t ?_
      rw [sd_wbody]
      refine tx_app ?_
      refine jaE hT (sd_b1 prog P b1 b2) (sd_b1_ok prog d P b1 b2 hT (by decide)) (fun O => k3 c0 c1 c2) fun O' => ⟨rfl, ?_⟩
      exact tail _ _ _
theorem sd_call {l : Nat} {vs : List Value} {ep : Nat} {hs : List Bl} {s p ts tp : Nat} (hv : HB T vs hs) (hp : p < hs.length) (hl : hs.length < 100000) :
    Tri prog (wd d P b1 b2) 3 T (.call (.ref 53) ⟨[.ref l, .int s ts, .int p tp], []⟩) [⟨true, l, lst vs ep⟩] (fun r H' => r = .ok (.ret .none) ∧ ∃ vs' sl, HB T vs' (sdN hs s p) ∧ H' = [⟨true, l, lst vs' ep⟩, sl]) := by
  refine sd_p_x prog d P b1 b2 hT (lv := 2) (by lia) fun O => ?_
  rw [sd_body]
  refine tri_func (lv := 2) (tx_app ?_)
  obtain ⟨v, gv, rv⟩ : ∃ v, vs[p]? = some v ∧ Rb T v (gB hs p) := hv.get hp (0, 0)
  obtain ⟨x, tx, tx2, rfl, hx5, hTx⟩ := id rv
  have len := hv.1
  refine jaE hT (sd_a prog P b1 b2 (x := x)) (sd_a_ok prog d P b1 b2 hT (by decide)) (fun O => k2 (by lia) (by rw [Int.toNat_natCast]; exact gv)) fun O' => ⟨rfl, ?_⟩
  refine tx_execs_cons (tx_While ((sd_loop prog d P b1 b2 hT rv p hs vs _ _ p tp [] hv (.inl rfl) (Nat.le_refl _) hp hl rfl).mono _ _ (by lia) ?_))
  rintro r H' ⟨f, rfl, rfl, vs', hs', κ, τ, p', tp', r', hv', hr', hp', hlen, hres, rfl⟩
  refine ⟨_, rfl, ?_⟩
  have len' := hv'.1
  have fin : HB T (vs'.set p' (.ref x)) (sdN hs s p) := by
    unfold sdN; rw [← hres]; exact hv'.set p' rv
  rcases hr' with rfl | ⟨w1, w2, rfl⟩
  · exact jaE hT (sd_e0 prog P b1 b2) (sd_e0_ok prog d P b1 b2 hT (by decide)) (fun O => k1 (by lia)) fun O2 => ⟨rfl, _, _, fin, rfl⟩
  · exact jaE hT (sd_e1 prog P b1 b2) (sd_e1_ok prog d P b1 b2 hT (by decide)) (fun O => k1 (by lia)) fun O2 => ⟨rfl, _, _, fin, rfl⟩
end
noncomputable def valsOf (fs : List FrX) : List Value := (fs.getD 0 frx0).nv.map (·.2)
theorem valsOf_mk (vs : List Value) : valsOf [⟨zeroI, zeroN, vs.map fun v => (⟨#[]⟩, v), []⟩] = vs := by
  show (vs.map _).map _ = vs
  rw [List.map_map]; exact List.map_id vs
noncomputable def hSdO (T : Tops) (j : Nat) (hs : List Bl) (s : Nat) (p : Nat) (H : List Slot) (f : Nat) (a : Nat) (i : Int) (k : Int) (a' : Nat) (vs : List Value) (ep : Nat) : HOutP := ⟨⟨[(f, 53), (a, a')], [], [], [i = (s : Int), k = (p : Int), HB T vs hs, p < hs.length, hs.length < 100000], 0, 0, 1, fun _ _ _ => .ok (.ret .none), fun _ _ fs => setSlot H j (lst (valsOf fs) ep)⟩, fun _ _ fs => [HB T (valsOf fs) (sdN hs s p)]⟩
noncomputable def hSd (T : Tops) (j : Nat) (hs : List Bl) (s p : Nat) : HandlerP := fun c H => rRII c (fun f a i _ k _ => onL H j fun a' vs ep => some (hSdO T j hs s p H f a i k a' vs ep))
theorem all1 {p : Prop} (h : p) : ∀ x ∈ [p], x := by intro x hx; rw [List.mem_singleton.mp hx]; exact h
section
variable (prog : Program) (d : Source → Nat → Nat) (P : Params) (b1 b2 : Bool) {T : Tops} (hT : ∀ a o, (topT P).get a = some o → T a o)
include hT
theorem hSd_ok (j : Nat) (hs : List Bl) (sn pn : Nat) : HOkP prog (wd d P b1 b2) T 3 (hSd T j hs sn pn) := by
  intro c H out e hi A s hA hS
  unfold hSd at e
  refine rRII_elim (P := fun c => CallsTo _ _ A c s _) e fun f a i ti k tk e1 => ?_
  refine onL_elim e1 fun a' vs ep hl e2 => ?_
  clear e e1
  cases e2
  obtain ⟨h1, h2, hh, h3⟩ := hi
  have e1 : f = 53 := h1 (f, 53) (.head _)
  have e2 : a = a' := h1 (a, a') (.tail _ (.head _))
  have c1 := h3 _ (.head _)
  have c2 := h3 _ (.tail _ (.head _))
  have c3 := h3 _ (.tail _ (.tail _ (.head _)))
  have c4 := h3 _ (.tail _ (.tail _ (.tail _ (.head _))))
  have c5 := h3 _ (.tail _ (.tail _ (.tail _ (.tail _ (.head _)))))
  clear h1 h2 hh h3
  subst e1 e2 c1 c2
  have hg := lstAt_eq hl
  refine CallsTo.of_code _ _ (codeAny_mono (sd_call prog d P b1 b2 hT c3 c4 c5 _ s hA.mk' (hS.sub1 hg (w' := true) (fun _ => rfl))) ?_)
  rintro r s' ⟨H', ⟨rfl, vs', sl, hv, rfl⟩, hp⟩
  refine ⟨[], [], [⟨zeroI, zeroN, vs'.map fun v => (⟨#[]⟩, v), []⟩], rfl, rfl, rfl, rfl, all1 ?_, ?_⟩
  · rw [valsOf_mk]; exact hv
  · show Post T H s (setSlot H j (lst (valsOf _) ep)) s'
    rw [valsOf_mk]
    exact hp.liftW hS hg (by simp) ⟨_, .head _, rfl, rfl⟩
end
noncomputable def suW : Stmt := stAt 7 4
noncomputable def suI : Stmt := (whB suW).getD 1 default
noncomputable def suEnv (P : Params) (L : Nat) : Env := envOf 60 (fdOf (to60 P)) L
noncomputable def suCode (P : Params) (L : Nat) : Code := .whileLoop (whT suW) (whB suW) [] (suEnv P L)
noncomputable def boL (e : PySem.Expr) : PySem.Expr := ((xV e).1.getD 0 default)
noncomputable def boR (e : PySem.Expr) : PySem.Expr := ((xV e).1.getD 1 default)
noncomputable def unX (e : PySem.Expr) : PySem.Expr := ((xV e).1.getD 0 default)
/-- heap[childpos] < heap[rightpos] -/
noncomputable def suC0 : PySem.Expr := unX (boR (ifT suI))
noncomputable abbrev fSuS0 (l : Nat) (p : Int) (tp : Nat) (e : Int) (te : Nat) (s : Int) (ts : Nat) (x : Nat) (c : Int) (tc : Nat) (r : List (Str × Value)) : List (Str × Value) := (s_heap, .ref l) :: (s_pos, .int p tp) :: (s_endpos, .int e te) :: (s_startpos, .int s ts) :: (s_newitem, .ref x) :: (s_childpos, .int c tc) :: r
noncomputable abbrev fSuS1 (l : Nat) (p : Int) (tp : Nat) (e : Int) (te : Nat) (s : Int) (ts : Nat) (x : Nat) (c : Int) (tc : Nat) (r : List (Str × Value)) : List (Str × Value) := (s_heap, .ref l) :: (s_pos, .int (p) (tp)) :: (s_endpos, .int (e) (te)) :: (s_startpos, .int (s) (ts)) :: (s_newitem, .ref x) :: (s_childpos, .int (c) (tc)) :: r
section
variable (prog : Program) (P : Params) (b1 b2 : Bool)
variable {l L ep tp x te ts tc sn pn tr y : Nat} {κ : Nat → Int} {τ : Nat → Nat} {vs : List Value} {p e s c r : Int} {hs : List Bl} {w : Value} {Φ : Result → List Slot → Prop}
noncomputable def su_p_h : List Hint := [.slot 1, .slot 1, .slot 1, .slot 1]
theorem su_p (O : Orc) (l : Nat) (vs : List Value) (ep : Nat) (p : Int) (tp : Nat) : Seg (run (eE prog P b1 b2 O) 15 su_p_h (.root (preZ 60 (fdOf (to60 P)) ⟨[.ref l, .int p tp], []⟩)) ⟨[wS l (lst vs ep)], 0, 0, 0⟩)
    [] (.pure (envOf 60 (fdOf (to60 P)) (O.addr 0))) [wS l (lst vs ep), wS (O.addr 0) (frm (ext zeroI 0 [hz prog (mkP P b1 b2) s_heap, hz prog (mkP P b1 b2) s_pos]) (ext zeroN 0 [O.tok 0, O.tok 1]) [(s_heap, .ref l), (s_pos, .int (p) (tp))])] := sg5 (by kernel_rfl)
noncomputable def su_a_h (x : Nat) : List Hint := [.top, .top, .slot 1, .sum (hLen 0), .slot 1, .slot 1, .slot 1, .slot 1, .slot 1, .slot 1, .slot 1, .slot 0, .slot 0, .slot 0, .sum (hLGet 0 (.ref x)), .slot 1, .slot 1, .slot 1, .sum (hMul2), .call, .slot 1, .slot 1]
theorem su_a (O : Orc) : Seg (run (eE prog P b1 b2 O) 68 (su_a_h x) (.root (execsZ ((fnB (st 7)).take 4) (suEnv P L))) ⟨[wS l (lst vs ep), wS L (frm κ τ [(s_heap, .ref l), (s_pos, .int p tp)])], 0, 0, 0⟩)
    [vs.length < 1000000, (0 : Int) ≤ p ∧ p < (1000000 : Int), vs[p.toNat]? = some (Value.ref x), (2 : Int) = (2 : Int)] (.pure (Flow.next)) [wS l (lst vs ep), wS L (frm (ext κ 2 [hz prog (mkP P b1 b2) s_endpos, hz prog (mkP P b1 b2) s_startpos, hz prog (mkP P b1 b2) s_newitem, hz prog (mkP P b1 b2) s_childpos]) (ext τ 2 [O.tok 1, O.tok 2, O.tok 3, O.tok 8]) [(s_heap, .ref l), (s_pos, .int (p) (tp)), (s_endpos, .int ((↑vs.length : Int)) (O.tok 0)), (s_startpos, .int (p) (tp)), (s_newitem, .ref x), (s_childpos, .int ((2 : Int) * p + (1 : Int)) (O.tok 7))])] := sg5 (by kernel_rfl)
noncomputable def su_t0t_h : List Hint := [.slot 1, .slot 1, .sum (hILt true)]
theorem su_t0t (O : Orc) : Seg (run (eE prog P b1 b2 O) 13 su_t0t_h (.root (isTrueZ (whT suW) (suEnv P L) (evalZ (whT suW) (suEnv P L)))) ⟨[wS l (lst vs ep), wS L (frm κ τ (fSuS0 l p tp e te s ts x c tc []))], 0, 0, 0⟩)
    [decide (c < e) = true] (.pure (true)) [wS l (lst vs ep), wS L (frm κ τ (fSuS1 l p tp e te s ts x c tc []))] := by cases b2 <;> exact sg5 (by kernel_rfl)
noncomputable def su_t0f_h : List Hint := [.slot 1, .slot 1, .sum (hILt false)]
theorem su_t0f (O : Orc) : Seg (run (eE prog P b1 b2 O) 13 su_t0f_h (.root (isTrueZ (whT suW) (suEnv P L) (evalZ (whT suW) (suEnv P L)))) ⟨[wS l (lst vs ep), wS L (frm κ τ (fSuS0 l p tp e te s ts x c tc []))], 0, 0, 0⟩)
    [decide (c < e) = false] (.pure (false)) [wS l (lst vs ep), wS L (frm κ τ (fSuS1 l p tp e te s ts x c tc []))] := by cases b2 <;> exact sg5 (by kernel_rfl)
noncomputable def su_b0_h : List Hint := [.slot 1, .call, .slot 1, .slot 1]
theorem su_b0 (O : Orc) : Seg (run (eE prog P b1 b2 O) 22 su_b0_h (.root (execsZ ((whB suW).take 1) (suEnv P L))) ⟨[wS l (lst vs ep), wS L (frm κ τ (fSuS0 l p tp e te s ts x c tc []))], 0, 0, 0⟩)
    [] (.pure (Flow.next)) [wS l (lst vs ep), wS L (frm (ext κ 6 [hz prog (mkP P b1 b2) s_rightpos]) (ext τ 6 [O.tok 2]) (fSuS1 l p tp e te s ts x c tc [(s_rightpos, .int (c + (1 : Int)) (O.tok 1))]))] := sg5 (by kernel_rfl)
noncomputable def su_f0_h (T : Tops) (hs : List Bl) (sn pn : Nat) : List Hint := [.slot 1, .slot 1, .slot 1, .slot 0, .slot 0, .sum (hLSet 0), .top, .slot 1, .slot 1, .slot 1, .top, .sump (hSd T 0 hs sn pn)]
theorem su_f0 {T : Tops} (O : Orc) : SegP (run (eE prog P b1 b2 O) 31 (su_f0_h T hs sn pn) (.root (execsZ ((fnB (st 7)).drop 5) (suEnv P L))) ⟨[wS l (lst vs ep), wS L (frm κ τ (fSuS0 l p tp e te s ts x c tc []))], 0, 0, 0⟩)
    [(0 : Int) ≤ p ∧ p < (↑vs.length : Int) ∧ vs.length < 1000000, s = (↑sn : Int), p = (↑pn : Int), HB T (vs.set p.toNat (Value.ref x)) hs, pn < hs.length, hs.length < 100000] [HB T (valsOf [O.fr 0]) (sdN hs sn pn)] (.pure (Flow.next)) [wS l (lst (valsOf [O.fr 0]) (ep)), wS L (frm κ τ (fSuS1 l p tp e te s ts x c tc []))] := ⟨sg5 (by kernel_rfl), by kernel_rfl⟩
noncomputable def su_t1t_h : List Hint := [.slot 1, .slot 1, .sum (hILt true)]
theorem su_t1t (O : Orc) : Seg (run (eE prog P b1 b2 O) 13 su_t1t_h (.root (isTrueZ (whT suW) (suEnv P L) (evalZ (whT suW) (suEnv P L)))) ⟨[wS l (lst vs ep), wS L (frm κ τ (fSuS0 l p tp e te s ts x c tc [(s_rightpos, w)]))], 0, 0, 0⟩)
    [decide (c < e) = true] (.pure (true)) [wS l (lst vs ep), wS L (frm κ τ (fSuS1 l p tp e te s ts x c tc [(s_rightpos, w)]))] := by cases b2 <;> exact sg5 (by kernel_rfl)
noncomputable def su_t1f_h : List Hint := [.slot 1, .slot 1, .sum (hILt false)]
theorem su_t1f (O : Orc) : Seg (run (eE prog P b1 b2 O) 13 su_t1f_h (.root (isTrueZ (whT suW) (suEnv P L) (evalZ (whT suW) (suEnv P L)))) ⟨[wS l (lst vs ep), wS L (frm κ τ (fSuS0 l p tp e te s ts x c tc [(s_rightpos, w)]))], 0, 0, 0⟩)
    [decide (c < e) = false] (.pure (false)) [wS l (lst vs ep), wS L (frm κ τ (fSuS1 l p tp e te s ts x c tc [(s_rightpos, w)]))] := by cases b2 <;> exact sg5 (by kernel_rfl)
noncomputable def su_b1_h : List Hint := [.slot 1, .call, .slot 1, .slot 1]
theorem su_b1 (O : Orc) : Seg (run (eE prog P b1 b2 O) 22 su_b1_h (.root (execsZ ((whB suW).take 1) (suEnv P L))) ⟨[wS l (lst vs ep), wS L (frm κ τ (fSuS0 l p tp e te s ts x c tc [(s_rightpos, w)]))], 0, 0, 0⟩)
    [] (.pure (Flow.next)) [wS l (lst vs ep), wS L (frm κ τ (fSuS1 l p tp e te s ts x c tc [(s_rightpos, .int (c + (1 : Int)) (O.tok 1))]))] := sg5 (by kernel_rfl)
noncomputable def su_f1_h (T : Tops) (hs : List Bl) (sn pn : Nat) : List Hint := [.slot 1, .slot 1, .slot 1, .slot 0, .slot 0, .sum (hLSet 0), .top, .slot 1, .slot 1, .slot 1, .top, .sump (hSd T 0 hs sn pn)]
theorem su_f1 {T : Tops} (O : Orc) : SegP (run (eE prog P b1 b2 O) 31 (su_f1_h T hs sn pn) (.root (execsZ ((fnB (st 7)).drop 5) (suEnv P L))) ⟨[wS l (lst vs ep), wS L (frm κ τ (fSuS0 l p tp e te s ts x c tc [(s_rightpos, w)]))], 0, 0, 0⟩)
    [(0 : Int) ≤ p ∧ p < (↑vs.length : Int) ∧ vs.length < 1000000, s = (↑sn : Int), p = (↑pn : Int), HB T (vs.set p.toNat (Value.ref x)) hs, pn < hs.length, hs.length < 100000] [HB T (valsOf [O.fr 0]) (sdN hs sn pn)] (.pure (Flow.next)) [wS l (lst (valsOf [O.fr 0]) (ep)), wS L (frm κ τ (fSuS1 l p tp e te s ts x c tc [(s_rightpos, w)]))] := ⟨sg5 (by kernel_rfl), by kernel_rfl⟩
noncomputable def su_ct_h : List Hint := [.slot 1, .slot 1, .sum (hILt true)]
theorem su_ct (O : Orc) : Seg (run (eE prog P b1 b2 O) 13 su_ct_h (.root (isTrueZ (boL (ifT suI)) (suEnv P L) (evalZ (boL (ifT suI)) (suEnv P L)))) ⟨[wS l (lst vs ep), wS L (frm κ τ (fSuS0 l p tp e te s ts x c tc [(s_rightpos, .int r tr)]))], 0, 0, 0⟩)
    [decide (r < e) = true] (.pure (true)) [wS l (lst vs ep), wS L (frm κ τ (fSuS1 l p tp e te s ts x c tc [(s_rightpos, .int (r) (tr))]))] := by cases b2 <;> exact sg5 (by kernel_rfl)
noncomputable def su_cf_h : List Hint := [.slot 1, .slot 1, .sum (hILt false)]
theorem su_cf (O : Orc) : Seg (run (eE prog P b1 b2 O) 13 su_cf_h (.root (isTrueZ (boL (ifT suI)) (suEnv P L) (evalZ (boL (ifT suI)) (suEnv P L)))) ⟨[wS l (lst vs ep), wS L (frm κ τ (fSuS0 l p tp e te s ts x c tc [(s_rightpos, .int r tr)]))], 0, 0, 0⟩)
    [decide (r < e) = false] (.pure (false)) [wS l (lst vs ep), wS L (frm κ τ (fSuS1 l p tp e te s ts x c tc [(s_rightpos, .int (r) (tr))]))] := by cases b2 <;> exact sg5 (by kernel_rfl)
noncomputable def su_l_h (y : Nat) : List Hint := [.slot 1, .slot 1, .slot 0, .slot 0, .slot 0, .sum (hLGet 0 (.ref y))]
theorem su_l (O : Orc) : Seg (run (eE prog P b1 b2 O) 15 (su_l_h y) (.root (evalZ (cmL suC0) (suEnv P L))) ⟨[wS l (lst vs ep), wS L (frm κ τ (fSuS0 l p tp e te s ts x c tc [(s_rightpos, .int r tr)]))], 0, 0, 0⟩)
    [(0 : Int) ≤ c ∧ c < (1000000 : Int), vs[c.toNat]? = some (Value.ref y)] (.pure (.ref y)) [wS l (lst vs ep), wS L (frm κ τ (fSuS1 l p tp e te s ts x c tc [(s_rightpos, .int (r) (tr))]))] := sg5 (by kernel_rfl)
noncomputable def su_r_h (y : Nat) : List Hint := [.slot 1, .slot 1, .slot 0, .slot 0, .slot 0, .sum (hLGet 0 (.ref y))]
theorem su_r (O : Orc) : Seg (run (eE prog P b1 b2 O) 15 (su_r_h y) (.root (evalZ (cmR suC0) (suEnv P L))) ⟨[wS l (lst vs ep), wS L (frm κ τ (fSuS0 l p tp e te s ts x c tc [(s_rightpos, .int r tr)]))], 0, 0, 0⟩)
    [(0 : Int) ≤ r ∧ r < (1000000 : Int), vs[r.toNat]? = some (Value.ref y)] (.pure (.ref y)) [wS l (lst vs ep), wS L (frm κ τ (fSuS1 l p tp e te s ts x c tc [(s_rightpos, .int (r) (tr))]))] := sg5 (by kernel_rfl)
noncomputable def su_d_h : List Hint := [.slot 1, .slot 1, .slot 1]
theorem su_d (O : Orc) : Seg (run (eE prog P b1 b2 O) 16 su_d_h (.root (execsZ (ifB suI) (suEnv P L))) ⟨[wS l (lst vs ep), wS L (frm κ τ (fSuS0 l p tp e te s ts x c tc [(s_rightpos, .int r tr)]))], 0, 0, 0⟩)
    [] (.pure (Flow.next)) [wS l (lst vs ep), wS L (frm κ τ [(s_heap, .ref l), (s_pos, .int (p) (tp)), (s_endpos, .int (e) (te)), (s_startpos, .int (s) (ts)), (s_newitem, .ref x), (s_childpos, .int (r) (tr)), (s_rightpos, .int (r) (tr))])] := sg5 (by kernel_rfl)
noncomputable def su_e_h (y : Nat) : List Hint := [.slot 1, .slot 1, .slot 0, .slot 0, .slot 0, .sum (hLGet 0 (.ref y)), .slot 1, .slot 1, .slot 0, .slot 0, .sum (hLSet 0), .slot 1, .slot 1, .slot 1, .slot 1, .sum (hMul2), .call, .slot 1, .slot 1]
theorem su_e (O : Orc) : Seg (run (eE prog P b1 b2 O) 54 (su_e_h y) (.root (execsZ ((whB suW).drop 2) (suEnv P L))) ⟨[wS l (lst vs ep), wS L (frm κ τ (fSuS0 l p tp e te s ts x c tc [(s_rightpos, .int r tr)]))], 0, 0, 0⟩)
    [(0 : Int) ≤ c ∧ c < (1000000 : Int), vs[c.toNat]? = some (Value.ref y), (0 : Int) ≤ p ∧ p < (↑vs.length : Int) ∧ vs.length < 1000000, (2 : Int) = (2 : Int)] (.pure (Flow.next)) [wS l (lst (vs.set p.toNat (Value.ref y)) (ep)), wS L (frm κ τ [(s_heap, .ref l), (s_pos, .int (c) (tc)), (s_endpos, .int (e) (te)), (s_startpos, .int (s) (ts)), (s_newitem, .ref x), (s_childpos, .int ((2 : Int) * c + (1 : Int)) (O.tok 4)), (s_rightpos, .int (r) (tr))])] := sg5 (by kernel_rfl)
end
section
variable (prog : Program) (d : Source → Nat → Nat) (P : Params) (b1 b2 : Bool) {T : Tops} (hT : ∀ a o, (topT P).get a = some o → T a o) {lv : Nat}
include hT
variable {l L ep tp x te ts tc sn pn tr y : Nat} {κ : Nat → Int} {τ : Nat → Nat} {vs : List Value} {p e s c r : Int} {hs : List Bl} {w : Value} {Φ : Result → List Slot → Prop}
theorem su_p_ok (hl : 0 ≤ lv) : HsOk prog (wd d P b1 b2) T lv su_p_h := trivial
theorem su_p_x (hl : 0 ≤ lv) (hn : ∀ O : Orc, Tri prog (wd d P b1 b2) (lv + 1) T (.func (fnB (st 7)) (envOf 60 (fdOf (to60 P)) (O.addr 0))) [wS l (lst vs ep), wS (O.addr 0) (frm (ext zeroI 0 [hz prog (mkP P b1 b2) s_heap, hz prog (mkP P b1 b2) s_pos]) (ext zeroN 0 [O.tok 0, O.tok 1]) [(s_heap, .ref l), (s_pos, .int (p) (tp))])] Φ) : Tri prog (wd d P b1 b2) (lv + 1) T (.call (.ref 60) ⟨[.ref l, .int p tp], []⟩) [wS l (lst vs ep)] Φ :=
  tri_def hT (lv := lv) (hT 60 (to60 P) rfl) rfl rfl rfl rfl rfl (hT 59 (to59 P) rfl) rfl rfl (hT 2 (to2 P) rfl) rfl (su_p_ok prog d P b1 b2 hT hl) (fun O => su_p prog P b1 b2 O l vs ep p tp) (fun O => mem0) hn
theorem su_a_ok (hl : 1 ≤ lv) : HsOk prog (wd d P b1 b2) T lv (su_a_h x) := ⟨(hLen_ok _).mono _ _ _ (lw hl), (hLGet_ok _ _).mono _ _ _ (lw hl), (hMul2_ok _ _).mono _ _ _ (lw hl), trivial⟩
theorem su_t0t_ok (hl : 1 ≤ lv) : HsOk prog (wd d P b1 b2) T lv su_t0t_h := ⟨(hILt_ok hT _).mono _ _ _ hl, trivial⟩
theorem su_t0f_ok (hl : 1 ≤ lv) : HsOk prog (wd d P b1 b2) T lv su_t0f_h := ⟨(hILt_ok hT _).mono _ _ _ hl, trivial⟩
theorem su_b0_ok (hl : 1 ≤ lv) : HsOk prog (wd d P b1 b2) T lv su_b0_h := trivial
theorem su_f0_ok (hl : 3 ≤ lv) : HsOk prog (wd d P b1 b2) T lv (su_f0_h T hs sn pn) := ⟨(hLSet_ok _).mono _ _ _ (lw hl), (hSd_ok prog d P b1 b2 hT _ _ _ _).mono _ _ _ hl, trivial⟩
theorem su_t1t_ok (hl : 1 ≤ lv) : HsOk prog (wd d P b1 b2) T lv su_t1t_h := ⟨(hILt_ok hT _).mono _ _ _ hl, trivial⟩
theorem su_t1f_ok (hl : 1 ≤ lv) : HsOk prog (wd d P b1 b2) T lv su_t1f_h := ⟨(hILt_ok hT _).mono _ _ _ hl, trivial⟩
theorem su_b1_ok (hl : 1 ≤ lv) : HsOk prog (wd d P b1 b2) T lv su_b1_h := trivial
theorem su_f1_ok (hl : 3 ≤ lv) : HsOk prog (wd d P b1 b2) T lv (su_f1_h T hs sn pn) := ⟨(hLSet_ok _).mono _ _ _ (lw hl), (hSd_ok prog d P b1 b2 hT _ _ _ _).mono _ _ _ hl, trivial⟩
theorem su_ct_ok (hl : 1 ≤ lv) : HsOk prog (wd d P b1 b2) T lv su_ct_h := ⟨(hILt_ok hT _).mono _ _ _ hl, trivial⟩
theorem su_cf_ok (hl : 1 ≤ lv) : HsOk prog (wd d P b1 b2) T lv su_cf_h := ⟨(hILt_ok hT _).mono _ _ _ hl, trivial⟩
theorem su_l_ok (hl : 1 ≤ lv) : HsOk prog (wd d P b1 b2) T lv (su_l_h y) := ⟨(hLGet_ok _ _).mono _ _ _ (lw hl), trivial⟩
theorem su_r_ok (hl : 1 ≤ lv) : HsOk prog (wd d P b1 b2) T lv (su_r_h y) := ⟨(hLGet_ok _ _).mono _ _ _ (lw hl), trivial⟩
theorem su_d_ok (hl : 1 ≤ lv) : HsOk prog (wd d P b1 b2) T lv su_d_h := trivial
theorem su_e_ok (hl : 1 ≤ lv) : HsOk prog (wd d P b1 b2) T lv (su_e_h y) := ⟨(hLGet_ok _ _).mono _ _ _ (lw hl), (hLSet_ok _).mono _ _ _ (lw hl), (hMul2_ok _ _).mono _ _ _ (lw hl), trivial⟩
end
theorem su_body : fnB (st 7) = (fnB (st 7)).take 4 ++ (.While (whT suW) (whB suW) [] suW.pos :: (fnB (st 7)).drop 5) := by kernel_rfl
theorem su_wbody : whB suW = (whB suW).take 1 ++ (.If (ifT suI) (ifB suI) [] suI.pos :: (whB suW).drop 2) := by kernel_rfl
theorem su_test : ifT suI = .BoolOp .And [boL (ifT suI), .UnaryOp .Not (.Compare (cmL suC0) [.Lt] [cmR suC0] suC0.pos) (boR (ifT suI)).pos] (ifT suI).pos := by kernel_rfl
noncomputable def suF (κ : Nat → Int) (τ : Nat → Nat) (l : Nat) (p e s c : Int) (tp te ts tc x : Nat) (r : List (Str × Value)) : Obj :=
  frm κ τ ((s_heap, .ref l) :: (s_pos, .int p tp) :: (s_endpos, .int e te) :: (s_startpos, .int s ts) :: (s_newitem, .ref x) :: (s_childpos, .int c tc) :: r)
noncomputable def suR (r : List (Str × Value)) : Prop := r = [] ∨ ∃ w, r = [(s_rightpos, w)]
noncomputable def suΨ (T : Tops) (l L : Nat) (ep : Nat) (s : Nat) (te ts x m : Nat) (res : List Bl × Nat) : Flow → List Slot → Prop := fun f H' =>
  f = .next ∧ ∃ vs hs κ τ p tp tc r, HB T vs hs ∧ suR r ∧ p < m ∧ hs.length = m ∧ (hs, p) = res ∧ H' = [⟨true, l, lst vs ep⟩, ⟨true, L, suF κ τ l (p : Nat) (m : Nat) s ((2 * p + 1 : Nat) : Int) tp te ts tc x r⟩]
section
variable (prog : Program) (d : Source → Nat → Nat) (P : Params) (b1 b2 : Bool) {T : Tops} (hT : ∀ a o, (topT P).get a = some o → T a o)
include hT
theorem su_loop {l L ep : Nat} {s te ts x m : Nat} :
    ∀ (n : Nat) (hs : List Bl) (vs : List Value) (κ : Nat → Int) (τ : Nat → Nat) (p tp tc : Nat) (r : List (Str × Value)), HB T vs hs → suR r → m ≤ p + n → p < m → m < 100000 → hs.length = m →
    Tri prog (wd d P b1 b2) 2 T (suCode P L) [⟨true, l, lst vs ep⟩, ⟨true, L, suF κ τ l p m s ((2 * p + 1 : Nat) : Int) tp te ts tc x r⟩] (okF (suΨ T l L ep s te ts x m (suGo n hs p)))
  | 0, hs, vs, κ, τ, p, tp, tc, r, hv, hr, hn, hp, hl, hm => by lia
  | n + 1, hs, vs, κ, τ, p, tp, tc, r, hv, hr, hn, hp, hl, hm => by
    have len := hv.1
    by_cases hlt : 2 * p + 1 < m
    · have t1 : decide (((2 * p + 1 : Nat) : Int) < (m : Int)) = true := decide_eq_true (by lia)
      have step : suGo (n + 1) hs p = suGo n (hs.set p (gB hs (suC hs p))) (suC hs p) := by
        conv => lhs; unfold suGo
        rw [if_pos (by lia)]
      rw [step]
      have hC : suC hs p = 2 * p + 1 ∨ (suC hs p = 2 * p + 2 ∧ 2 * p + 2 < m) := by
        unfold suC
        split
        · rename_i h
          simp only [Bool.and_eq_true, decide_eq_true_eq] at h
          exact .inr ⟨rfl, by lia⟩
        · exact .inl rfl
      have hCl : suC hs p < hs.length := by lia
      obtain ⟨v, gv, rv⟩ : ∃ v, vs[suC hs p]? = some v ∧ Rb T v (gB hs (suC hs p)) := hv.get hCl (0, 0)
      obtain ⟨y, ty, ty2, rfl, hy5, hTy⟩ := id rv
      have fin : ∀ (κ : Nat → Int) (τ : Nat → Nat) (c r : Int) (tc tr : Nat), c = ((suC hs p : Nat) : Int) → Tx prog (wd d P b1 b2) 1 T (execs ((whB suW).drop 2) (suEnv P L))
          [⟨true, l, lst vs ep⟩, ⟨true, L, suF κ τ l p m s c tp te ts tc x [(s_rightpos, .int r tr)]⟩]
          (kBody prog (wd d P b1 b2) 1 T (suCode P L) (okF (suΨ T l L ep s te ts x m (suGo n (hs.set p (gB hs (suC hs p))) (suC hs p))))) := fun κ τ c r tc tr hc => by
        subst hc
        refine jaE hT (su_e prog P b1 b2 (y := y)) (su_e_ok prog d P b1 b2 hT (by decide)) (fun O => k4 (by lia) (by rw [Int.toNat_natCast]; exact gv) (by lia) rfl) fun O => ?_
        show Tri _ _ _ _ _ _ _
        rw [Int.toNat_natCast, show (2 : Int) * ((suC hs p : Nat) : Int) + 1 = ((2 * suC hs p + 1 : Nat) : Int) by lia]
        exact su_loop n (hs.set p (gB hs (suC hs p))) _ κ τ (suC hs p) _ _ _ (hv.set p rv) (.inr ⟨_, rfl⟩) (by lia) (by lia) hl (by simp; exact hm)
      have mid : ∀ (κ : Nat → Int) (τ : Nat → Nat) (tr : Nat), Tx prog (wd d P b1 b2) 1 T (execs (.If (ifT suI) (ifB suI) [] suI.pos :: (whB suW).drop 2) (suEnv P L))
          [⟨true, l, lst vs ep⟩, ⟨true, L, suF κ τ l p m s ((2 * p + 1 : Nat) : Int) tp te ts tc x [(s_rightpos, .int (((2 * p + 1 : Nat) : Int) + 1) tr)]⟩]
          (kBody prog (wd d P b1 b2) 1 T (suCode P L) (okF (suΨ T l L ep s te ts x m (suGo n (hs.set p (gB hs (suC hs p))) (suC hs p))))) := fun κ τ tr => by
        refine tx_execs_cons (tx_If ?_)
        rw [su_test]
        refine tx_isTrue_and2 ?_
        by_cases h2 : 2 * p + 2 < m
        · refine jaB hT (su_ct prog P b1 b2) (su_ct_ok prog d P b1 b2 hT (by decide)) (fun O => k1 (decide_eq_true (by lia))) fun O => ?_
          refine it_t ?_
          refine tx_isTrue_not (tx_isTrue_cmp (by kernel_rfl) ?_)
          obtain ⟨v1, g1, r1⟩ : ∃ v, vs[2 * p + 1]? = some v ∧ Rb T v (gB hs (2 * p + 1)) := hv.get (by lia) (0, 0)
          obtain ⟨v2, g2, r2⟩ : ∃ v, vs[2 * p + 2]? = some v ∧ Rb T v (gB hs (2 * p + 2)) := hv.get (by lia) (0, 0)
          obtain ⟨a1, _, _, rfl, _, _⟩ := id r1
          obtain ⟨a2, _, _, rfl, _, _⟩ := id r2
          refine jaV hT (su_l prog P b1 b2 (y := a1)) (su_l_ok prog d P b1 b2 hT (by decide)) (fun O => k2 (by lia) (by rw [Int.toNat_natCast]; exact g1)) fun O => ?_
          refine jaV hT (su_r prog P b1 b2 (y := a2)) (su_r_ok prog d P b1 b2 hT (by decide)) (fun O => k2 (by lia) (by rw [show ((2 * p + 1 : Nat) : Int) + 1 = ((2 * p + 2 : Nat) : Int) by lia, Int.toNat_natCast]; exact g2)) fun O => ?_
          refine (tx_tlt r1 r2).mono ?_
          rintro c H' ⟨rfl, rfl⟩
          refine ⟨_, rfl, ?_⟩
          have eC : suC hs p = if !lt2 (gB hs (2 * p + 1)) (gB hs (2 * p + 2)) then 2 * p + 2 else 2 * p + 1 := by
            unfold suC
            rw [decide_eq_true (by lia : 2 * p + 2 < hs.length), Bool.true_and]
          cases hb : lt2 (gB hs (2 * p + 1)) (gB hs (2 * p + 2)) with
          | true =>
            rw [hb] at eC
            simp only [Bool.not_true, Bool.false_eq_true, if_false] at eC ⊢
            exact tx_execs_nil (fin _ _ _ _ _ _ (by rw [eC]))
          | false =>
            rw [hb] at eC
            simp only [Bool.not_false, if_true] at eC ⊢
            exact jaE hT (su_d prog P b1 b2) (su_d_ok prog d P b1 b2 hT (by decide)) k0 fun O => fin _ _ _ _ _ _ (by rw [eC]; lia)
        · refine jaB hT (su_cf prog P b1 b2) (su_cf_ok prog d P b1 b2 hT (by decide)) (fun O => k1 (decide_eq_false (by lia))) fun O => ?_
          refine it_f ?_
          have eC : suC hs p = 2 * p + 1 := by
            unfold suC
            rw [decide_eq_false (by lia : ¬ 2 * p + 2 < hs.length), Bool.false_and]; rfl
          exact tx_execs_nil (fin _ _ _ _ _ _ (by rw [eC]))
      refine tri_while (lv := 1) ?_
      rcases hr with rfl | ⟨w, rfl⟩
      · refine jaB hT (su_t0t prog P b1 b2) (su_t0t_ok prog d P b1 b2 hT (by decide)) (fun O => k1 t1) fun O => ?_
        refine it_t ?_
        rw [su_wbody]
        exact tx_app (jaE hT (su_b0 prog P b1 b2) (su_b0_ok prog d P b1 b2 hT (by decide)) k0 fun O' => ⟨rfl, mid _ _ _⟩)
      · refine jaB hT (su_t1t prog P b1 b2) (su_t1t_ok prog d P b1 b2 hT (by decide)) (fun O => k1 t1) fun O => ?_
        refine it_t ?_
        rw [su_wbody]
        exact tx_app (jaE hT (su_b1 prog P b1 b2) (su_b1_ok prog d P b1 b2 hT (by decide)) k0 fun O' => ⟨rfl, mid _ _ _⟩)
    · have t1 : decide (((2 * p + 1 : Nat) : Int) < (m : Int)) = false := decide_eq_false (by lia)
      have step : suGo (n + 1) hs p = (hs, p) := by
        conv => lhs; unfold suGo
        rw [if_neg (by lia)]
      rw [step]
      refine tri_while (lv := 1) ?_
      rcases hr with rfl | ⟨w, rfl⟩
      · refine jaB hT (su_t0f prog P b1 b2) (su_t0f_ok prog d P b1 b2 hT (by decide)) (fun O => k1 t1) fun O => ?_
        refine it_f ?_
        exact tx_execs_nil ⟨.next, rfl, rfl, vs, hs, _, _, p, tp, tc, _, hv, .inl rfl, hp, hm, rfl, rfl⟩
      · refine jaB hT (su_t1f prog P b1 b2) (su_t1f_ok prog d P b1 b2 hT (by decide)) (fun O => k1 t1) fun O => ?_
        refine it_f ?_
        exact tx_execs_nil ⟨.next, rfl, rfl, vs, hs, _, _, p, tp, tc, _, hv, .inr ⟨_, rfl⟩, hp, hm, rfl, rfl⟩
theorem su_call {l : Nat} {vs : List Value} {ep : Nat} {hs : List Bl} {p tp : Nat} (hv : HB T vs hs) (hp : p < hs.length) (hl : hs.length < 100000) :
    Tri prog (wd d P b1 b2) 4 T (.call (.ref 60) ⟨[.ref l, .int p tp], []⟩) [⟨true, l, lst vs ep⟩] (fun r H' => r = .ok (.ret .none) ∧ ∃ vs' sl, HB T vs' (suN hs p) ∧ H' = [⟨true, l, lst vs' ep⟩, sl]) := by
  refine su_p_x prog d P b1 b2 hT (lv := 3) (by lia) fun O => ?_
  rw [su_body]
  refine tri_func (lv := 3) (tx_app ?_)
  obtain ⟨v, gv, rv⟩ : ∃ v, vs[p]? = some v ∧ Rb T v (gB hs p) := hv.get hp (0, 0)
  obtain ⟨x, tx, tx2, rfl, hx5, hTx⟩ := id rv
  have len := hv.1
  refine jaE hT (su_a prog P b1 b2 (x := x)) (su_a_ok prog d P b1 b2 hT (by decide)) (fun O => k4 (by lia) (by lia) (by rw [Int.toNat_natCast]; exact gv) rfl) fun O' => ⟨rfl, ?_⟩
  rw [len, show (2 : Int) * (p : Int) + 1 = ((2 * p + 1 : Nat) : Int) by lia]
  refine tx_execs_cons (tx_While ((su_loop prog d P b1 b2 hT (m := hs.length) hs.length hs vs _ _ p tp _ [] hv (.inl rfl) (by lia) hp hl rfl).mono _ _ (by lia) ?_))
  rintro r H' ⟨f, rfl, rfl, vs', hs', κ, τ, p', tp', tc', r', hv', hr', hp', hlen, hres, rfl⟩
  refine ⟨_, rfl, ?_⟩
  have len' := hv'.1
  have e1 : (suGo hs.length hs p).1 = hs' := by rw [← hres]
  have e2 : (suGo hs.length hs p).2 = p' := by rw [← hres]
  have c3 : HB T (vs'.set ((p' : Nat) : Int).toNat (.ref x)) (hs'.set p' (gB hs p)) := by rw [Int.toNat_natCast]; exact hv'.set p' rv
  have eN : suN hs p = sdN (hs'.set p' (gB hs p)) p p' := by unfold suN; rw [e1, e2]
  rw [eN]
  rcases hr' with rfl | ⟨w, rfl⟩
  · exact jaEP hT (su_f0 prog P b1 b2 (hs := hs'.set p' (gB hs p)) (sn := p) (pn := p')) (su_f0_ok prog d P b1 b2 hT (by decide)) (fun O => k6 (by lia) rfl rfl c3 (by simp; lia) (by simp; lia)) fun O2 hq => ⟨rfl, _, _, hq, rfl⟩
  · exact jaEP hT (su_f1 prog P b1 b2 (hs := hs'.set p' (gB hs p)) (sn := p) (pn := p')) (su_f1_ok prog d P b1 b2 hT (by decide)) (fun O => k6 (by lia) rfl rfl c3 (by simp; lia) (by simp; lia)) fun O2 hq => ⟨rfl, _, _, hq, rfl⟩
end
theorem suGo_len : ∀ n (hs : List Bl) p, (suGo n hs p).1.length = hs.length
  | 0, hs, p => rfl
  | n + 1, hs, p => by
    unfold suGo
    split
    · rw [suGo_len n]; simp
    · rfl
theorem suN_len (hs : List Bl) (p : Nat) : (suN hs p).length = hs.length := by
  unfold suN sdN
  rw [sdGo_len [] (gB _ _)]; simp [suGo_len]
end Mine
namespace Mine
open PySem PySem.W PySem.W.X PyProof.Rows PySem.Calls
noncomputable def is_range_iter (id : String) : Bool := S.eqLit 1954752940192971970453299505619571 id
theorem is_range_iter_eq {id : String} (h : is_range_iter id = true) : id = "range.__iter__" := eqLit_iff (by kernel_rfl) h
noncomputable def is_range_rev (id : String) : Bool := S.eqLit 8395581340677150082153677889943242330301043 id
theorem is_range_rev_eq {id : String} (h : is_range_rev id = true) : id = "range.__reversed__" := eqLit_iff (by kernel_rfl) h
noncomputable def is_rit_next (id : String) : Bool := S.eqLit 9231062798198206674541908477283886571094360729114862195 id
theorem is_rit_next_eq {id : String} (h : is_rit_next id = true) : id = "range_iterator.__next__" := eqLit_iff (by kernel_rfl) h
noncomputable def rgO (m : Int) (t u v : Nat) : Obj := ⟨.type "range", none, .fields ⟨[.int 0 t, .int m u, .int 1 v]⟩, #[]⟩
noncomputable def ritO (x n st : Int) : Obj := ⟨.type "range_iterator", none, .fields ⟨[.int x 0, .int n 0, .int st 0]⟩, #[]⟩
noncomputable def oFs (o : Obj) : List Value := match o.data with | .fields ⟨l⟩ => l | _ => []
noncomputable def oF (o : Obj) (i : Nat) : Value := (oFs o).getD i .none
noncomputable def rgOf (o : Obj) : Obj := rgO (vInt (oF o 1)) (vTok (oF o 0)) (vTok (oF o 1)) (vTok (oF o 2))
noncomputable def ritOf (o : Obj) : Obj := ritO (vInt (oF o 0)) (vInt (oF o 1)) (vInt (oF o 2))
noncomputable def hRIterO (H : List Slot) (a : Nat) (a' : Nat) (o : Obj) : HOut := ⟨[(a, a')], [], [([⟨true, a', o⟩], [⟨true, a', rgOf o⟩])], [0 ≤ vInt (oF o 1) ∧ vInt (oF o 1) < 1000000], 1, 0, 0, fun as _ _ => .ok (.ret (.ref (as.getD 0 0))), fun as _ _ => addSlot H ⟨true, as.getD 0 0, ritO 0 (vInt (oF o 1)) 1⟩⟩
noncomputable def hRIter (j : Nat) : Handler := fun c H => bR is_range_iter c (fun a => onSl H j fun a' o => some (hRIterO H a a' o))
noncomputable def hRRevO (H : List Slot) (a : Nat) (a' : Nat) (o : Obj) : HOut := ⟨[(a, a')], [], [([⟨true, a', o⟩], [⟨true, a', rgOf o⟩])], [0 ≤ vInt (oF o 1) ∧ vInt (oF o 1) < 1000000], 1, 0, 0, fun as _ _ => .ok (.ret (.ref (as.getD 0 0))), fun as _ _ => addSlot H ⟨true, as.getD 0 0, ritO (vInt (oF o 1) - 1) (vInt (oF o 1)) (-1)⟩⟩
noncomputable def hRRev (j : Nat) : Handler := fun c H => bR is_range_rev c (fun a => onSl H j fun a' o => some (hRRevO H a a' o))
noncomputable def hRNextO (j : Nat) (H : List Slot) (a : Nat) (a' : Nat) (o : Obj) : HOut := ⟨[(a, a')], [], [([⟨true, a', o⟩], [⟨true, a', ritOf o⟩])], [0 < vInt (oF o 1)], 0, 1, 0, fun _ ts _ => .ok (.ret (.int (vInt (oF o 0)) (ts.getD 0 0))), fun _ _ _ => setSlot H j (ritO (vInt (oF o 0) + vInt (oF o 2)) (vInt (oF o 1) - 1) (vInt (oF o 2)))⟩
noncomputable def hRNext (j : Nat) : Handler := fun c H => bR is_rit_next c (fun a => onSl H j fun a' o => some (hRNextO j H a a' o))
noncomputable def hRStopO (H : List Slot) (a : Nat) (a' : Nat) (o : Obj) : HOut := ⟨[(a, a')], [], [([⟨true, a', o⟩], [⟨true, a', ritOf o⟩])], [vInt (oF o 1) ≤ 0], 2, 0, 0, fun as _ _ => .error (.ref (as.getD 1 0)), fun as _ _ => addSlot (addSlot H ⟨true, as.getD 0 0, tup0⟩) ⟨true, as.getD 1 0, stopObj (as.getD 0 0)⟩⟩
noncomputable def hRStop (j : Nat) : Handler := fun c H => bR is_rit_next c (fun a => onSl H j fun a' o => some (hRStopO H a a' o))
theorem fitsL {i : Int} (h1 : -1000001 ≤ i) (h2 : i < 1000001) : Builtin.Range.rangeFitsLong i = true := by
  unfold Builtin.Range.rangeFitsLong
  simp only [Bool.and_eq_true, decide_eq_true_eq]
  constructor <;> lia
theorem rsize {m : Int} (h : 0 ≤ m) : Builtin.Range.rangeSize 0 m 1 = m := by
  unfold Builtin.Range.rangeSize
  rw [if_pos (by decide)]
  split <;> lia
theorem slot_obj {H : List Slot} {j a : Nat} {o o' : Obj} (eo : ([⟨true, a, o⟩] : List Slot) = [⟨true, a, o'⟩]) : o = o' := by
  injection eo with e1 _
  injection e1
theorem getSlot_setSlot {o : Obj} {sl : Slot} : ∀ (H : List Slot) (j : Nat), getSlot H j = some sl → getSlot (setSlot H j o) j = some ⟨sl.w, sl.a, o⟩
  | [], j, h => by cases h
  | s :: r, 0, h => by have e : s = sl := Option.some.inj h; subst e; rfl
  | s :: r, j + 1, h => getSlot_setSlot r j h
theorem setSlot_setSlot {o o' : Obj} : ∀ (H : List Slot) (j : Nat), setSlot (setSlot H j o) j o' = setSlot H j o'
  | [], j => rfl
  | s :: r, 0 => rfl
  | s :: r, j + 1 => by show s :: setSlot (setSlot r j o) j o' = s :: setSlot r j o'; rw [setSlot_setSlot r j]
theorem Sat.update2 {T : Tops} {H : List Slot} {s : Shared} (h : Sat T s H) {j : Nat} {sl : Slot} (hg : getSlot H j = some sl) (hw : sl.w = true) {f g : Obj → Obj} (hf : (f sl.o).isFreed = false) (hf2 : (g (f sl.o)).isFreed = false) :
    Post T H s (setSlot H j (g (f sl.o))) { s with heap := (s.heap.update sl.a f).update sl.a g } := by
  have p1 := h.update hg hw hf
  have p2 := p1.sat.update (getSlot_setSlot H j hg) hw (f := g) hf2
  rw [setSlot_setSlot] at p2
  exact p1.trans p2
section
variable (prog : Program) (w : World) {T : Tops}
theorem hRIter_ok (j : Nat) : HOk prog w T 0 (hRIter j) := by
  intro c H out e hi A s hA hS
  unfold hRIter at e
  refine bR_elim (P := fun c => CallsTo _ _ A c s _) e fun id a hid e1 => ?_
  refine onSl_elim e1 fun a' o hg e2 => ?_
  clear e e1
  cases e2
  obtain ⟨h1, h2, hh, h3⟩ := hi
  rw [is_range_iter_eq hid]
  have ea : a = a' := h1 (a, a') (.head _)
  subst ea
  have eo := slot_obj (H := H) (j := j) (hh _ (.head _))
  obtain ⟨m0, m1⟩ := h3 _ (.head _)
  have ho := getSlot_obj hS hg
  dsimp only at eo m0 m1 ho
  clear h1 h2 hh h3
  unfold hRIterO
  unfold rgOf at eo
  generalize vInt (oF o 1) = m at eo m0 m1 ⊢
  generalize vTok (oF o 0) = t at eo
  generalize vTok (oF o 1) = u at eo
  generalize vTok (oF o 2) = v at eo
  rw [eo] at ho
  have hsm : Builtin.Range.small 0 m 1 = true := by
    unfold Builtin.Range.small
    rw [rsize m0, fitsL (i := 0) (by lia) (by lia), fitsL (i := m) (by lia) (by lia), fitsL (i := 1) (by lia) (by lia), if_pos (by decide), fitsL (i := m + (1 - 1)) (by lia) (by lia)]
    simp
  refine CallsTo.of_code prog w (codeAny_meets F.slot_range_iter ⟨_, ho, rfl⟩ F.entry_range_iter (F.args_range_iter_1 _) (AutoRange.range___iter___range_1 a 0 m 1 t u v (by have hc := hsm; unfold Builtin.Range.small at hc; rw [hc]; decide)) ⟨ho, ?_⟩)
  unfold Builtin.Range.small at hsm
  simp only [hsm, if_true]
  have hp := hS.alloc (o := ritO 0 m 1) rfl
  refine ⟨[s.heap.objs.size], [], [], rfl, rfl, rfl, rfl, ?_⟩
  rw [rsize m0]
  exact hp
theorem hRRev_ok (j : Nat) : HOk prog w T 0 (hRRev j) := by
  intro c H out e hi A s hA hS
  unfold hRRev at e
  refine bR_elim (P := fun c => CallsTo _ _ A c s _) e fun id a hid e1 => ?_
  refine onSl_elim e1 fun a' o hg e2 => ?_
  clear e e1
  cases e2
  obtain ⟨h1, h2, hh, h3⟩ := hi
  rw [is_range_rev_eq hid]
  have ea : a = a' := h1 (a, a') (.head _)
  subst ea
  have eo := slot_obj (H := H) (j := j) (hh _ (.head _))
  obtain ⟨m0, m1⟩ := h3 _ (.head _)
  have ho := getSlot_obj hS hg
  dsimp only at eo m0 m1 ho
  clear h1 h2 hh h3
  unfold hRRevO
  unfold rgOf at eo
  generalize vInt (oF o 1) = m at eo m0 m1 ⊢
  generalize vTok (oF o 0) = t at eo
  generalize vTok (oF o 1) = u at eo
  generalize vTok (oF o 2) = v at eo
  rw [eo] at ho
  have hT : s.TypeIs (.ref a) "range" := ⟨_, ho, rfl⟩
  refine CallsTo.of_code prog w (codeAny_call_builtin F.slot_range_reversed.plain F.entry_range_reversed (F.slot_range_reversed.check _ _ _ _ _ _ _ _ hT (F.args_range_reversed_1 _) ?_))
  have hp := hS.alloc (o := ritO (m - 1) m (-1)) rfl
  show wpAny _ _ (Builtin.Range.rangeFields (.ref a) >>= _) _ _ s
  unfold Builtin.Range.rangeFields
  refine wpAny_bind (wpAny_bind (m := field (.ref a) 0) (wpAny_field ho (x := .int 0 t) rfl rfl ?_))
  show wpAny _ _ (field (.ref a) 1 >>= _) _ _ s
  refine wpAny_bind (wpAny_field ho (x := .int m u) rfl rfl ?_)
  show wpAny _ _ (field (.ref a) 2 >>= _) _ _ s
  refine wpAny_bind (wpAny_field ho (x := .int 1 v) rfl rfl ?_)
  refine wpAny_pure ?_
  show wpAny _ _ (if (!_) = true then _ else _) _ _ s
  rw [rsize m0, fitsL (i := 0) (by lia) (by lia), fitsL (i := m) (by lia) (by lia), fitsL (i := 1) (by lia) (by lia), fitsL (i := -1) (by lia) (by lia), fitsL (i := 0 - 1) (by lia) (by lia)]
  rw [show (0 : Int) + (m - 1) * 1 = m - 1 by lia]
  refine wpAny_bind (m := newFields "range_iterator" [rawInt (m - 1), rawInt m, rawInt (-1)]) ?_
  simp only [newFields]
  refine wpAny_newObj_type ?_ (by size_fits)
  exact wpAny_pure ⟨[s.heap.objs.size], [], [], rfl, rfl, rfl, rfl, hp⟩
theorem hRNext_ok (j : Nat) : HOk prog w T 0 (hRNext j) := by
  intro c H out e hi A s hA hS
  unfold hRNext at e
  refine bR_elim (P := fun c => CallsTo _ _ A c s _) e fun id a hid e1 => ?_
  refine onSl_elim e1 fun a' o hg e2 => ?_
  clear e e1
  cases e2
  obtain ⟨h1, h2, hh, h3⟩ := hi
  rw [is_rit_next_eq hid]
  have ea : a = a' := h1 (a, a') (.head _)
  subst ea
  have eo := slot_obj (H := H) (j := j) (hh _ (.head _))
  have m0 := h3 _ (.head _)
  have ho := getSlot_obj hS hg
  dsimp only at eo m0 ho
  clear h1 h2 hh h3
  unfold hRNextO
  unfold ritOf at eo
  generalize vInt (oF o 0) = x at eo ⊢
  generalize vInt (oF o 1) = n at eo m0 ⊢
  generalize vInt (oF o 2) = st at eo ⊢
  rw [eo] at ho hg
  refine CallsTo.of_code prog w (codeAny_meets F.slot_range_iterator_next ⟨_, ho, rfl⟩ F.entry_range_iterator_next (F.args_range_iterator_next_1 _) (AutoRange.range_iterator___next___range_iterator_1 a x n st (by lia)) ⟨ho, ?_⟩)
  refine ⟨[], [s.toks], [], rfl, rfl, rfl, rfl, ?_⟩
  exact (hS.update2 hg rfl (f := Obj.mapFields fun l => l.setIfInBounds 0 (rawInt (x + st))) (g := Obj.mapFields fun l => l.setIfInBounds 1 (rawInt (n - 1))) rfl rfl).toks (Nat.le_succ _)
theorem hRStop_ok (j : Nat) : HOk prog w T 0 (hRStop j) := by
  intro c H out e hi A s hA hS
  unfold hRStop at e
  refine bR_elim (P := fun c => CallsTo _ _ A c s _) e fun id a hid e1 => ?_
  refine onSl_elim e1 fun a' o hg e2 => ?_
  clear e e1
  cases e2
  obtain ⟨h1, h2, hh, h3⟩ := hi
  rw [is_rit_next_eq hid]
  have ea : a = a' := h1 (a, a') (.head _)
  subst ea
  have eo := slot_obj (H := H) (j := j) (hh _ (.head _))
  have m0 := h3 _ (.head _)
  have ho := getSlot_obj hS hg
  dsimp only at eo m0 ho
  clear h1 h2 hh h3
  unfold hRStopO
  unfold ritOf at eo
  generalize vInt (oF o 0) = x at eo
  generalize vInt (oF o 1) = n at eo m0
  generalize vInt (oF o 2) = st at eo
  rw [eo] at ho hg
  have p2 := hS.alloc (o := tup0) rfl
  have p3 := p2.sat.alloc (o := stopObj s.heap.objs.size) rfl
  refine CallsTo.of_code prog w (codeAny_call_builtin F.slot_range_iterator_next.plain F.entry_range_iterator_next (F.slot_range_iterator_next.check _ _ _ _ _ _ _ _ ⟨_, ho, rfl⟩ (F.args_range_iterator_next_1 _) ?_))
  show wpAny _ _ (field (.ref a) 0 >>= _) _ _ s
  refine wpAny_bind (wpAny_field ho rfl (x := rawInt x) rfl ?_)
  show wpAny _ _ (field (.ref a) 1 >>= _) _ _ s
  refine wpAny_bind (wpAny_field ho rfl (x := rawInt n) rfl ?_)
  show wpAny _ _ (field (.ref a) 2 >>= _) _ _ s
  refine wpAny_bind (wpAny_field ho rfl (x := rawInt st) rfl ?_)
  show wpAny _ _ (if n ≤ 0 then _ else _) _ _ s
  rw [if_pos m0]
  refine wpAny_bind (wpAny_rule ?_)
  refine wpAny_bind ?_
  show wpAny _ _ (newExc (.type "StopIteration") [] >>= _) _ _ _
  refine wpAny_bind ?_
  simp only [newExc, newTuple]
  refine wpAny_bind (wpAny_newObj_type ?_ (by size_fits))
  refine wpAny_bind (m := firstArgMember _ _) (wpAny_of_eq (a := Value.none) (by first | rfl | (simp only [firstArgMember]; rfl)) ?_)
  refine wpAny_newObj_type ?_ (by size_fits)
  simp only [raiseNew]
  refine wpAny_bind (wpAny_handled ?_)
  rw [show (A.mark none).in1.handled = none from hA.handled]
  refine wpAny_bind (wpAny_pure (wpAny_throw ?_))
  exact ⟨[_, _], [], [], rfl, rfl, rfl, rfl, p2.trans p3⟩
end
end Mine
namespace Mine
open PySem PySem.W PySem.W.X PyProof.Rows
noncomputable def hSuO (T : Tops) (j : Nat) (hs : List Bl) (p : Nat) (H : List Slot) (f : Nat) (a : Nat) (k : Int) (a' : Nat) (vs : List Value) (ep : Nat) : HOutP := ⟨⟨[(f, 60), (a, a')], [], [], [k = (p : Int), HB T vs hs, p < hs.length, hs.length < 100000], 0, 0, 1, fun _ _ _ => .ok (.ret .none), fun _ _ fs => setSlot H j (lst (valsOf fs) ep)⟩, fun _ _ fs => [HB T (valsOf fs) (suN hs p)]⟩
noncomputable def hSu (T : Tops) (j : Nat) (hs : List Bl) (p : Nat) : HandlerP := fun c H => rRI c (fun f a k _ => onL H j fun a' vs ep => some (hSuO T j hs p H f a k a' vs ep))
section
variable (prog : Program) (d : Source → Nat → Nat) (P : Params) (b1 b2 : Bool) {T : Tops} (hT : ∀ a o, (topT P).get a = some o → T a o)
include hT
theorem hSu_ok (j : Nat) (hs : List Bl) (pn : Nat) : HOkP prog (wd d P b1 b2) T 4 (hSu T j hs pn) := by
  intro c H out e hi A s hA hS
  unfold hSu at e
  refine rRI_elim (P := fun c => CallsTo _ _ A c s _) e fun f a k tk e1 => ?_
  refine onL_elim e1 fun a' vs ep hl e2 => ?_
  clear e e1
  cases e2
  obtain ⟨h1, h2, hh, h3⟩ := hi
  have e1 : f = 60 := h1 (f, 60) (.head _)
  have e2 : a = a' := h1 (a, a') (.tail _ (.head _))
  have c2 := h3 _ (.head _)
  have c3 := h3 _ (.tail _ (.head _))
  have c4 := h3 _ (.tail _ (.tail _ (.head _)))
  have c5 := h3 _ (.tail _ (.tail _ (.tail _ (.head _))))
  clear h1 h2 hh h3
  subst e1 e2 c2
  have hg := lstAt_eq hl
  refine CallsTo.of_code _ _ (codeAny_mono (su_call prog d P b1 b2 hT c3 c4 c5 _ s hA.mk' (hS.sub1 hg (w' := true) (fun _ => rfl))) ?_)
  rintro r s' ⟨H', ⟨rfl, vs', sl, hv, rfl⟩, hp⟩
  refine ⟨[], [], [⟨zeroI, zeroN, vs'.map fun v => (⟨#[]⟩, v), []⟩], rfl, rfl, rfl, rfl, all1 ?_, ?_⟩
  · rw [valsOf_mk]; exact hv
  · show Post T H s (setSlot H j (lst (valsOf _) ep)) s'
    rw [valsOf_mk]
    exact hp.liftW hS hg (by simp) ⟨_, .head _, rfl, rfl⟩
end
noncomputable def hpI : Stmt := stAt 4 1
noncomputable def hpEnv (P : Params) (L : Nat) : Env := envOf 39 (fdOf (to39 P)) L
noncomputable def hfF : Stmt := stAt 5 1
noncomputable def hfEnv (P : Params) (L : Nat) : Env := envOf 46 (fdOf (to46 P)) L
noncomputable def hfFor (P : Params) (L it : Nat) : Code := .forLoop (forT hfF) (.ref it) (forB hfF) [] (hfEnv P L)
section
variable (prog : Program) (P : Params) (b1 b2 : Bool)
variable {l L ep x a tn rg it kn : Nat} {κ : Nat → Int} {τ : Nat → Nat} {vs us : List Value} {hs : List Bl} {n k m sv0 : Int} {ro : Obj} {vi : Value} {Φ : Result → List Slot → Prop}
noncomputable def hp_p_h : List Hint := [.slot 1, .slot 1]
theorem hp_p (O : Orc) (l : Nat) (vs : List Value) (ep : Nat) : Seg (run (eE prog P b1 b2 O) 11 hp_p_h (.root (preZ 39 (fdOf (to39 P)) ⟨[.ref l], []⟩)) ⟨[wS l (lst vs ep)], 0, 0, 0⟩)
    [] (.pure (envOf 39 (fdOf (to39 P)) (O.addr 0))) [wS l (lst vs ep), wS (O.addr 0) (frm (ext zeroI 0 [hz prog (mkP P b1 b2) s_heap]) (ext zeroN 0 [O.tok 0]) [(s_heap, .ref l)])] := sg5 (by kernel_rfl)
noncomputable def hp_a_h (x : Nat) : List Hint := [.slot 1, .slot 0, .slot 0, .slot 0, .slot 0, .sum (hLPop 0 (.ref x)), .slot 1, .slot 1]
theorem hp_a (O : Orc) : Seg (run (eE prog P b1 b2 O) 25 (hp_a_h x) (.root (execsZ [stAt 4 0] (hpEnv P L))) ⟨[wS l (lst vs ep), wS L (frm κ τ [(s_heap, .ref l)])], 0, 0, 0⟩)
    [vs.length < 1000000, vs.getLast? = some (Value.ref x)] (.pure (Flow.next)) [wS l (lst (vs.dropLast) (ep + 1)), wS L (frm (ext κ 1 [hz prog (mkP P b1 b2) s_lastelt]) (ext τ 1 [O.tok 0]) [(s_heap, .ref l), (s_lastelt, .ref x)])] := sg5 (by kernel_rfl)
noncomputable def hp_t_h : List Hint := [.slot 1, .slot 0, .slot 0, .sum (hLenB 0)]
theorem hp_t (O : Orc) : Seg (run (eE prog P b1 b2 O) 12 hp_t_h (.root (isTrueZ (ifT hpI) (hpEnv P L) (evalZ (ifT hpI) (hpEnv P L)))) ⟨[wS l (lst (.ref a :: us) ep), wS L (frm κ τ [(s_heap, .ref l), (s_lastelt, .ref x)])], 0, 0, 0⟩)
    [(Value.ref a :: us).length < 1000000] (.pure (true)) [wS l (lst (Value.ref a :: us) (ep)), wS L (frm κ τ [(s_heap, .ref l), (s_lastelt, .ref x)])] := sg5 (by kernel_rfl)
noncomputable def hp_f_h : List Hint := [.slot 1, .slot 0, .slot 0, .sum (hLenB 0)]
theorem hp_f (O : Orc) : Seg (run (eE prog P b1 b2 O) 12 hp_f_h (.root (isTrueZ (ifT hpI) (hpEnv P L) (evalZ (ifT hpI) (hpEnv P L)))) ⟨[wS l (lst ([] : List Value) ep), wS L (frm κ τ [(s_heap, .ref l), (s_lastelt, .ref x)])], 0, 0, 0⟩)
    [([] : List Value).length < 1000000] (.pure (false)) [wS l (lst ([]) (ep)), wS L (frm κ τ [(s_heap, .ref l), (s_lastelt, .ref x)])] := sg5 (by kernel_rfl)
noncomputable def hp_b_h (T : Tops) (a : Nat) (hs : List Bl) : List Hint := [.slot 1, .slot 0, .slot 0, .slot 0, .sum (hLGet 0 (.ref a)), .slot 1, .slot 1, .slot 1, .slot 1, .slot 0, .slot 0, .sum (hLSet 0), .top, .slot 1, .top, .sump (hSu T 0 hs 0), .slot 1]
theorem hp_b {T : Tops} (O : Orc) : SegP (run (eE prog P b1 b2 O) 46 (hp_b_h T a hs) (.root (execsZ (ifB hpI) (hpEnv P L))) ⟨[wS l (lst (.ref a :: us) ep), wS L (frm κ τ [(s_heap, .ref l), (s_lastelt, .ref x)])], 0, 0, 0⟩)
    [(0 : Int) ≤ (0 : Int) ∧ (0 : Int) < (1000000 : Int), (Value.ref a :: us)[Int.toNat (0 : Int)]? = some (Value.ref a), (0 : Int) ≤ (0 : Int) ∧ (0 : Int) < (↑(Value.ref a :: us).length : Int) ∧ (Value.ref a :: us).length < 1000000, (0 : Int) = (↑0 : Int), HB T ((Value.ref a :: us).set (Int.toNat (0 : Int)) (Value.ref x)) hs, 0 < hs.length, hs.length < 100000] [HB T (valsOf [O.fr 0]) (suN hs 0)] (.pure (Flow.ret (.ref a))) [wS l (lst (valsOf [O.fr 0]) (ep)), wS L (frm (ext κ 2 [hz prog (mkP P b1 b2) s_returnitem]) (ext τ 2 [O.tok 1]) [(s_heap, .ref l), (s_lastelt, .ref x), (s_returnitem, .ref a)])] := ⟨sg5 (by kernel_rfl), by kernel_rfl⟩
noncomputable def hp_c_h : List Hint := [.slot 1]
theorem hp_c (O : Orc) : Seg (run (eE prog P b1 b2 O) 9 hp_c_h (.root (execsZ [stAt 4 2] (hpEnv P L))) ⟨[wS l (lst vs ep), wS L (frm κ τ [(s_heap, .ref l), (s_lastelt, .ref x)])], 0, 0, 0⟩)
    [] (.pure (Flow.ret (.ref x))) [wS l (lst vs ep), wS L (frm κ τ [(s_heap, .ref l), (s_lastelt, .ref x)])] := sg5 (by kernel_rfl)
noncomputable def hf_p_h : List Hint := [.slot 1, .slot 1]
theorem hf_p (O : Orc) (l : Nat) (vs : List Value) (ep : Nat) : Seg (run (eE prog P b1 b2 O) 11 hf_p_h (.root (preZ 46 (fdOf (to46 P)) ⟨[.ref l], []⟩)) ⟨[wS l (lst vs ep)], 0, 0, 0⟩)
    [] (.pure (envOf 46 (fdOf (to46 P)) (O.addr 0))) [wS l (lst vs ep), wS (O.addr 0) (frm (ext zeroI 0 [hz prog (mkP P b1 b2) s_x]) (ext zeroN 0 [O.tok 0]) [(s_x, .ref l)])] := sg5 (by kernel_rfl)
noncomputable def hf_a_h : List Hint := [.top, .top, .slot 1, .sum (hLen 0), .slot 1, .slot 1]
theorem hf_a (O : Orc) : Seg (run (eE prog P b1 b2 O) 22 hf_a_h (.root (execsZ [stAt 5 0] (hfEnv P L))) ⟨[wS l (lst vs ep), wS L (frm κ τ [(s_x, .ref l)])], 0, 0, 0⟩)
    [vs.length < 1000000] (.pure (Flow.next)) [wS l (lst vs ep), wS L (frm (ext κ 1 [hz prog (mkP P b1 b2) s_n]) (ext τ 1 [O.tok 1]) [(s_x, .ref l), (s_n, .int ((↑vs.length : Int)) (O.tok 0))])] := sg5 (by kernel_rfl)
noncomputable def hf_i_h : List Hint := [.top, .top, .top, .top, .slot 1, .call, .call, .call, .slot 2, .slot 2, .call, .slot 2, .slot 2, .call, .call, .slot 2, .sum (hRRev 2), .slot 3]
theorem hf_i (O : Orc) : Seg (run (eE prog P b1 b2 O) 52 hf_i_h (.root (evalZ (forI hfF) (hfEnv P L))) ⟨[wS l (lst vs ep), wS L (frm κ τ [(s_x, .ref l), (s_n, .int n tn)])], 0, 0, 0⟩)
    [0 ≤ Z.divQ n 2 ∧ Z.divQ n 2 < 1000000] (.pure (.ref (O.addr 1))) [wS l (lst vs ep), wS L (frm κ τ [(s_x, .ref l), (s_n, .int (n) (tn))]), wS (O.addr 0) (rgO (Z.divQ n 2) (O.tok 2) (O.tok 1) (O.tok 3)), wS (O.addr 1) (ritO (Z.divQ n 2 - 1) (Z.divQ n 2) (-1))] := sg5 (by kernel_rfl)
noncomputable def hf_it_h : List Hint := [.slot 3, .slot 3, .call, .slot 3, .slot 3]
theorem hf_it (O : Orc) : Seg (run (eE prog P b1 b2 O) 14 hf_it_h (.root (pyIterZ (.ref it))) ⟨[wS l (lst vs ep), wS L (frm κ τ [(s_x, .ref l), (s_n, .int n tn)]), wS rg ro, wS it (ritO k m sv0)], 0, 0, 0⟩)
    [] (.pure (.ref it)) [wS l (lst vs ep), wS L (frm κ τ [(s_x, .ref l), (s_n, .int (n) (tn))]), wS rg ro, wS it (ritO k m sv0)] := by cases b2 <;> exact sg5 (by kernel_rfl)
noncomputable def hf_g0_h (T : Tops) (hs : List Bl) (kn : Nat) : List Hint := [.slot 3, .sum (hRNext 3), .slot 1, .slot 1, .top, .slot 1, .slot 1, .top, .sump (hSu T 0 hs kn)]
theorem hf_g0 {T : Tops} (O : Orc) : SegP (run (eE prog P b1 b2 O) 27 (hf_g0_h T hs kn) (.root (denoteZ (hfFor P L it))) ⟨[wS l (lst vs ep), wS L (frm κ τ [(s_x, .ref l), (s_n, .int n tn)]), wS rg ro, wS it (ritO k m sv0)], 0, 0, 0⟩)
    [0 < m, k = (kn : Int), HB T vs hs, kn < hs.length, hs.length < 100000] [HB T (valsOf [O.fr 0]) (suN hs kn)] (.pure (.again (hfFor P L it))) [wS l (lst (valsOf [O.fr 0]) (ep)), wS L (frm (ext κ 2 [hz prog (mkP P b1 b2) s_i]) (ext τ 2 [O.tok 1]) [(s_x, .ref l), (s_n, .int (n) (tn)), (s_i, .int (vInt (oF (ritO k m sv0) 0)) (O.tok 0))]), wS rg ro, wS it (ritO (k + sv0) (m - 1) sv0)] := ⟨sg5 (by kernel_rfl), by kernel_rfl⟩
noncomputable def hf_x0_h : List Hint := [.slot 3, .sum (hRStop 3), .slot 5]
theorem hf_x0 (O : Orc) : Seg (run (eE prog P b1 b2 O) 10 hf_x0_h (.root (denoteZ (hfFor P L it))) ⟨[wS l (lst vs ep), wS L (frm κ τ [(s_x, .ref l), (s_n, .int n tn)]), wS rg ro, wS it (ritO k m sv0)], 0, 0, 0⟩)
    [m ≤ 0] (.pure (.again (Code.block [] (hfEnv P L)))) [wS l (lst vs ep), wS L (frm κ τ [(s_x, .ref l), (s_n, .int (n) (tn))]), wS rg ro, wS it (ritO k m sv0), wS (O.addr 0) tup0, wS (O.addr 1) (stopObj (O.addr 0))] := sg5 (by kernel_rfl)
noncomputable def hf_g1_h (T : Tops) (hs : List Bl) (kn : Nat) : List Hint := [.slot 3, .sum (hRNext 3), .slot 1, .slot 1, .top, .slot 1, .slot 1, .top, .sump (hSu T 0 hs kn)]
theorem hf_g1 {T : Tops} (O : Orc) : SegP (run (eE prog P b1 b2 O) 27 (hf_g1_h T hs kn) (.root (denoteZ (hfFor P L it))) ⟨[wS l (lst vs ep), wS L (frm κ τ [(s_x, .ref l), (s_n, .int n tn), (s_i, vi)]), wS rg ro, wS it (ritO k m sv0)], 0, 0, 0⟩)
    [0 < m, k = (kn : Int), HB T vs hs, kn < hs.length, hs.length < 100000] [HB T (valsOf [O.fr 0]) (suN hs kn)] (.pure (.again (hfFor P L it))) [wS l (lst (valsOf [O.fr 0]) (ep)), wS L (frm κ τ [(s_x, .ref l), (s_n, .int (n) (tn)), (s_i, .int (vInt (oF (ritO k m sv0) 0)) (O.tok 0))]), wS rg ro, wS it (ritO (k + sv0) (m - 1) sv0)] := ⟨sg5 (by kernel_rfl), by kernel_rfl⟩
noncomputable def hf_x1_h : List Hint := [.slot 3, .sum (hRStop 3), .slot 5]
theorem hf_x1 (O : Orc) : Seg (run (eE prog P b1 b2 O) 10 hf_x1_h (.root (denoteZ (hfFor P L it))) ⟨[wS l (lst vs ep), wS L (frm κ τ [(s_x, .ref l), (s_n, .int n tn), (s_i, vi)]), wS rg ro, wS it (ritO k m sv0)], 0, 0, 0⟩)
    [m ≤ 0] (.pure (.again (Code.block [] (hfEnv P L)))) [wS l (lst vs ep), wS L (frm κ τ [(s_x, .ref l), (s_n, .int (n) (tn)), (s_i, vi)]), wS rg ro, wS it (ritO k m sv0), wS (O.addr 0) tup0, wS (O.addr 1) (stopObj (O.addr 0))] := sg5 (by kernel_rfl)
end
section
variable (prog : Program) (d : Source → Nat → Nat) (P : Params) (b1 b2 : Bool) {T : Tops} (hT : ∀ a o, (topT P).get a = some o → T a o) {lv : Nat}
include hT
variable {l L ep x a tn rg it kn : Nat} {κ : Nat → Int} {τ : Nat → Nat} {vs us : List Value} {hs : List Bl} {n k m sv0 : Int} {ro : Obj} {vi : Value} {Φ : Result → List Slot → Prop}
theorem hp_p_ok (hl : 0 ≤ lv) : HsOk prog (wd d P b1 b2) T lv hp_p_h := trivial
theorem hp_p_x (hl : 0 ≤ lv) (hn : ∀ O : Orc, Tri prog (wd d P b1 b2) (lv + 1) T (.func (fnB (st 4)) (envOf 39 (fdOf (to39 P)) (O.addr 0))) [wS l (lst vs ep), wS (O.addr 0) (frm (ext zeroI 0 [hz prog (mkP P b1 b2) s_heap]) (ext zeroN 0 [O.tok 0]) [(s_heap, .ref l)])] Φ) : Tri prog (wd d P b1 b2) (lv + 1) T (.call (.ref 39) ⟨[.ref l], []⟩) [wS l (lst vs ep)] Φ :=
  tri_def hT (lv := lv) (hT 39 (to39 P) rfl) rfl rfl rfl rfl rfl (hT 38 (to38 P) rfl) rfl rfl (hT 2 (to2 P) rfl) rfl (hp_p_ok prog d P b1 b2 hT hl) (fun O => hp_p prog P b1 b2 O l vs ep) (fun O => mem0) hn
theorem hp_a_ok (hl : 1 ≤ lv) : HsOk prog (wd d P b1 b2) T lv (hp_a_h x) := ⟨(hLPop_ok _ _).mono _ _ _ (lw hl), trivial⟩
theorem hp_t_ok (hl : 1 ≤ lv) : HsOk prog (wd d P b1 b2) T lv hp_t_h := ⟨(hLenB_ok _).mono _ _ _ (lw hl), trivial⟩
theorem hp_f_ok (hl : 1 ≤ lv) : HsOk prog (wd d P b1 b2) T lv hp_f_h := ⟨(hLenB_ok _).mono _ _ _ (lw hl), trivial⟩
theorem hp_b_ok (hl : 4 ≤ lv) : HsOk prog (wd d P b1 b2) T lv (hp_b_h T a hs) := ⟨(hLGet_ok _ _).mono _ _ _ (lw hl), (hLSet_ok _).mono _ _ _ (lw hl), (hSu_ok prog d P b1 b2 hT _ _ _).mono _ _ _ hl, trivial⟩
theorem hp_c_ok (hl : 1 ≤ lv) : HsOk prog (wd d P b1 b2) T lv hp_c_h := trivial
theorem hf_p_ok (hl : 0 ≤ lv) : HsOk prog (wd d P b1 b2) T lv hf_p_h := trivial
theorem hf_p_x (hl : 0 ≤ lv) (hn : ∀ O : Orc, Tri prog (wd d P b1 b2) (lv + 1) T (.func (fnB (st 5)) (envOf 46 (fdOf (to46 P)) (O.addr 0))) [wS l (lst vs ep), wS (O.addr 0) (frm (ext zeroI 0 [hz prog (mkP P b1 b2) s_x]) (ext zeroN 0 [O.tok 0]) [(s_x, .ref l)])] Φ) : Tri prog (wd d P b1 b2) (lv + 1) T (.call (.ref 46) ⟨[.ref l], []⟩) [wS l (lst vs ep)] Φ :=
  tri_def hT (lv := lv) (hT 46 (to46 P) rfl) rfl rfl rfl rfl rfl (hT 45 (to45 P) rfl) rfl rfl (hT 2 (to2 P) rfl) rfl (hf_p_ok prog d P b1 b2 hT hl) (fun O => hf_p prog P b1 b2 O l vs ep) (fun O => mem0) hn
theorem hf_a_ok (hl : 1 ≤ lv) : HsOk prog (wd d P b1 b2) T lv hf_a_h := ⟨(hLen_ok _).mono _ _ _ (lw hl), trivial⟩
theorem hf_i_ok (hl : 1 ≤ lv) : HsOk prog (wd d P b1 b2) T lv hf_i_h := ⟨(hRRev_ok _ _ _).mono _ _ _ (lw hl), trivial⟩
theorem hf_it_ok (hl : 1 ≤ lv) : HsOk prog (wd d P b1 b2) T lv hf_it_h := trivial
theorem hf_g0_ok (hl : 4 ≤ lv) : HsOk prog (wd d P b1 b2) T lv (hf_g0_h T hs kn) := ⟨(hRNext_ok _ _ _).mono _ _ _ (lw hl), (hSu_ok prog d P b1 b2 hT _ _ _).mono _ _ _ hl, trivial⟩
theorem hf_x0_ok (hl : 4 ≤ lv) : HsOk prog (wd d P b1 b2) T lv hf_x0_h := ⟨(hRStop_ok _ _ _).mono _ _ _ (lw hl), trivial⟩
theorem hf_g1_ok (hl : 4 ≤ lv) : HsOk prog (wd d P b1 b2) T lv (hf_g1_h T hs kn) := ⟨(hRNext_ok _ _ _).mono _ _ _ (lw hl), (hSu_ok prog d P b1 b2 hT _ _ _).mono _ _ _ hl, trivial⟩
theorem hf_x1_ok (hl : 4 ≤ lv) : HsOk prog (wd d P b1 b2) T lv hf_x1_h := ⟨(hRStop_ok _ _ _).mono _ _ _ (lw hl), trivial⟩
end
theorem hp_body : fnB (st 4) = [stAt 4 0] ++ (.If (ifT hpI) (ifB hpI) [] hpI.pos :: [stAt 4 2]) := by kernel_rfl
theorem hf_body : fnB (st 5) = [stAt 5 0] ++ [.For (forT hfF) (forI hfF) (forB hfF) [] hfF.pos] := by kernel_rfl
theorem tri_block_nil {prog : Program} {w : World} {T : Tops} {lv : Nat} {H : List Slot} {env : Env} {Φ : Result → List Slot → Prop} (h : Φ (.ok .next) H) : Tri prog w lv T (.block [] env) H Φ := fun A s hA hS =>
  codeAny_block (wpAny_execs_nil ⟨H, h, Post.refl hS⟩)
theorem hfyGo_len : ∀ n (hs : List Bl), (hfyGo n hs).length = hs.length
  | 0, hs => rfl
  | n + 1, hs => by unfold hfyGo; rw [hfyGo_len n, suN_len]
noncomputable def hfR (r : List (Str × Value)) : Prop := r = [] ∨ ∃ w, r = [(s_i, w)]
noncomputable def hfB (κ : Nat → Int) (τ : Nat → Nat) (l : Nat) (n : Int) (tn : Nat) (r : List (Str × Value)) : Obj := frm κ τ ((s_x, .ref l) :: (s_n, .int n tn) :: r)
section
variable (prog : Program) (d : Source → Nat → Nat) (P : Params) (b1 b2 : Bool) {T : Tops} (hT : ∀ a o, (topT P).get a = some o → T a o)
include hT
theorem hf_loop {l L ep rg it : Nat} {n : Int} {tn : Nat} {ro : Obj} :
    ∀ (k : Nat) (hs : List Bl) (vs : List Value) (κ : Nat → Int) (τ : Nat → Nat) (r : List (Str × Value)), HB T vs hs → hfR r → k ≤ hs.length → hs.length < 100000 →
    Tri prog (wd d P b1 b2) 5 T (hfFor P L it) [⟨true, l, lst vs ep⟩, ⟨true, L, hfB κ τ l n tn r⟩, ⟨true, rg, ro⟩, ⟨true, it, ritO ((k : Int) - 1) k (-1)⟩] (okF fun f H' => f = .next ∧ ∃ vs', HB T vs' (hfyGo k hs) ∧ ∃ R, H' = ⟨true, l, lst vs' ep⟩ :: R)
  | 0, hs, vs, κ, τ, r, hv, hr, hk, hl => by
    rcases hr with rfl | ⟨w, rfl⟩
    · exact jaA hT (hf_x0 prog P b1 b2) (hf_x0_ok prog d P b1 b2 hT (by decide)) (fun O => k1 (by lia)) fun O => tri_block_nil ⟨.next, rfl, rfl, vs, hv, _, rfl⟩
    · exact jaA hT (hf_x1 prog P b1 b2) (hf_x1_ok prog d P b1 b2 hT (by decide)) (fun O => k1 (by lia)) fun O => tri_block_nil ⟨.next, rfl, rfl, vs, hv, _, rfl⟩
  | k + 1, hs, vs, κ, τ, r, hv, hr, hk, hl => by
    have e1 : (((k + 1 : Nat) : Int) - 1) = (k : Int) := by lia
    have e2 : (((k + 1 : Nat) : Int) - 1 + -1) = (k : Int) - 1 := by lia
    have go : ∀ (κ : Nat → Int) (τ : Nat → Nat) (r : List (Str × Value)) (vs' : List Value), HB T vs' (suN hs k) → hfR r → Tri prog (wd d P b1 b2) 5 T (hfFor P L it) [⟨true, l, lst vs' ep⟩, ⟨true, L, hfB κ τ l n tn r⟩, ⟨true, rg, ro⟩, ⟨true, it, ritO (((k + 1 : Nat) : Int) - 1 + -1) (((k + 1 : Nat) : Int) - 1) (-1)⟩] (okF fun f H' => f = .next ∧ ∃ vs', HB T vs' (hfyGo (k + 1) hs) ∧ ∃ R, H' = ⟨true, l, lst vs' ep⟩ :: R) := fun κ τ r vs' hv' hr' => by
      rw [e2, e1]
      exact hf_loop k (suN hs k) vs' κ τ r hv' hr' (by rw [suN_len]; lia) (by rw [suN_len]; exact hl)
    rcases hr with rfl | ⟨w, rfl⟩
    · exact jaAP hT (hf_g0 prog P b1 b2 (hs := hs) (kn := k)) (hf_g0_ok prog d P b1 b2 hT (by decide)) (fun O => k5 (by lia) e1 hv (by lia) hl) fun O hq => go _ _ _ _ hq (.inr ⟨_, rfl⟩)
    · exact jaAP hT (hf_g1 prog P b1 b2 (hs := hs) (kn := k)) (hf_g1_ok prog d P b1 b2 hT (by decide)) (fun O => k5 (by lia) e1 hv (by lia) hl) fun O hq => go _ _ _ _ hq (.inr ⟨_, rfl⟩)
theorem hf_call {l : Nat} {vs : List Value} {ep : Nat} {hs : List Bl} (hv : HB T vs hs) (hl : hs.length < 100000) :
    Tri prog (wd d P b1 b2) 6 T (.call (.ref 46) ⟨[.ref l], []⟩) [⟨true, l, lst vs ep⟩] (fun r H' => r = .ok (.ret .none) ∧ ∃ vs', HB T vs' (hfyN hs) ∧ ∃ R, H' = ⟨true, l, lst vs' ep⟩ :: R) := by
  refine hf_p_x prog d P b1 b2 hT (lv := 5) (by lia) fun O => ?_
  rw [hf_body]
  refine tri_func (lv := 5) (tx_app ?_)
  have len := hv.1
  refine jaE hT (hf_a prog P b1 b2) (hf_a_ok prog d P b1 b2 hT (by decide)) (fun O => k1 (by lia)) fun O' => ⟨rfl, ?_⟩
  have ed : Z.divQ (vs.length : Int) 2 = ((hs.length / 2 : Nat) : Int) := by
    have := divQ_nat vs.length 0
    simp only [Int.natCast_zero, Int.add_zero, Nat.add_zero] at this
    rw [this, len]
  refine tx_execs_cons (tx_For (fun _ => rfl) ?_)
  refine jaV hT (hf_i prog P b1 b2) (hf_i_ok prog d P b1 b2 hT (by decide)) (fun O => k1 (by rw [ed]; lia)) fun O2 => ?_
  refine jaI hT (hf_it prog P b1 b2) (hf_it_ok prog d P b1 b2 hT (by decide)) k0 fun O3 => ?_
  rw [ed]
  refine (hf_loop prog d P b1 b2 hT (hs.length / 2) hs vs _ _ [] hv (.inl rfl) (by lia) hl).mono _ _ (by lia) ?_
  rintro r H' ⟨f, rfl, rfl, vs', hv', R, rfl⟩
  exact ⟨.next, rfl, tx_execs_nil ⟨rfl, vs', hv', R, rfl⟩⟩
theorem hp_call {l : Nat} {vs : List Value} {ep : Nat} {hs : List Bl} (hv : HB T vs hs) (h0 : 0 < hs.length) (hl : hs.length < 100000) :
    Tri prog (wd d P b1 b2) 5 T (.call (.ref 39) ⟨[.ref l], []⟩) [⟨true, l, lst vs ep⟩] (fun r H' => ∃ a, r = .ok (.ret (.ref a)) ∧ Rb T (.ref a) (gB hs 0) ∧ ∃ vs', HB T vs' (popN hs) ∧ ∃ R, H' = ⟨true, l, lst vs' (ep + 1)⟩ :: R) := by
  refine hp_p_x prog d P b1 b2 hT (lv := 4) (by lia) fun O => ?_
  rw [hp_body]
  refine tri_func (lv := 4) (tx_app ?_)
  have len := hv.1
  obtain ⟨v, gv, rv⟩ : ∃ v, vs[hs.length - 1]? = some v ∧ Rb T v (gB hs (hs.length - 1)) := hv.get (by lia) (0, 0)
  obtain ⟨x, tx, tx2, rfl, hx5, hTx⟩ := id rv
  refine jaE hT (hp_a prog P b1 b2 (x := x)) (hp_a_ok prog d P b1 b2 hT (by decide)) (fun O => k2 (by lia) (by rw [List.getLast?_eq_getElem?, len]; exact gv)) fun O' => ⟨rfl, ?_⟩
  have hv1 := hv.dropLast
  by_cases h1 : hs.length = 1
  · have e0 : vs.dropLast = [] := by rw [← List.length_eq_zero_iff, List.length_dropLast]; lia
    rw [e0]
    refine tx_execs_cons (tx_If (jaB hT (hp_f prog P b1 b2) (hp_f_ok prog d P b1 b2 hT (by decide)) (fun O => k1 (by simp)) fun O2 => ?_))
    refine it_f ?_
    refine tx_execs_nil ?_
    refine jaE hT (hp_c prog P b1 b2) (hp_c_ok prog d P b1 b2 hT (by decide)) k0 fun O3 => ⟨x, rfl, ?_, [], ?_, _, rfl⟩
    · rw [h1] at rv; exact rv
    · unfold popN; rw [if_pos (by lia)]; exact Al.nil
  · obtain ⟨w, gw, rw'⟩ : ∃ v, vs.dropLast[0]? = some v ∧ Rb T v (gB hs.dropLast 0) := hv1.get (by simp; lia) (0, 0)
    obtain ⟨a, ta, ta2, rfl, ha5, hTa⟩ := id rw'
    obtain ⟨us, eu⟩ : ∃ us, vs.dropLast = .ref a :: us := by
      cases h : vs.dropLast with
      | nil => rw [h] at gw; cases gw
      | cons w us => rw [h] at gw; cases gw; exact ⟨us, rfl⟩
    have e0 : gB hs.dropLast 0 = gB hs 0 := by
      unfold gB
      rw [List.getD_eq_getElem?_getD, List.getD_eq_getElem?_getD, List.getElem?_dropLast, if_pos (by lia)]
    rw [eu]
    have lu : us.length + 1 = hs.length - 1 := by
      have := congrArg List.length eu
      simp at this; lia
    refine tx_execs_cons (tx_If (jaB hT (hp_t prog P b1 b2) (hp_t_ok prog d P b1 b2 hT (by decide)) (fun O => k1 (by simp; lia)) fun O2 => ?_))
    refine it_t ?_
    have hset : HB T ((Value.ref a :: us).set 0 (.ref x)) (hs.dropLast.set 0 (gB hs (hs.length - 1))) := by rw [← eu]; exact hv1.set 0 rv
    refine jaEP hT (hp_b prog P b1 b2 (hs := hs.dropLast.set 0 (gB hs (hs.length - 1)))) (hp_b_ok prog d P b1 b2 hT (by decide)) (fun O => k7 (by lia) rfl (by simp; lia) rfl hset (by simp; lia) (by simp; lia)) fun O3 hq => ⟨a, rfl, by rw [← e0]; exact rw', _, ?_, _, rfl⟩
    unfold popN; rw [if_neg (by lia)]; exact hq
end
section
variable {T : Tops} {H H1 R : List Slot} {s s' : Shared}
theorem Post.frame (hS : Sat T s (H ++ R)) (hP : Post T H s H1 s') (hro : ∀ x ∈ H1, x.w = false → x ∈ H) : Post T (H ++ R) s (H1 ++ R) s' := by
  have hap := List.pairwise_append.mp hS.apart
  refine hP.lift hS (fun x hx hw => ⟨x, List.mem_append_left _ hx, hw, rfl⟩) (fun y hy => ?_) (List.pairwise_append.mpr ⟨hP.sat.apart, hap.2.1, fun x hx y hy hw => ?_⟩)
  · rcases List.mem_append.mp hy with hy | hy
    · exact .inl ⟨y, hy, rfl, rfl, fun h => .inl h⟩
    · exact .inr ⟨List.mem_append_right _ hy, fun x hx hw => hap.2.2 x hx y hy (.inl hw)⟩
  · cases hxw : x.w with
    | false => exact hap.2.2 x (hro x hx hxw) y hy hw
    | true =>
      rcases hP.grow x hx hxw with ⟨s0, h0, w0, e0⟩ | hle
      · rw [← e0]; exact hap.2.2 s0 h0 y hy (.inl w0)
      · have := Heap.lt_size (hS.has y (List.mem_append_right _ hy))
        exact Nat.ne_of_gt (Nat.lt_of_lt_of_le this hle)
/-- facts of slots -/
noncomputable def plus (T : Tops) (R : List Slot) : Tops := fun a o => T a o ∨ ∃ x ∈ R, x.a = a ∧ x.o = o
theorem Sat.plus (hS : Sat T s (H ++ R)) : Sat (plus T R) s H := by
  have hap := List.pairwise_append.mp hS.apart
  refine ⟨fun a o h => ?_, hS.gens, hS.toks, fun x hx => hS.has x (List.mem_append_left _ hx), hap.1, fun x hx hw o h => ?_⟩
  · rcases h with h | ⟨x, hx, rfl, rfl⟩
    · exact hS.top a o h
    · exact hS.has x (List.mem_append_right _ hx)
  · rcases h with h | ⟨y, hy, e, _⟩
    · exact hS.wr x (List.mem_append_left _ hx) hw o h
    · exact hap.2.2 x hx y hy (.inl hw) e.symm
theorem Post.minus (hS : Sat T s (H ++ R)) (hP : Post (Mine.plus T R) H s H1 s') : Post T (H ++ R) s H1 s' :=
  ⟨⟨fun a o h => hP.sat.top a o (.inl h), hP.sat.gens, hP.sat.toks, hP.sat.has, hP.sat.apart, fun x hx hw o h => hP.sat.wr x hx hw o (.inl h)⟩,
    ⟨hP.keep.size, fun a o ha hn => hP.keep.keep a o ha fun x hx => hn x (List.mem_append_left _ hx), hP.keep.drawn, hP.keep.os, hP.keep.toks⟩,
    fun x hx hw => (hP.grow x hx hw).elim (fun ⟨y, hy, r⟩ => .inl ⟨y, List.mem_append_left _ hy, r⟩) .inr⟩
theorem Sat.perm {H2 : List Slot} (hS : Sat T s H) (h : H.Perm H2) : Sat T s H2 :=
  ⟨hS.top, hS.gens, hS.toks, fun x hx => hS.has x (h.mem_iff.mpr hx), (h.pairwise_iff (fun {x y} hxy hw => Ne.symm (hxy hw.symm))).mp hS.apart, fun x hx => hS.wr x (h.mem_iff.mpr hx)⟩
theorem Post.perm {H2 H3 : List Slot} (hP : Post T H s H1 s') (h : H.Perm H2) (h1 : H1.Perm H3) : Post T H2 s H3 s' :=
  ⟨hP.sat.perm h1, ⟨hP.keep.size, fun a o ha hn => hP.keep.keep a o ha fun x hx => hn x (h.mem_iff.mp hx), hP.keep.drawn, hP.keep.os, hP.keep.toks⟩,
    fun x hx hw => (hP.grow x (h1.mem_iff.mpr hx) hw).elim (fun ⟨y, hy, r⟩ => .inl ⟨y, h.mem_iff.mp hy, r⟩) .inr⟩
end
section
variable {prog : Program} {w : World} {T : Tops} {lv : Nat} {H R : List Slot}
theorem Tri.frame {c : Code} {Φ : Result → List Slot → Prop} (h : Tri prog w lv T c H Φ) (hro : ∀ r H1, Φ r H1 → ∀ x ∈ H1, x.w = false → x ∈ H) : Tri prog w lv T c (H ++ R) (fun r H' => ∃ H1, Φ r H1 ∧ H' = H1 ++ R) := fun A s hA hS =>
  codeAny_mono (h A s hA (hS.part (List.sublist_append_left _ _))) fun r s' ⟨H1, p, q⟩ => ⟨H1 ++ R, ⟨H1, p, rfl⟩, q.frame hS (hro r H1 p)⟩
theorem Tx.frame {α : Type} {t : Sem α} {Φ : α → List Slot → Prop} (h : Tx prog w lv T t H Φ) (hro : ∀ r H1, Φ r H1 → ∀ x ∈ H1, x.w = false → x ∈ H) : Tx prog w lv T t (H ++ R) (fun r H' => ∃ H1, Φ r H1 ∧ H' = H1 ++ R) := fun A s hA hS =>
  wpAny_mono (h A s hA (hS.part (List.sublist_append_left _ _))) (fun r s' ⟨H1, p, q⟩ => ⟨H1 ++ R, ⟨H1, p, rfl⟩, q.frame hS (hro r H1 p)⟩) fun _ _ x => x
theorem Tri.plus {c : Code} {Φ : Result → List Slot → Prop} (h : Tri prog w lv (plus T R) c H Φ) : Tri prog w lv T c (H ++ R) Φ := fun A s hA hS =>
  codeAny_mono (h A s hA hS.plus) fun r s' ⟨H1, p, q⟩ => ⟨H1, p, q.minus hS⟩
theorem Tx.plus {α : Type} {t : Sem α} {Φ : α → List Slot → Prop} (h : Tx prog w lv (plus T R) t H Φ) : Tx prog w lv T t (H ++ R) Φ := fun A s hA hS =>
  wpAny_mono (h A s hA hS.plus) (fun r s' ⟨H1, p, q⟩ => ⟨H1, p, q.minus hS⟩) fun _ _ x => x
theorem Tri.perm {c : Code} {Φ : Result → List Slot → Prop} {H2 : List Slot} (h : Tri prog w lv T c H Φ) (hp : H.Perm H2) : Tri prog w lv T c H2 (fun r H' => ∃ H1, Φ r H1 ∧ H1.Perm H') := fun A s hA hS =>
  codeAny_mono (h A s hA (hS.perm hp.symm)) fun r s' ⟨H1, p, q⟩ => ⟨H1, ⟨H1, p, .refl _⟩, q.perm hp (.refl _)⟩
theorem Tri.permI {c : Code} {Φ : Result → List Slot → Prop} {H2 : List Slot} (h : Tri prog w lv T c H Φ) (hp : H.Perm H2) : Tri prog w lv T c H2 Φ := fun A s hA hS =>
  codeAny_mono (h A s hA (hS.perm hp.symm)) fun r s' ⟨H1, p, q⟩ => ⟨H1, p, q.perm hp (.refl _)⟩
theorem Tx.permI {α : Type} {t : Sem α} {Φ : α → List Slot → Prop} {H2 : List Slot} (h : Tx prog w lv T t H Φ) (hp : H.Perm H2) : Tx prog w lv T t H2 Φ := fun A s hA hS =>
  wpAny_mono (h A s hA (hS.perm hp.symm)) (fun r s' ⟨H1, p, q⟩ => ⟨H1, p, q.perm hp (.refl _)⟩) fun _ _ x => x
end
noncomputable def envOfC (a : Nat) (fd : FuncData) (L : Nat) (cs : List (Str × Addr)) : Env := { scope := fd.scope, locals := L, globals := fd.globals, cells := cs ++ fd.closure, qual := fd.qualname ++ sx8, func := some a, code := fd.code, frame := some L, builtins := fd.builtins }
noncomputable def celO (v : Value) : Obj := ⟨.type "cell", none, .cell (some v), #[]⟩
noncomputable def lpEnv (P : Params) (L C : Nat) : Env := envOfC 128 (fdOf (to128 P)) L [(s_strip, C)]
noncomputable def dct (κ : Nat → Int) (τ : Nat → Nat) (nv : List (Str × Value)) : Obj := ⟨.type "dict", none, .dict ⟨frmE κ τ 0 nv⟩ nv.length, #[]⟩
noncomputable def asV : Stmt → PySem.Expr
  | .Assign _ v _ => v
  | _ => default
noncomputable def lcS (e : PySem.Expr) : Scope := (xV e).2.2
/-- a comprehension's own env -/
noncomputable def compEnv (e : Env) (sc : Scope) (D : Nat) : Env := { scope := { sc with names := sc.names.map fun p => if p.2 == .free then (p.1, .cell) else p }, locals := D, globals := e.globals, cells := e.cells, qual := e.qual, func := none, code := e.code, frame := e.frame, builtins := e.builtins }
noncomputable def lpC : PySem.Expr := asV (stAt 14 0)
noncomputable def lpCStart (P : Params) (L C D it acc : Nat) : Code := .compStart lpC 0 (.ref it) (.ref acc) (compEnv (lpEnv P L C) (lcS lpC) D)
noncomputable def lpCLoop (P : Params) (L C D it acc : Nat) : Code := .compLoop lpC 0 (.ref it) (.ref acc) (compEnv (lpEnv P L C) (lcS lpC) D)
noncomputable def lc_st_h : List Hint := []
theorem lc_st (prog : Program) (P : Params) (b1 b2 : Bool) (O : Orc) (l L C rg it ac D : Nat) (κ κ2 : Nat → Int) (τ τ2 : Nat → Nat) (vs : List Value) (ep : Nat) (ro : Obj) (k m st : Int) (av : List Value) (ea : Nat) : Seg (run (eE prog P true b2 O) 7 (lc_st_h) (.root (denoteZ (lpCStart P L C D it ac))) ⟨[wS l (lst vs ep), wS L (frm κ τ []), wS C (celO (.ref l)), wS rg ro, wS it (ritO k m st), wS ac (lst av ea), wS D (dct κ2 τ2 [])], 0, 0, 0⟩)
    [] (.pure (.again (lpCLoop P L C D it ac))) [wS (l) (lst (vs) (ep)), wS (L) (frm κ τ []), wS (C) (celO (.ref l)), wS (rg) ro, wS (it) (ritO k m st), wS (ac) (lst (av) (ea)), wS (D) (dct κ2 τ2 [])] := sg5 (by kernel_rfl)
theorem lc_st_ok (prog : Program) (d : Source → Nat → Nat) (P : Params) (b1 b2 : Bool) {T : Tops} (hT : ∀ a o, (topT P).get a = some o → T a o) {lv : Nat} (hl : 1 ≤ lv) : HsOk prog (wd d P true b2) T lv (lc_st_h) := trivial
theorem lc_st_x (prog : Program) (d : Source → Nat → Nat) (P : Params) (b1 b2 : Bool) {T : Tops} (hT : ∀ a o, (topT P).get a = some o → T a o) {lv : Nat} (hl : 1 ≤ lv) {l L C rg it ac D : Nat} {κ κ2 : Nat → Int} {τ τ2 : Nat → Nat} {vs : List Value} {ep : Nat} {ro : Obj} {k m st : Int} {av : List Value} {ea : Nat} {Φ : Result → List Slot → Prop} (hn : ∀ O : Orc, Tri prog (wd d P true b2) (lv + 1) T (lpCLoop P L C D it ac) [wS (l) (lst (vs) (ep)), wS (L) (frm κ τ []), wS (C) (celO (.ref l)), wS (rg) ro, wS (it) (ritO k m st), wS (ac) (lst (av) (ea)), wS (D) (dct κ2 τ2 [])] Φ) : Tri prog (wd d P true b2) (lv + 1) T (lpCStart P L C D it ac) [wS l (lst vs ep), wS L (frm κ τ []), wS C (celO (.ref l)), wS rg ro, wS it (ritO k m st), wS ac (lst av ea), wS D (dct κ2 τ2 [])] Φ :=
  tri_again hT (lv := lv) rfl (lc_st_ok prog d P b1 b2 hT hl  ) (fun O => lc_st prog P b1 b2 O l L C rg it ac D κ κ2 τ τ2 vs ep ro k m st av ea) (fun O => mem0) (fun _ => rfl) hn
noncomputable def lc_sf_h : List Hint := [.slot 4, .slot 4, .call, .slot 4, .slot 4]
theorem lc_sf (prog : Program) (P : Params) (b1 b2 : Bool) (O : Orc) (l L C rg it ac D : Nat) (κ κ2 : Nat → Int) (τ τ2 : Nat → Nat) (vs : List Value) (ep : Nat) (ro : Obj) (k m st : Int) (av : List Value) (ea : Nat) : Seg (run (eE prog P false b2 O) 17 (lc_sf_h) (.root (denoteZ (lpCStart P L C D it ac))) ⟨[wS l (lst vs ep), wS L (frm κ τ []), wS C (celO (.ref l)), wS rg ro, wS it (ritO k m st), wS ac (lst av ea), wS D (dct κ2 τ2 [])], 0, 0, 0⟩)
    [] (.pure (.again (lpCLoop P L C D it ac))) [wS (l) (lst (vs) (ep)), wS (L) (frm κ τ []), wS (C) (celO (.ref l)), wS (rg) ro, wS (it) (ritO k m st), wS (ac) (lst (av) (ea)), wS (D) (dct κ2 τ2 [])] := by cases b2 <;> exact sg5 (by kernel_rfl)
theorem lc_sf_ok (prog : Program) (d : Source → Nat → Nat) (P : Params) (b1 b2 : Bool) {T : Tops} (hT : ∀ a o, (topT P).get a = some o → T a o) {lv : Nat} (hl : 1 ≤ lv) : HsOk prog (wd d P false b2) T lv (lc_sf_h) := trivial
theorem lc_sf_x (prog : Program) (d : Source → Nat → Nat) (P : Params) (b1 b2 : Bool) {T : Tops} (hT : ∀ a o, (topT P).get a = some o → T a o) {lv : Nat} (hl : 1 ≤ lv) {l L C rg it ac D : Nat} {κ κ2 : Nat → Int} {τ τ2 : Nat → Nat} {vs : List Value} {ep : Nat} {ro : Obj} {k m st : Int} {av : List Value} {ea : Nat} {Φ : Result → List Slot → Prop} (hn : ∀ O : Orc, Tri prog (wd d P false b2) (lv + 1) T (lpCLoop P L C D it ac) [wS (l) (lst (vs) (ep)), wS (L) (frm κ τ []), wS (C) (celO (.ref l)), wS (rg) ro, wS (it) (ritO k m st), wS (ac) (lst (av) (ea)), wS (D) (dct κ2 τ2 [])] Φ) : Tri prog (wd d P false b2) (lv + 1) T (lpCStart P L C D it ac) [wS l (lst vs ep), wS L (frm κ τ []), wS C (celO (.ref l)), wS rg ro, wS it (ritO k m st), wS ac (lst av ea), wS D (dct κ2 τ2 [])] Φ :=
  tri_again hT (lv := lv) rfl (lc_sf_ok prog d P b1 b2 hT hl  ) (fun O => lc_sf prog P b1 b2 O l L C rg it ac D κ κ2 τ τ2 vs ep ro k m st av ea) (fun O => mem0) (fun _ => rfl) hn
noncomputable def lc_t0t_h (sx : Str) (tx : Nat) : List Hint := [.slot 4, .sum (hRNext 4), .slot 6, .slot 6, .slot 2, .slot 6, .slot 0, .slot 0, .slot 0, .sum (hLGet 0 (.str sx tx)), .sum (hSNe true), .slot 2, .slot 6, .slot 0, .slot 0, .slot 0, .sum (hLGet 0 (.str sx tx)), .slot 6, .sum (hLApp 5)]
theorem lc_t0t (prog : Program) (P : Params) (b1 b2 : Bool) (O : Orc) (l L C rg it ac D : Nat) (κ κ2 : Nat → Int) (τ τ2 : Nat → Nat) (vs : List Value) (ep : Nat) (ro : Obj) (k m st : Int) (av : List Value) (ea : Nat) (sx : Str) (tx : Nat) : Seg (run (eE prog P b1 b2 O) 43 (lc_t0t_h sx tx) (.root (denoteZ (lpCLoop P L C D it ac))) ⟨[wS l (lst vs ep), wS L (frm κ τ []), wS C (celO (.ref l)), wS rg ro, wS it (ritO k m st), wS ac (lst av ea), wS D (dct κ2 τ2 [])], 0, 0, 0⟩)
    [(0 : Int) < m, (0 : Int) ≤ k ∧ k < (1000000 : Int), vs[(k).toNat]? = some (Value.str sx tx), (!sx.cps.toList == (⟨#[]⟩ : Str).cps.toList) = true, (0 : Int) ≤ k ∧ k < (1000000 : Int), vs[(k).toNat]? = some (Value.str sx tx), av.length < 1000000] (.pure (.again (lpCLoop P L C D it ac))) [wS (l) (lst (vs) (ep)), wS (L) (frm κ τ []), wS (C) (celO (.ref l)), wS (rg) ro, wS (it) (ritO (k + st) (m - 1) st), wS (ac) (lst (av ++ [Value.ref (O.1 0)]) (ea + 1)), wS (D) (dct (ext zeroI 0 [hz prog (mkP P b1 b2) s_k]) (ext zeroN 0 [(O.tok 1)]) [(s_k, .int (k) (O.tok 0))]), wS (O.addr 0) (tupO sx tx k (O.tok 0))] := by cases b2 <;> exact sg5 (by kernel_rfl)
theorem lc_t0t_ok (prog : Program) (d : Source → Nat → Nat) (P : Params) (b1 b2 : Bool) {T : Tops} (hT : ∀ a o, (topT P).get a = some o → T a o) {lv : Nat} (hl : 1 ≤ lv) (sx : Str) (tx : Nat) : HsOk prog (wd d P b1 b2) T lv (lc_t0t_h sx tx) := ⟨(hRNext_ok _ _ _).mono _ _ _ (lw hl), (hLGet_ok _ _).mono _ _ _ (lw hl), (hSNe_ok hT _).mono _ _ _ hl, (hLGet_ok _ _).mono _ _ _ (lw hl), (hLApp_ok _).mono _ _ _ (lw hl), trivial⟩
theorem lc_t0t_x (prog : Program) (d : Source → Nat → Nat) (P : Params) (b1 b2 : Bool) {T : Tops} (hT : ∀ a o, (topT P).get a = some o → T a o) {lv : Nat} (hl : 1 ≤ lv) {l L C rg it ac D : Nat} {κ κ2 : Nat → Int} {τ τ2 : Nat → Nat} {vs : List Value} {ep : Nat} {ro : Obj} {k m st : Int} {av : List Value} {ea : Nat} {sx : Str} {tx : Nat} (c0 : (0 : Int) < m) (c1 : (0 : Int) ≤ k ∧ k < (1000000 : Int)) (c2 : vs[(k).toNat]? = some (Value.str sx tx)) (c3 : (!sx.cps.toList == (⟨#[]⟩ : Str).cps.toList) = true) (c4 : (0 : Int) ≤ k ∧ k < (1000000 : Int)) (c5 : vs[(k).toNat]? = some (Value.str sx tx)) (c6 : av.length < 1000000) {Φ : Result → List Slot → Prop} (hn : ∀ O : Orc, Tri prog (wd d P b1 b2) (lv + 1) T (lpCLoop P L C D it ac) [wS (l) (lst (vs) (ep)), wS (L) (frm κ τ []), wS (C) (celO (.ref l)), wS (rg) ro, wS (it) (ritO (k + st) (m - 1) st), wS (ac) (lst (av ++ [Value.ref (O.1 0)]) (ea + 1)), wS (D) (dct (ext zeroI 0 [hz prog (mkP P b1 b2) s_k]) (ext zeroN 0 [(O.tok 1)]) [(s_k, .int (k) (O.tok 0))]), wS (O.addr 0) (tupO sx tx k (O.tok 0))] Φ) : Tri prog (wd d P b1 b2) (lv + 1) T (lpCLoop P L C D it ac) [wS l (lst vs ep), wS L (frm κ τ []), wS C (celO (.ref l)), wS rg ro, wS it (ritO k m st), wS ac (lst av ea), wS D (dct κ2 τ2 [])] Φ :=
  tri_again hT (lv := lv) rfl (lc_t0t_ok prog d P b1 b2 hT hl sx tx ) (fun O => lc_t0t prog P b1 b2 O l L C rg it ac D κ κ2 τ τ2 vs ep ro k m st av ea sx tx) (fun O => (k7 c0 c1 c2 c3 c4 c5 c6)) (fun _ => rfl) hn
noncomputable def lc_t0f_h (sx : Str) (tx : Nat) : List Hint := [.slot 4, .sum (hRNext 4), .slot 6, .slot 6, .slot 2, .slot 6, .slot 0, .slot 0, .slot 0, .sum (hLGet 0 (.str sx tx)), .sum (hSNe false)]
theorem lc_t0f (prog : Program) (P : Params) (b1 b2 : Bool) (O : Orc) (l L C rg it ac D : Nat) (κ κ2 : Nat → Int) (τ τ2 : Nat → Nat) (vs : List Value) (ep : Nat) (ro : Obj) (k m st : Int) (av : List Value) (ea : Nat) (sx : Str) (tx : Nat) : Seg (run (eE prog P b1 b2 O) 29 (lc_t0f_h sx tx) (.root (denoteZ (lpCLoop P L C D it ac))) ⟨[wS l (lst vs ep), wS L (frm κ τ []), wS C (celO (.ref l)), wS rg ro, wS it (ritO k m st), wS ac (lst av ea), wS D (dct κ2 τ2 [])], 0, 0, 0⟩)
    [(0 : Int) < m, (0 : Int) ≤ k ∧ k < (1000000 : Int), vs[(k).toNat]? = some (Value.str sx tx), (!sx.cps.toList == (⟨#[]⟩ : Str).cps.toList) = false] (.pure (.again (lpCLoop P L C D it ac))) [wS (l) (lst (vs) (ep)), wS (L) (frm κ τ []), wS (C) (celO (.ref l)), wS (rg) ro, wS (it) (ritO (k + st) (m - 1) st), wS (ac) (lst (av) (ea)), wS (D) (dct (ext zeroI 0 [hz prog (mkP P b1 b2) s_k]) (ext zeroN 0 [(O.tok 1)]) [(s_k, .int (k) (O.tok 0))])] := by cases b2 <;> exact sg5 (by kernel_rfl)
theorem lc_t0f_ok (prog : Program) (d : Source → Nat → Nat) (P : Params) (b1 b2 : Bool) {T : Tops} (hT : ∀ a o, (topT P).get a = some o → T a o) {lv : Nat} (hl : 1 ≤ lv) (sx : Str) (tx : Nat) : HsOk prog (wd d P b1 b2) T lv (lc_t0f_h sx tx) := ⟨(hRNext_ok _ _ _).mono _ _ _ (lw hl), (hLGet_ok _ _).mono _ _ _ (lw hl), (hSNe_ok hT _).mono _ _ _ hl, trivial⟩
theorem lc_t0f_x (prog : Program) (d : Source → Nat → Nat) (P : Params) (b1 b2 : Bool) {T : Tops} (hT : ∀ a o, (topT P).get a = some o → T a o) {lv : Nat} (hl : 1 ≤ lv) {l L C rg it ac D : Nat} {κ κ2 : Nat → Int} {τ τ2 : Nat → Nat} {vs : List Value} {ep : Nat} {ro : Obj} {k m st : Int} {av : List Value} {ea : Nat} {sx : Str} {tx : Nat} (c0 : (0 : Int) < m) (c1 : (0 : Int) ≤ k ∧ k < (1000000 : Int)) (c2 : vs[(k).toNat]? = some (Value.str sx tx)) (c3 : (!sx.cps.toList == (⟨#[]⟩ : Str).cps.toList) = false) {Φ : Result → List Slot → Prop} (hn : ∀ O : Orc, Tri prog (wd d P b1 b2) (lv + 1) T (lpCLoop P L C D it ac) [wS (l) (lst (vs) (ep)), wS (L) (frm κ τ []), wS (C) (celO (.ref l)), wS (rg) ro, wS (it) (ritO (k + st) (m - 1) st), wS (ac) (lst (av) (ea)), wS (D) (dct (ext zeroI 0 [hz prog (mkP P b1 b2) s_k]) (ext zeroN 0 [(O.tok 1)]) [(s_k, .int (k) (O.tok 0))])] Φ) : Tri prog (wd d P b1 b2) (lv + 1) T (lpCLoop P L C D it ac) [wS l (lst vs ep), wS L (frm κ τ []), wS C (celO (.ref l)), wS rg ro, wS it (ritO k m st), wS ac (lst av ea), wS D (dct κ2 τ2 [])] Φ :=
  tri_again hT (lv := lv) rfl (lc_t0f_ok prog d P b1 b2 hT hl sx tx ) (fun O => lc_t0f prog P b1 b2 O l L C rg it ac D κ κ2 τ τ2 vs ep ro k m st av ea sx tx) (fun O => (k4 c0 c1 c2 c3)) (fun _ => rfl) hn
noncomputable def lc_t1t_h (sx : Str) (tx : Nat) : List Hint := [.slot 4, .sum (hRNext 4), .slot 6, .slot 6, .slot 2, .slot 6, .slot 0, .slot 0, .slot 0, .sum (hLGet 0 (.str sx tx)), .sum (hSNe true), .slot 2, .slot 6, .slot 0, .slot 0, .slot 0, .sum (hLGet 0 (.str sx tx)), .slot 6, .sum (hLApp 5)]
theorem lc_t1t (prog : Program) (P : Params) (b1 b2 : Bool) (O : Orc) (l L C rg it ac D : Nat) (κ κ2 : Nat → Int) (τ τ2 : Nat → Nat) (vs : List Value) (ep : Nat) (ro : Obj) (k m st : Int) (av : List Value) (ea : Nat) (vk : Value) (sx : Str) (tx : Nat) : Seg (run (eE prog P b1 b2 O) 43 (lc_t1t_h sx tx) (.root (denoteZ (lpCLoop P L C D it ac))) ⟨[wS l (lst vs ep), wS L (frm κ τ []), wS C (celO (.ref l)), wS rg ro, wS it (ritO k m st), wS ac (lst av ea), wS D (dct κ2 τ2 [(s_k, vk)])], 0, 0, 0⟩)
    [(0 : Int) < m, (0 : Int) ≤ k ∧ k < (1000000 : Int), vs[(k).toNat]? = some (Value.str sx tx), (!sx.cps.toList == (⟨#[]⟩ : Str).cps.toList) = true, (0 : Int) ≤ k ∧ k < (1000000 : Int), vs[(k).toNat]? = some (Value.str sx tx), av.length < 1000000] (.pure (.again (lpCLoop P L C D it ac))) [wS (l) (lst (vs) (ep)), wS (L) (frm κ τ []), wS (C) (celO (.ref l)), wS (rg) ro, wS (it) (ritO (k + st) (m - 1) st), wS (ac) (lst (av ++ [Value.ref (O.1 0)]) (ea + 1)), wS (D) (dct κ2 τ2 [(s_k, .int (k) (O.tok 0))]), wS (O.addr 0) (tupO sx tx k (O.tok 0))] := by cases b2 <;> exact sg5 (by kernel_rfl)
theorem lc_t1t_ok (prog : Program) (d : Source → Nat → Nat) (P : Params) (b1 b2 : Bool) {T : Tops} (hT : ∀ a o, (topT P).get a = some o → T a o) {lv : Nat} (hl : 1 ≤ lv) (sx : Str) (tx : Nat) : HsOk prog (wd d P b1 b2) T lv (lc_t1t_h sx tx) := ⟨(hRNext_ok _ _ _).mono _ _ _ (lw hl), (hLGet_ok _ _).mono _ _ _ (lw hl), (hSNe_ok hT _).mono _ _ _ hl, (hLGet_ok _ _).mono _ _ _ (lw hl), (hLApp_ok _).mono _ _ _ (lw hl), trivial⟩
theorem lc_t1t_x (prog : Program) (d : Source → Nat → Nat) (P : Params) (b1 b2 : Bool) {T : Tops} (hT : ∀ a o, (topT P).get a = some o → T a o) {lv : Nat} (hl : 1 ≤ lv) {l L C rg it ac D : Nat} {κ κ2 : Nat → Int} {τ τ2 : Nat → Nat} {vs : List Value} {ep : Nat} {ro : Obj} {k m st : Int} {av : List Value} {ea : Nat} {vk : Value} {sx : Str} {tx : Nat} (c0 : (0 : Int) < m) (c1 : (0 : Int) ≤ k ∧ k < (1000000 : Int)) (c2 : vs[(k).toNat]? = some (Value.str sx tx)) (c3 : (!sx.cps.toList == (⟨#[]⟩ : Str).cps.toList) = true) (c4 : (0 : Int) ≤ k ∧ k < (1000000 : Int)) (c5 : vs[(k).toNat]? = some (Value.str sx tx)) (c6 : av.length < 1000000) {Φ : Result → List Slot → Prop} (hn : ∀ O : Orc, Tri prog (wd d P b1 b2) (lv + 1) T (lpCLoop P L C D it ac) [wS (l) (lst (vs) (ep)), wS (L) (frm κ τ []), wS (C) (celO (.ref l)), wS (rg) ro, wS (it) (ritO (k + st) (m - 1) st), wS (ac) (lst (av ++ [Value.ref (O.1 0)]) (ea + 1)), wS (D) (dct κ2 τ2 [(s_k, .int (k) (O.tok 0))]), wS (O.addr 0) (tupO sx tx k (O.tok 0))] Φ) : Tri prog (wd d P b1 b2) (lv + 1) T (lpCLoop P L C D it ac) [wS l (lst vs ep), wS L (frm κ τ []), wS C (celO (.ref l)), wS rg ro, wS it (ritO k m st), wS ac (lst av ea), wS D (dct κ2 τ2 [(s_k, vk)])] Φ :=
  tri_again hT (lv := lv) rfl (lc_t1t_ok prog d P b1 b2 hT hl sx tx ) (fun O => lc_t1t prog P b1 b2 O l L C rg it ac D κ κ2 τ τ2 vs ep ro k m st av ea vk sx tx) (fun O => (k7 c0 c1 c2 c3 c4 c5 c6)) (fun _ => rfl) hn
noncomputable def lc_t1f_h (sx : Str) (tx : Nat) : List Hint := [.slot 4, .sum (hRNext 4), .slot 6, .slot 6, .slot 2, .slot 6, .slot 0, .slot 0, .slot 0, .sum (hLGet 0 (.str sx tx)), .sum (hSNe false)]
theorem lc_t1f (prog : Program) (P : Params) (b1 b2 : Bool) (O : Orc) (l L C rg it ac D : Nat) (κ κ2 : Nat → Int) (τ τ2 : Nat → Nat) (vs : List Value) (ep : Nat) (ro : Obj) (k m st : Int) (av : List Value) (ea : Nat) (vk : Value) (sx : Str) (tx : Nat) : Seg (run (eE prog P b1 b2 O) 29 (lc_t1f_h sx tx) (.root (denoteZ (lpCLoop P L C D it ac))) ⟨[wS l (lst vs ep), wS L (frm κ τ []), wS C (celO (.ref l)), wS rg ro, wS it (ritO k m st), wS ac (lst av ea), wS D (dct κ2 τ2 [(s_k, vk)])], 0, 0, 0⟩)
    [(0 : Int) < m, (0 : Int) ≤ k ∧ k < (1000000 : Int), vs[(k).toNat]? = some (Value.str sx tx), (!sx.cps.toList == (⟨#[]⟩ : Str).cps.toList) = false] (.pure (.again (lpCLoop P L C D it ac))) [wS (l) (lst (vs) (ep)), wS (L) (frm κ τ []), wS (C) (celO (.ref l)), wS (rg) ro, wS (it) (ritO (k + st) (m - 1) st), wS (ac) (lst (av) (ea)), wS (D) (dct κ2 τ2 [(s_k, .int (k) (O.tok 0))])] := by cases b2 <;> exact sg5 (by kernel_rfl)
theorem lc_t1f_ok (prog : Program) (d : Source → Nat → Nat) (P : Params) (b1 b2 : Bool) {T : Tops} (hT : ∀ a o, (topT P).get a = some o → T a o) {lv : Nat} (hl : 1 ≤ lv) (sx : Str) (tx : Nat) : HsOk prog (wd d P b1 b2) T lv (lc_t1f_h sx tx) := ⟨(hRNext_ok _ _ _).mono _ _ _ (lw hl), (hLGet_ok _ _).mono _ _ _ (lw hl), (hSNe_ok hT _).mono _ _ _ hl, trivial⟩
theorem lc_t1f_x (prog : Program) (d : Source → Nat → Nat) (P : Params) (b1 b2 : Bool) {T : Tops} (hT : ∀ a o, (topT P).get a = some o → T a o) {lv : Nat} (hl : 1 ≤ lv) {l L C rg it ac D : Nat} {κ κ2 : Nat → Int} {τ τ2 : Nat → Nat} {vs : List Value} {ep : Nat} {ro : Obj} {k m st : Int} {av : List Value} {ea : Nat} {vk : Value} {sx : Str} {tx : Nat} (c0 : (0 : Int) < m) (c1 : (0 : Int) ≤ k ∧ k < (1000000 : Int)) (c2 : vs[(k).toNat]? = some (Value.str sx tx)) (c3 : (!sx.cps.toList == (⟨#[]⟩ : Str).cps.toList) = false) {Φ : Result → List Slot → Prop} (hn : ∀ O : Orc, Tri prog (wd d P b1 b2) (lv + 1) T (lpCLoop P L C D it ac) [wS (l) (lst (vs) (ep)), wS (L) (frm κ τ []), wS (C) (celO (.ref l)), wS (rg) ro, wS (it) (ritO (k + st) (m - 1) st), wS (ac) (lst (av) (ea)), wS (D) (dct κ2 τ2 [(s_k, .int (k) (O.tok 0))])] Φ) : Tri prog (wd d P b1 b2) (lv + 1) T (lpCLoop P L C D it ac) [wS l (lst vs ep), wS L (frm κ τ []), wS C (celO (.ref l)), wS rg ro, wS it (ritO k m st), wS ac (lst av ea), wS D (dct κ2 τ2 [(s_k, vk)])] Φ :=
  tri_again hT (lv := lv) rfl (lc_t1f_ok prog d P b1 b2 hT hl sx tx ) (fun O => lc_t1f prog P b1 b2 O l L C rg it ac D κ κ2 τ τ2 vs ep ro k m st av ea vk sx tx) (fun O => (k4 c0 c1 c2 c3)) (fun _ => rfl) hn
noncomputable def lc_x1_h : List Hint := [.slot 4, .sum (hRStop 4), .slot 8]
theorem lc_x1 (prog : Program) (P : Params) (b1 b2 : Bool) (O : Orc) (l L C rg it ac D : Nat) (κ κ2 : Nat → Int) (τ τ2 : Nat → Nat) (vs : List Value) (ep : Nat) (ro : Obj) (k m st : Int) (av : List Value) (ea : Nat) (vk : Value) : Seg (run (eE prog P b1 b2 O) 10 (lc_x1_h) (.root (denoteZ (lpCLoop P L C D it ac))) ⟨[wS l (lst vs ep), wS L (frm κ τ []), wS C (celO (.ref l)), wS rg ro, wS it (ritO k m st), wS ac (lst av ea), wS D (dct κ2 τ2 [(s_k, vk)])], 0, 0, 0⟩)
    [m ≤ 0] (.pure (.done .next)) [wS (l) (lst (vs) (ep)), wS (L) (frm κ τ []), wS (C) (celO (.ref l)), wS (rg) ro, wS (it) (ritO k m st), wS (ac) (lst (av) (ea)), wS (D) (dct κ2 τ2 [(s_k, vk)]), wS (O.addr 0) tup0, wS (O.addr 1) (stopObj (O.addr 0))] := sg5 (by kernel_rfl)
theorem lc_x1_ok (prog : Program) (d : Source → Nat → Nat) (P : Params) (b1 b2 : Bool) {T : Tops} (hT : ∀ a o, (topT P).get a = some o → T a o) {lv : Nat} (hl : 1 ≤ lv) : HsOk prog (wd d P b1 b2) T lv (lc_x1_h) := ⟨(hRStop_ok _ _ _).mono _ _ _ (lw hl), trivial⟩
theorem lc_x1_x (prog : Program) (d : Source → Nat → Nat) (P : Params) (b1 b2 : Bool) {T : Tops} (hT : ∀ a o, (topT P).get a = some o → T a o) {lv : Nat} (hl : 1 ≤ lv) {l L C rg it ac D : Nat} {κ κ2 : Nat → Int} {τ τ2 : Nat → Nat} {vs : List Value} {ep : Nat} {ro : Obj} {k m st : Int} {av : List Value} {ea : Nat} {vk : Value} (c0 : m ≤ 0) {Φ : Result → List Slot → Prop} (hn : ∀ O : Orc, Φ (.ok .next) [wS (l) (lst (vs) (ep)), wS (L) (frm κ τ []), wS (C) (celO (.ref l)), wS (rg) ro, wS (it) (ritO k m st), wS (ac) (lst (av) (ea)), wS (D) (dct κ2 τ2 [(s_k, vk)]), wS (O.addr 0) tup0, wS (O.addr 1) (stopObj (O.addr 0))]) : Tri prog (wd d P b1 b2) (lv + 1) T (lpCLoop P L C D it ac) [wS l (lst vs ep), wS L (frm κ τ []), wS C (celO (.ref l)), wS rg ro, wS it (ritO k m st), wS ac (lst av ea), wS D (dct κ2 τ2 [(s_k, vk)])] Φ :=
  tri_done hT (lv := lv) rfl (lc_x1_ok prog d P b1 b2 hT hl  ) (fun O => lc_x1 prog P b1 b2 O l L C rg it ac D κ κ2 τ τ2 vs ep ro k m st av ea vk) (fun O => (k1 c0)) hn
noncomputable def kStr : Str := s_k
noncomputable def lcF (l L C rg it ac D : Nat) (vs : List Value) (ep : Nat) (ro io : Obj) (av : List Value) (ea : Nat) (dd : Obj) : List Slot :=
  [⟨true, l, lst vs ep⟩, ⟨true, L, frm zeroI zeroN []⟩, ⟨true, C, celO (.ref l)⟩, ⟨true, rg, ro⟩, ⟨true, it, io⟩, ⟨true, ac, lst av ea⟩, ⟨true, D, dd⟩]
noncomputable def lcD (dd : Obj) : Prop := dd = dct zeroI zeroN [] ∨ ∃ κ τ w, dd = dct κ τ [(kStr, w)]
theorem Al.plus {T : Tops} {R R' : List Slot} (h : ∀ x ∈ R, x ∈ R') {vs : List Value} {bs : List Bl} (ha : HB (plus T R) vs bs) : HB (plus T R') vs bs :=
  ha.mono fun v b ⟨a, t, t2, e, h5, hT⟩ => ⟨a, t, t2, e, h5, hT.elim .inl fun ⟨x, hx, r⟩ => .inr ⟨x, h x hx, r⟩⟩
noncomputable def lcΦ (T : Tops) (l L C rg it ac D : Nat) (vs : List Value) (ep : Nat) (ro : Obj) (av : List Value) (ks : List Nat) (i : Nat) (m : Nat) : Result → List Slot → Prop := fun r H' =>
  r = .ok .next ∧ ∃ avn ea κ τ w R, HB (plus T R) avn (ballsFrom ks i) ∧ (∀ x ∈ R, x.w = true) ∧ H' = lcF l L C rg it ac D vs ep ro (ritO m 0 1) (av ++ avn) ea (dct κ τ [(kStr, w)]) ++ R
section
variable (prog : Program) (d : Source → Nat → Nat) (P : Params) (b1 b2 : Bool) {T : Tops} (hT : ∀ a o, (topT P).get a = some o → T a o)
include hT
theorem lc_loop {l L C rg it ac D : Nat} {vs : List Value} {ep : Nat} {ro : Obj} {m : Nat} (hm : m < 100000) (hvs : m = vs.length) :
    ∀ (rest : List Value) (ks : List Nat) (i : Nat) (av : List Value) (ea : Nat) (dd : Obj), Bx rest ks → vs.drop i = rest → i + rest.length = m → av.length ≤ i → lcD dd → (0 < rest.length ∨ ∃ κ τ w, dd = dct κ τ [(kStr, w)]) →
    Tri prog (wd d P b1 b2) 2 T (lpCLoop P L C D it ac) (lcF l L C rg it ac D vs ep ro (ritO i rest.length 1) av ea dd) (lcΦ T l L C rg it ac D vs ep ro av ks i m)
  | [], ks, i, av, ea, dd, hb, hd, hi, hav, hdd, hne => by
    cases hb
    rcases hne with h | ⟨κ, τ, w, rfl⟩
    · cases h
    · have e : i = m := by simpa using hi
      subst e
      refine lc_x1_x prog d P b1 b2 hT (lv := 1) (by lia) (by simp) fun O => ⟨rfl, [], ea, κ, τ, w, [⟨true, O.addr 0, tup0⟩, ⟨true, O.addr 1, stopObj (O.addr 0)⟩], Al.nil, by simp, ?_⟩
      rw [List.append_nil]; rfl
  | v :: rest, ks, i, av, ea, dd, hb, hd, hi, hav, hdd, hne => by
    cases hb with
    | cons hk t hb =>
    rename_i k ks
    have hx : vs[i]? = some (.str (B k) t) := by
      have : (vs.drop i)[0]? = some (.str (B k) t) := by rw [hd]; rfl
      rw [List.getElem?_drop] at this
      simpa using this
    have hd' : vs.drop (i + 1) = rest := by
      have := congrArg List.tail hd
      simpa [List.tail_drop] using this
    simp only [List.length_cons] at hi
    have e1 : (i : Int) + 1 = ((i + 1 : Nat) : Int) := by lia
    have e2 : ((((Value.str (B k) t) :: rest).length : Nat) : Int) - 1 = (rest.length : Int) := by simp
    have c0 : (0 : Int) < (((Value.str (B k) t) :: rest).length : Nat) := by simp
    have c1 : (0 : Int) ≤ (i : Int) ∧ (i : Int) < 1000000 := by lia
    have c2 : vs[((i : Nat) : Int).toNat]? = some (Value.str (B k) t) := by rw [Int.toNat_natCast]; exact hx
    by_cases h0 : k = 0
    · have c3 : (!(B k).cps.toList == (⟨#[]⟩ : Str).cps.toList) = false := by rw [B_ne0 hk]; simp [h0]
      have eb : ballsFrom (k :: ks) i = ballsFrom ks (i + 1) := by rw [ballsFrom, if_pos h0]
      have go : ∀ κ τ w, Tri prog (wd d P b1 b2) 2 T (lpCLoop P L C D it ac) (lcF l L C rg it ac D vs ep ro (ritO ((i : Int) + 1) ((((Value.str (B k) t) :: rest).length : Nat) - 1) 1) av ea (dct κ τ [(kStr, w)])) (lcΦ T l L C rg it ac D vs ep ro av (k :: ks) i m) := fun κ τ w => by
        rw [e1, e2]
        unfold lcΦ
        rw [eb]
        exact lc_loop hm hvs rest ks (i + 1) av ea _ hb hd' (by lia) (by lia) (.inr ⟨_, _, _, rfl⟩) (.inr ⟨_, _, _, rfl⟩)
      rcases hdd with rfl | ⟨κ, τ, w, rfl⟩
      · exact lc_t0f_x prog d P b1 b2 hT (lv := 1) (by lia) c0 c1 c2 c3 fun O => go _ _ _
      · exact lc_t1f_x prog d P b1 b2 hT (lv := 1) (by lia) c0 c1 c2 c3 fun O => go _ _ _
    · have c3 : (!(B k).cps.toList == (⟨#[]⟩ : Str).cps.toList) = true := by rw [B_ne0 hk]; exact decide_eq_true h0
      have c6 : av.length < 1000000 := by lia
      have eb : ballsFrom (k :: ks) i = (k, i) :: ballsFrom ks (i + 1) := by rw [ballsFrom, if_neg h0]
      have go : ∀ κ τ w a ti, Tri prog (wd d P b1 b2) 2 T (lpCLoop P L C D it ac) (lcF l L C rg it ac D vs ep ro (ritO ((i : Int) + 1) ((((Value.str (B k) t) :: rest).length : Nat) - 1) 1) (av ++ [.ref a]) (ea + 1) (dct κ τ [(kStr, w)]) ++ [⟨true, a, tupO (B k) t i ti⟩]) (lcΦ T l L C rg it ac D vs ep ro av (k :: ks) i m) := fun κ τ w a ti => by
        rw [e1, e2]
        have ih := lc_loop (l := l) (L := L) (C := C) (rg := rg) (it := it) (ac := ac) (D := D) (ep := ep) (ro := ro) hm hvs rest ks (i + 1) (av ++ [.ref a]) (ea + 1) _ hb hd' (by lia) (by simp; lia) (.inr ⟨κ, τ, w, rfl⟩) (.inr ⟨_, _, _, rfl⟩)
        refine Tri.mono _ _ (Tri.frame (R := [⟨true, a, tupO (B k) t i ti⟩]) ih ?_) (Nat.le_refl _) ?_
        · rintro r H1 ⟨_, avn, ea', κ', τ', w', R, _, hw, rfl⟩ x hx hxw
          rcases List.mem_append.mp hx with hx | hx
          · simp only [lcF, List.mem_cons, List.not_mem_nil, or_false] at hx
            rcases hx with rfl | rfl | rfl | rfl | rfl | rfl | rfl <;> cases hxw
          · rw [hw x hx] at hxw; cases hxw
        · rintro r H' ⟨H1, ⟨rfl, avn, ea', κ', τ', w', R, hv, hw, rfl⟩, rfl⟩
          refine ⟨rfl, .ref a :: avn, ea', κ', τ', w', R ++ [⟨true, a, tupO (B k) t i ti⟩], ?_, ?_, ?_⟩
          · rw [eb]
            refine Al.cons ⟨a, t, ti, rfl, hk, .inr ⟨_, List.mem_append_right _ (.head _), rfl, rfl⟩⟩ (Al.plus (fun x hx => List.mem_append_left _ hx) hv)
          · intro x hx
            rcases List.mem_append.mp hx with hx | hx
            · exact hw x hx
            · rw [List.mem_singleton.mp hx]
          · rw [List.append_assoc, List.append_assoc]; rfl
      rcases hdd with rfl | ⟨κ, τ, w, rfl⟩
      · exact lc_t0t_x prog d P b1 b2 hT (lv := 1) (by lia) c0 c1 c2 c3 c1 c2 c6 fun O => go _ _ _ _ _
      · exact lc_t1t_x prog d P b1 b2 hT (lv := 1) (by lia) c0 c1 c2 c3 c1 c2 c6 fun O => go _ _ _ _ _
theorem lc_start {l L C rg it ac D : Nat} {vs : List Value} {ep : Nat} {ro : Obj} {ks : List Nat} (hb : Bx vs ks) (h0 : 0 < ks.length) (hm : ks.length < 100000) :
    Tri prog (wd d P b1 b2) 2 T (lpCStart P L C D it ac) (lcF l L C rg it ac D vs ep ro (ritO 0 vs.length 1) [] 0 (dct zeroI zeroN [])) (lcΦ T l L C rg it ac D vs ep ro [] ks 0 vs.length) := by
  have len := hb.length
  have := lc_loop prog d P b1 b2 hT (l := l) (L := L) (C := C) (rg := rg) (it := it) (ac := ac) (D := D) (ep := ep) (ro := ro) (m := vs.length) (by lia) rfl vs ks 0 [] 0 (dct zeroI zeroN []) hb rfl (by lia) (by simp) (.inl rfl) (.inl (by lia))
  cases b1
  · exact lc_sf_x prog d P true b2 hT (lv := 1) (by lia) fun O => this
  · exact lc_st_x prog d P true b2 hT (lv := 1) (by lia) fun O => this
end
noncomputable def hLcO (T : Tops) (P : Params) (ks : List Nat) (c : Code) (H : List Slot) (vs : List Value) (ep : Nat) : HOutP := ⟨⟨[], [(c, lpCStart P (slA H 1) (slA H 2) (slA H 6) (slA H 4) (slA H 5))], [(H, lcF (slA H 0) (slA H 1) (slA H 2) (slA H 3) (slA H 4) (slA H 5) (slA H 6) vs ep (slO H 3) (ritO 0 vs.length 1) [] 0 (dct zeroI zeroN []))], [Bx vs ks ∧ 0 < ks.length ∧ ks.length < 100000], 0, 1, 2, fun _ _ _ => .ok .next,
      fun _ ts fs => lcF (slA H 0) (slA H 1) (slA H 2) (slA H 3) (slA H 4) (slA H 5) (slA H 6) vs ep (slO H 3) (ritO vs.length 0 1) (valsOf fs) (ts.getD 0 0) (dct (fs.getD 1 frx0).κ (fs.getD 1 frx0).τ [(kStr, ((fs.getD 1 frx0).nv.getD 0 (kStr, .none)).2)]) ++ (fs.getD 1 frx0).sl⟩,
      fun _ _ fs => [HB (plus T (fs.getD 1 frx0).sl) (valsOf fs) (ballsFrom ks 0), ∀ x ∈ (fs.getD 1 frx0).sl, x.w = true]⟩
noncomputable def hLc (T : Tops) (P : Params) (ks : List Nat) : HandlerP := fun c H => onLa H 0 fun _ vs ep => some (hLcO T P ks c H vs ep)
section
variable (prog : Program) (d : Source → Nat → Nat) (P : Params) (b1 b2 : Bool) {T : Tops} (hT : ∀ a o, (topT P).get a = some o → T a o)
include hT
theorem hLc_ok (ks : List Nat) : HOkP prog (wd d P b1 b2) T 2 (hLc T P ks) := by
  intro c H out e hi A s hA hS
  unfold hLc at e
  refine onLa_elim e fun w' a' vs ep hl e1 => ?_
  clear e
  cases e1
  obtain ⟨h1, h2, hh, h3⟩ := hi
  have ec := h2 _ (.head _)
  have eh := hh _ (.head _)
  obtain ⟨c1, c2, c3⟩ := h3 _ (.head _)
  dsimp only at ec eh
  have key := lc_start prog d P b1 b2 hT (l := slA H 0) (L := slA H 1) (C := slA H 2) (rg := slA H 3) (it := slA H 4) (ac := slA H 5) (D := slA H 6) (ep := ep) (ro := slO H 3) c1 c2 c3 _ s hA.mk'
  rw [← eh, ← ec] at key
  refine CallsTo.of_code _ _ (codeAny_mono (key hS) ?_)
  rintro r s' ⟨H', ⟨rfl, avn, ea, κ, τ, w, R, hv, hw, rfl⟩, hp⟩
  refine ⟨[], [ea], [⟨zeroI, zeroN, avn.map fun v => (⟨#[]⟩, v), []⟩, ⟨κ, τ, [(kStr, w)], R⟩], rfl, rfl, rfl, rfl, ?_, ?_⟩
  · intro p hp
    rcases List.mem_cons.mp hp with rfl | hp
    · show HB _ (List.map _ (List.map _ avn)) _
      rw [List.map_map]
      show HB _ (List.map id avn) _
      rw [List.map_id]; exact hv
    · rw [List.mem_singleton.mp hp]; exact hw
  · have e2 : valsOf [⟨zeroI, zeroN, avn.map fun v => (⟨#[]⟩, v), []⟩, ⟨κ, τ, [(kStr, w)], R⟩] = avn := by
      show List.map _ (List.map _ avn) = avn
      rw [List.map_map]; exact List.map_id avn
    unfold hLcO
    dsimp only
    rw [e2]
    exact hp
end
end Mine
namespace Mine
open PySem PySem.W PySem.W.X PyProof.Rows PySem.Calls
noncomputable def is_list_mul (id : String) : Bool := S.eqLit 29827134744148027186292746861 id
theorem is_list_mul_eq {id : String} (h : is_list_mul id = true) : id = "list.__mul__" := eqLit_iff (by kernel_rfl) h
noncomputable def is_list_add (id : String) : Bool := S.eqLit 29827096650756823847613524589 id
theorem is_list_add_eq {id : String} (h : is_list_add id = true) : id = "list.__add__" := eqLit_iff (by kernel_rfl) h
noncomputable def hLMul1O (H : List Slot) (a a' : Nat) (i : Int) (v : Value) : HOut := ⟨[(a, a')], [], [], [0 ≤ i ∧ i < 1000000], 1, 0, 0, fun as _ _ => .ok (.ret (.ref (as.getD 0 0))), fun as _ _ => addSlot H ⟨true, as.getD 0 0, lst (List.replicate i.toNat v) 0⟩⟩
noncomputable def hLMul1 (j : Nat) : Handler := fun c H => bRI is_list_mul c (fun a i _ => onLa H j fun a' vs _ => on1 vs fun v => some (hLMul1O H a a' i v))
noncomputable def hLAddO (H : List Slot) (a a' b b' : Nat) (vs us : List Value) : HOut := ⟨[(a, a'), (b, b')], [], [], [vs.length < 1000000 ∧ us.length < 1000000], 1, 0, 0, fun as _ _ => .ok (.ret (.ref (as.getD 0 0))), fun as _ _ => addSlot H ⟨true, as.getD 0 0, lst (vs ++ us) 0⟩⟩
noncomputable def hLAdd (j j2 : Nat) : Handler := fun c H => bRR is_list_add c (fun a b => onLa H j fun a' vs _ => onLa H j2 fun b' us _ => some (hLAddO H a a' b b' vs us))
theorem fold_rep (v : Value) : ∀ (n : Nat) (l : List Value), List.foldl (fun (x1 x2 : Array Value) => x1 ++ x2) ⟨l⟩ (List.replicate n #[v]) = ⟨l ++ List.replicate n v⟩
  | 0, l => by simp
  | n + 1, l => by
    rw [List.replicate_succ, List.foldl_cons]
    have e : (⟨l⟩ : Array Value) ++ #[v] = ⟨l ++ [v]⟩ := by simp
    rw [e, fold_rep v n]
    simp [List.replicate_succ]
section
variable (prog : Program) (w : World) {T : Tops}
theorem hLMul1_ok (j : Nat) : HOk prog w T 0 (hLMul1 j) := by
  intro c H out e hi A s hA hS
  unfold hLMul1 at e
  refine bRI_elim (P := fun c => CallsTo _ _ A c s _) e fun id a i ti hid e1 => ?_
  refine onLa_elim e1 fun w' a' vs ep hl e2 => ?_
  refine on1_elim e2 fun v ev e3 => ?_
  clear e e1 e2
  subst ev
  cases e3
  obtain ⟨h1, h2, hh, h3⟩ := hi
  have ea : a = a' := h1 (a, a') (.head _)
  obtain ⟨m0, m1⟩ := h3 _ (.head _)
  clear h1 h2 hh h3
  rw [is_list_mul_eq hid]
  subst ea
  have ho := getSlot_obj hS (lstAt_eq hl)
  refine CallsTo.of_code prog w (codeAny_meets F.slot_list_mul (typeIs_lst ho) F.entry_list_mul (F.args_list_mul_2 _ _) (AutoListH.list___mul___list_int_3 a #[v] ep i ti (by simp [Builtin.List.listFitsIndex]; lia) (by simp; lia) (by simp [Builtin.List.listTooLong, sizeLine]; lia)) ⟨ho, ?_⟩)
  have hp := hS.alloc (o := lst (List.replicate i.toNat v) 0) rfl
  have e0 : (#[v] : Array Value).isEmpty = false := rfl
  rw [e0]
  simp only [Bool.false_eq_true, if_false]
  have e1 : List.foldl (fun (x1 x2 : Array Value) => x1 ++ x2) #[] (List.replicate i.toNat #[v]) = ⟨List.replicate i.toNat v⟩ := by
    have := fold_rep v i.toNat []
    simpa using this
  rw [e1]
  exact ⟨[s.heap.objs.size], [], [], rfl, rfl, rfl, rfl, hp⟩
theorem hLAdd_ok (j j2 : Nat) : HOk prog w T 0 (hLAdd j j2) := by
  intro c H out e hi A s hA hS
  unfold hLAdd at e
  refine bRR_elim (P := fun c => CallsTo _ _ A c s _) e fun id a b hid e1 => ?_
  refine onLa_elim e1 fun w' a' vs ep hl e2 => ?_
  refine onLa_elim e2 fun w2 b' us ep2 hl2 e3 => ?_
  clear e e1 e2
  cases e3
  obtain ⟨h1, h2, hh, h3⟩ := hi
  have ea : a = a' := h1 (a, a') (.head _)
  have eb : b = b' := h1 (b, b') (.tail _ (.head _))
  obtain ⟨m0, m1⟩ := h3 _ (.head _)
  clear h1 h2 hh h3
  rw [is_list_add_eq hid]
  subst ea eb
  have ho := getSlot_obj hS (lstAt_eq hl)
  have ho2 := getSlot_obj hS (lstAt_eq hl2)
  refine CallsTo.of_code prog w (codeAny_meets F.slot_list_add (typeIs_lst ho) F.entry_list_add (F.args_list_add_2 _ _) (list_addW a b ⟨vs⟩ ⟨us⟩ ep ep2 none none #[] #[] (by show vs.length + us.length ≤ 2 ^ 24; lia)) ⟨ho, ho2, ?_⟩)
  have hp := hS.alloc (o := lst (vs ++ us) 0) rfl
  have e1 : (⟨vs⟩ : Array Value) ++ ⟨us⟩ = ⟨vs ++ us⟩ := by simp
  rw [e1]
  exact ⟨[s.heap.objs.size], [], [], rfl, rfl, rfl, rfl, hp⟩
end
end Mine
namespace Mine
open PySem PySem.W PySem.W.X PyProof.Rows
section
variable {T : Tops} {H H' : List Slot} {s s' : Shared}
/-- a fact as a slot to be read -/
theorem Post.fact (hP : Post T H s H' s') {a : Nat} {o : Obj} (h : T a o) : Post T H s (addSlot H' ⟨false, a, o⟩) s' := by
  rw [addSlot_eq]
  refine ⟨⟨hP.sat.top, hP.sat.gens, hP.sat.toks, fun y hy => ?_, List.pairwise_append.mpr ⟨hP.sat.apart, by simp, fun x hx y hy hw => ?_⟩, fun y hy hw => ?_⟩, hP.keep, fun y hy hw => ?_⟩
  · rcases List.mem_append.mp hy with hy | hy
    · exact hP.sat.has y hy
    · rw [List.mem_singleton.mp hy]; exact hP.sat.top a o h
  · rw [List.mem_singleton.mp hy] at hw ⊢
    rcases hw with hw | hw
    · intro e
      refine hP.sat.wr x hx hw o ?_
      rw [e]; exact h
    · cases hw
  · rcases List.mem_append.mp hy with hy | hy
    · exact hP.sat.wr y hy hw
    · rw [List.mem_singleton.mp hy] at hw; cases hw
  · rcases List.mem_append.mp hy with hy | hy
    · exact hP.grow y hy hw
    · rw [List.mem_singleton.mp hy] at hw; cases hw
theorem Post.sub {H2 : List Slot} (h : H2.Sublist H) (hP : Post T H2 s H' s') : Post T H s H' s' :=
  ⟨hP.sat, ⟨hP.keep.size, fun a o ha hn => hP.keep.keep a o ha fun x hx => hn x (h.mem hx), hP.keep.drawn, hP.keep.os, hP.keep.toks⟩, fun x hx hw => (hP.grow x hx hw).elim (fun ⟨y, hy, r⟩ => .inl ⟨y, h.mem hy, r⟩) .inr⟩
end
section
variable {prog : Program} {w : World} {T : Tops} {lv : Nat} {H H2 : List Slot}
theorem Tri.sub {c : Code} {Φ : Result → List Slot → Prop} (hs : H2.Sublist H) (h : Tri prog w lv T c H2 Φ) : Tri prog w lv T c H Φ := fun A s hA hS =>
  codeAny_mono (h A s hA (hS.part hs)) fun r s' ⟨H1, p, q⟩ => ⟨H1, p, q.sub hs⟩
theorem Tx.sub {α : Type} {t : Sem α} {Φ : α → List Slot → Prop} (hs : H2.Sublist H) (h : Tx prog w lv T t H2 Φ) : Tx prog w lv T t H Φ := fun A s hA hS =>
  wpAny_mono (h A s hA (hS.part hs)) (fun r s' ⟨H1, p, q⟩ => ⟨H1, p, q.sub hs⟩) fun _ _ x => x
end
noncomputable def hHfO (T : Tops) (j : Nat) (hs : List Bl) (H : List Slot) (f : Nat) (a : Nat) (a' : Nat) (vs : List Value) (ep : Nat) : HOutP := ⟨⟨[(f, 46), (a, a')], [], [], [HB T vs hs ∧ hs.length < 100000], 0, 0, 1, fun _ _ _ => .ok (.ret .none), fun _ _ fs => setSlot H j (lst (valsOf fs) ep)⟩, fun _ _ fs => [HB T (valsOf fs) (hfyN hs)]⟩
noncomputable def hHf (T : Tops) (j : Nat) (hs : List Bl) : HandlerP := fun c H => rR c (fun f a => onL H j fun a' vs ep => some (hHfO T j hs H f a a' vs ep))
noncomputable def hHpO (T : Tops) (j : Nat) (hs : List Bl) (H : List Slot) (f : Nat) (a : Nat) (a' : Nat) (vs : List Value) (ep : Nat) : HOutP := ⟨⟨[(f, 39), (a, a')], [], [], [HB T vs hs ∧ 0 < hs.length ∧ hs.length < 100000], 1, 2, 1, fun as _ _ => .ok (.ret (.ref (as.getD 0 0))),
        fun as ts fs => addSlot (setSlot H j (lst (valsOf fs) (ep + 1))) ⟨false, as.getD 0 0, tupO (B (gB hs 0).1) (ts.getD 0 0) ((gB hs 0).2 : Nat) (ts.getD 1 0)⟩⟩, fun _ _ fs => [HB T (valsOf fs) (popN hs) ∧ (gB hs 0).1 < 5]⟩
noncomputable def hHp (T : Tops) (j : Nat) (hs : List Bl) : HandlerP := fun c H => rR c (fun f a => onL H j fun a' vs ep => some (hHpO T j hs H f a a' vs ep))
section
variable (prog : Program) (d : Source → Nat → Nat) (P : Params) (b1 b2 : Bool) {T : Tops} (hT : ∀ a o, (topT P).get a = some o → T a o)
include hT
theorem hHf_ok (j : Nat) (hs : List Bl) : HOkP prog (wd d P b1 b2) T 6 (hHf T j hs) := by
  intro c H out e hi A s hA hS
  unfold hHf at e
  refine rR_elim (P := fun c => CallsTo _ _ A c s _) e fun f a e1 => ?_
  refine onL_elim e1 fun a' vs ep hl e2 => ?_
  clear e e1
  cases e2
  obtain ⟨h1, h2, hh, h3⟩ := hi
  have e1 : f = 46 := h1 (f, 46) (.head _)
  have e2 : a = a' := h1 (a, a') (.tail _ (.head _))
  obtain ⟨c3, c5⟩ := h3 _ (.head _)
  clear h1 h2 hh h3
  subst e1 e2
  have hg := lstAt_eq hl
  refine CallsTo.of_code _ _ (codeAny_mono (hf_call prog d P b1 b2 hT c3 c5 _ s hA.mk' (hS.sub1 hg (w' := true) (fun _ => rfl))) ?_)
  rintro r s' ⟨H', ⟨rfl, vs', hv, R, rfl⟩, hp⟩
  refine ⟨[], [], [⟨zeroI, zeroN, vs'.map fun v => (⟨#[]⟩, v), []⟩], rfl, rfl, rfl, rfl, all1 ?_, ?_⟩
  · rw [valsOf_mk]; exact hv
  · show Post T H s (setSlot H j (lst (valsOf _) ep)) s'
    rw [valsOf_mk]
    exact hp.liftW hS hg (by simp) ⟨_, .head _, rfl, rfl⟩
theorem hHp_ok (j : Nat) (hs : List Bl) : HOkP prog (wd d P b1 b2) T 5 (hHp T j hs) := by
  intro c H out e hi A s hA hS
  unfold hHp at e
  refine rR_elim (P := fun c => CallsTo _ _ A c s _) e fun f a e1 => ?_
  refine onL_elim e1 fun a' vs ep hl e2 => ?_
  clear e e1
  cases e2
  obtain ⟨h1, h2, hh, h3⟩ := hi
  have e1 : f = 39 := h1 (f, 39) (.head _)
  have e2 : a = a' := h1 (a, a') (.tail _ (.head _))
  obtain ⟨c3, c4, c5⟩ := h3 _ (.head _)
  clear h1 h2 hh h3
  subst e1 e2
  have hg := lstAt_eq hl
  refine CallsTo.of_code _ _ (codeAny_mono (hp_call prog d P b1 b2 hT c3 c4 c5 _ s hA.mk' (hS.sub1 hg (w' := true) (fun _ => rfl))) ?_)
  rintro r s' ⟨H', ⟨x, rfl, ⟨x', t, t2, ex, hx5, hTx⟩, vs', hv, R, rfl⟩, hp⟩
  cases ex
  refine ⟨[x], [t, t2], [⟨zeroI, zeroN, vs'.map fun v => (⟨#[]⟩, v), []⟩], rfl, rfl, rfl, rfl, all1 ⟨?_, hx5⟩, ?_⟩
  · rw [valsOf_mk]; exact hv
  · show Post T H s (addSlot (setSlot H j (lst (valsOf _) (ep + 1))) _) s'
    rw [valsOf_mk]
    exact Post.fact (hp.liftW hS hg (by simp) ⟨_, .head _, rfl, rfl⟩) hTx
end
noncomputable def lpW : Stmt := stAt 14 3
noncomputable def lpW2 : Stmt := (whB lpW).getD 3 default
noncomputable def lpCode (P : Params) (L C : Nat) : Code := .whileLoop (whT lpW) (whB lpW) [] (lpEnv P L C)
noncomputable def lpCode2 (P : Params) (L C : Nat) : Code := .whileLoop (whT lpW2) (whB lpW2) [] (lpEnv P L C)
noncomputable abbrev fLpS0 (b : Nat) (x : Nat) (r : List (Str × Value)) : List (Str × Value) := (s_balls, .ref b) :: (s_boxes, .ref x) :: r
section
variable (prog : Program) (P : Params) (b1 b2 : Bool)
variable {l L C b ep eb x ex tc tk tx : Nat} {κ : Nat → Int} {τ : Nat → Nat} {vs bv xv : List Value} {hs : List Bl} {wc wp ws : Value} {sc sx : Str} {k : Int} {Φ : Result → List Slot → Prop} {ks : List Nat} {Ψ : Flow → List Slot → Prop}
noncomputable def lp_p_h : List Hint := [.slot 2, .slot 2]
theorem lp_p (O : Orc) (l : Nat) (vs : List Value) (ep : Nat) : Seg (run (eE prog P b1 b2 O) 10 lp_p_h (.root (preZ 128 (fdOf (to128 P)) ⟨[.ref l], []⟩)) ⟨[wS l (lst vs ep)], 0, 0, 0⟩)
    [] (.pure (lpEnv P (O.addr 0) (O.addr 1))) [wS l (lst vs ep), wS (O.addr 0) (frm zeroI zeroN []), wS (O.addr 1) (celO (.ref l))] := sg5 (by kernel_rfl)
noncomputable def lp_a_h (T : Tops) (P : Params) (ks : List Nat) : List Hint := [.top, .top, .top, .top, .slot 2, .sum (hLen 0), .call, .call, .slot 3, .slot 3, .call, .slot 3, .slot 3, .slot 3, .slot 3, .sum (hRIter 3), .slot 4, .sump (hLc T P ks), .slot 1, .slot 1, .slot 6, .slot 6, .slot 6]
theorem lp_a (O : Orc) (T : Tops) (l L C : Nat) (vs : List Value) (ep : Nat) (ks : List Nat) : SegP (run (eE prog P b1 b2 O) 60 (lp_a_h T P ks) (.root (execsZ [stAt 14 0] (lpEnv P L C))) ⟨[wS l (lst vs ep), wS L (frm zeroI zeroN []), wS C (celO (.ref l))], 0, 0, 0⟩)
    [vs.length < 1000000, (0 : Int) ≤ vs.length ∧ (vs.length : Int) < 1000000, Bx vs ks ∧ 0 < ks.length ∧ ks.length < 100000] [HB (plus T (O.fr 1).sl) (valsOf [O.fr 0, O.fr 1]) (ballsFrom ks 0), ∀ x ∈ (O.fr 1).sl, x.w = true] (.pure (Flow.next)) ([wS l (lst vs ep), wS L (frm (ext zeroI 0 [hz prog (mkP P b1 b2) s_balls]) (ext zeroN 0 [O.tok 4]) [(s_balls, .ref (O.addr 2))]), wS C (celO (.ref l)), wS (O.addr 0) (rgO vs.length (O.tok 1) (O.tok 0) (O.tok 2)), wS (O.addr 1) (ritO vs.length 0 1), wS (O.addr 2) (lst (valsOf [O.fr 0, O.fr 1]) (O.tok 3)), wS (O.addr 3) ⟨.type "dict", none, .dict #[] 2, #[]⟩] ++ (O.fr 1).sl) := by cases b2 <;> exact ⟨sg5 (by kernel_rfl), by kernel_rfl⟩
noncomputable def lp_b_h : List Hint := [.slot 2, .top, .top, .slot 1, .sum (hLen 3), .slot 4, .call, .slot 4, .slot 4, .sum (hLMul1 4), .slot 0, .slot 5, .slot 0, .sum (hLAdd 0 5), .slot 1, .slot 1]
theorem lp_b (O : Orc) : Seg (run (eE prog P b1 b2 O) 44 lp_b_h (.root (execsZ [stAt 14 1] (lpEnv P L C))) ⟨[wS l (lst vs ep), wS L (frm κ τ [(s_balls, .ref b)]), wS C (celO (.ref l)), wS b (lst bv eb)], 0, 0, 0⟩)
    [bv.length < 1000000, (0 : Int) ≤ bv.length ∧ (bv.length : Int) < 1000000, vs.length < 1000000 ∧ (List.replicate bv.length (Value.str ⟨#[]⟩ (O.tok 0))).length < 1000000] (.pure (Flow.next)) ([wS l (lst vs ep), wS L (frm (ext κ 1 [hz prog (mkP P b1 b2) s_boxes]) (ext τ 1 [O.tok 2]) [(s_balls, .ref b), (s_boxes, .ref (O.addr 2))]), wS C (celO (.ref l)), wS b (lst bv eb), wS (O.addr 0) (lst [.str ⟨#[]⟩ (O.tok 0)] 0), wS (O.addr 1) (lst (List.replicate bv.length (.str ⟨#[]⟩ (O.tok 0))) 0), wS (O.addr 2) (lst (vs ++ List.replicate bv.length (.str ⟨#[]⟩ (O.tok 0))) 0)]) := sg5 (by kernel_rfl)
noncomputable def lp_c_h (T : Tops) (hs : List Bl) : List Hint := [.top, .slot 1, .top, .sump (hHf T 2 hs)]
theorem lp_c {T : Tops} (O : Orc) : SegP (run (eE prog P b1 b2 O) 15 (lp_c_h T hs) (.root (execsZ [stAt 14 2] (lpEnv P L C))) ⟨[wS l (lst vs ep), wS L (frm κ τ (fLpS0 b x [])), wS b (lst bv eb), wS x (lst xv ex)], 0, 0, 0⟩)
    [HB T bv hs ∧ hs.length < 100000] [HB T (valsOf [O.fr 0]) (hfyN hs)] (.pure (Flow.next)) [wS l (lst vs ep), wS L (frm κ τ (fLpS0 b x [])), wS b (lst (valsOf [O.fr 0]) (eb)), wS x (lst xv ex)] := ⟨sg5 (by kernel_rfl), by kernel_rfl⟩
noncomputable def lp_t0t_h : List Hint := [.top, .top, .slot 1, .sum (hLen 2), .sum (hIGt true)]
theorem lp_t0t (O : Orc) : Seg (run (eE prog P b1 b2 O) 18 lp_t0t_h (.root (isTrueZ (whT lpW) (lpEnv P L C) (evalZ (whT lpW) (lpEnv P L C)))) ⟨[wS l (lst vs ep), wS L (frm κ τ (fLpS0 b x [])), wS b (lst bv eb), wS x (lst xv ex)], 0, 0, 0⟩)
    [bv.length < 1000000, decide ((0 : Int) < (↑bv.length : Int)) = true] (.pure (true)) [wS l (lst vs ep), wS L (frm κ τ (fLpS0 b x [])), wS b (lst bv eb), wS x (lst xv ex)] := by cases b2 <;> exact sg5 (by kernel_rfl)
noncomputable def lp_t0f_h : List Hint := [.top, .top, .slot 1, .sum (hLen 2), .sum (hIGt false)]
theorem lp_t0f (O : Orc) : Seg (run (eE prog P b1 b2 O) 18 lp_t0f_h (.root (isTrueZ (whT lpW) (lpEnv P L C) (evalZ (whT lpW) (lpEnv P L C)))) ⟨[wS l (lst vs ep), wS L (frm κ τ (fLpS0 b x [])), wS b (lst bv eb), wS x (lst xv ex)], 0, 0, 0⟩)
    [bv.length < 1000000, decide ((0 : Int) < (↑bv.length : Int)) = false] (.pure (false)) [wS l (lst vs ep), wS L (frm κ τ (fLpS0 b x [])), wS b (lst bv eb), wS x (lst xv ex)] := by cases b2 <;> exact sg5 (by kernel_rfl)
noncomputable def lp_u0_h (T : Tops) (hs : List Bl) : List Hint := [.top, .slot 1, .top, .sump (hHp T 2 hs), .slot 4, .slot 4, .slot 4, .call, .slot 4, .slot 5, .slot 5, .call, .slot 5, .slot 5, .slot 5, .slot 4, .slot 5, .slot 5, .slot 5, .call, .slot 5, .slot 5, .slot 5, .slot 4, .slot 5, .slot 5, .slot 5, .call, .slot 5, .slot 5, .slot 5, .slot 4, .slot 5, .slot 5, .slot 7, .slot 1, .slot 1, .slot 1, .slot 1, .slot 1, .slot 1, .slot 3, .slot 3, .sum (hLSet 3), .slot 1, .call, .slot 1, .slot 1]
theorem lp_u0 {T : Tops} (O : Orc) : SegP (run (eE prog P b1 b2 O) 101 (lp_u0_h T hs) (.root (execsZ ((whB lpW).take 3) (lpEnv P L C))) ⟨[wS l (lst vs ep), wS L (frm κ τ (fLpS0 b x [])), wS b (lst bv eb), wS x (lst xv ex)], 0, 0, 0⟩)
    [HB T bv hs ∧ 0 < hs.length ∧ hs.length < 100000, (0 : Int) ≤ ((gB hs 0).2 : Nat) ∧ (((gB hs 0).2 : Nat) : Int) < xv.length ∧ xv.length < 1000000] [HB T (valsOf [O.fr 0]) (popN hs) ∧ (gB hs 0).1 < 5] (.pure (Flow.next)) [wS l (lst vs ep), wS L (frm (ext κ 2 [hz prog (mkP P b1 b2) s_colour, hz prog (mkP P b1 b2) s_place, hz prog (mkP P b1 b2) s_spot]) (ext τ 2 [O.tok 2, O.tok 3, O.tok 7]) (fLpS0 b x [(s_colour, .str (B (gB hs 0).1) (O.tok 0)), (s_place, .int ((gB hs 0).2 : Nat) (O.tok 1)), (s_spot, .int (((gB hs 0).2 : Nat) + 1) (O.tok 6))])), wS b (lst (valsOf [O.fr 0]) (eb + 1)), wS x (lst (xv.set (gB hs 0).2 (.str ⟨#[]⟩ (O.tok 4))) ex), ⟨false, O.addr 0, tupO (B (gB hs 0).1) (O.tok 0) ((gB hs 0).2 : Nat) (O.tok 1)⟩, wS (O.addr 1) ⟨.type "tuple_iterator", none, .fields #[.none, .int 2 0], #[]⟩, wS (O.addr 2) tup0, wS (O.addr 3) (stopObj (O.addr 2))] := by cases b2 <;> exact ⟨sg5 (by kernel_rfl), by kernel_rfl⟩
noncomputable def lp_r0_h : List Hint := [.slot 1]
theorem lp_r0 (O : Orc) : Seg (run (eE prog P b1 b2 O) 9 lp_r0_h (.root (execsZ [stAt 14 4] (lpEnv P L C))) ⟨[wS l (lst vs ep), wS L (frm κ τ (fLpS0 b x [])), wS b (lst bv eb), wS x (lst xv ex)], 0, 0, 0⟩)
    [] (.pure (Flow.ret (.ref x))) [wS l (lst vs ep), wS L (frm κ τ (fLpS0 b x [])), wS b (lst bv eb), wS x (lst xv ex)] := sg5 (by kernel_rfl)
noncomputable def lp_t1t_h : List Hint := [.top, .top, .slot 1, .sum (hLen 2), .sum (hIGt true)]
theorem lp_t1t (O : Orc) : Seg (run (eE prog P b1 b2 O) 18 lp_t1t_h (.root (isTrueZ (whT lpW) (lpEnv P L C) (evalZ (whT lpW) (lpEnv P L C)))) ⟨[wS l (lst vs ep), wS L (frm κ τ (fLpS0 b x [(s_colour, wc), (s_place, wp), (s_spot, ws)])), wS b (lst bv eb), wS x (lst xv ex)], 0, 0, 0⟩)
    [bv.length < 1000000, decide ((0 : Int) < (↑bv.length : Int)) = true] (.pure (true)) [wS l (lst vs ep), wS L (frm κ τ (fLpS0 b x [(s_colour, wc), (s_place, wp), (s_spot, ws)])), wS b (lst bv eb), wS x (lst xv ex)] := by cases b2 <;> exact sg5 (by kernel_rfl)
noncomputable def lp_t1f_h : List Hint := [.top, .top, .slot 1, .sum (hLen 2), .sum (hIGt false)]
theorem lp_t1f (O : Orc) : Seg (run (eE prog P b1 b2 O) 18 lp_t1f_h (.root (isTrueZ (whT lpW) (lpEnv P L C) (evalZ (whT lpW) (lpEnv P L C)))) ⟨[wS l (lst vs ep), wS L (frm κ τ (fLpS0 b x [(s_colour, wc), (s_place, wp), (s_spot, ws)])), wS b (lst bv eb), wS x (lst xv ex)], 0, 0, 0⟩)
    [bv.length < 1000000, decide ((0 : Int) < (↑bv.length : Int)) = false] (.pure (false)) [wS l (lst vs ep), wS L (frm κ τ (fLpS0 b x [(s_colour, wc), (s_place, wp), (s_spot, ws)])), wS b (lst bv eb), wS x (lst xv ex)] := by cases b2 <;> exact sg5 (by kernel_rfl)
noncomputable def lp_u1_h (T : Tops) (hs : List Bl) : List Hint := [.top, .slot 1, .top, .sump (hHp T 2 hs), .slot 4, .slot 4, .slot 4, .call, .slot 4, .slot 5, .slot 5, .call, .slot 5, .slot 5, .slot 5, .slot 4, .slot 5, .slot 5, .slot 5, .call, .slot 5, .slot 5, .slot 5, .slot 4, .slot 5, .slot 5, .slot 5, .call, .slot 5, .slot 5, .slot 5, .slot 4, .slot 5, .slot 5, .slot 7, .slot 1, .slot 1, .slot 1, .slot 1, .slot 1, .slot 1, .slot 3, .slot 3, .sum (hLSet 3), .slot 1, .call, .slot 1, .slot 1]
theorem lp_u1 {T : Tops} (O : Orc) : SegP (run (eE prog P b1 b2 O) 101 (lp_u1_h T hs) (.root (execsZ ((whB lpW).take 3) (lpEnv P L C))) ⟨[wS l (lst vs ep), wS L (frm κ τ (fLpS0 b x [(s_colour, wc), (s_place, wp), (s_spot, ws)])), wS b (lst bv eb), wS x (lst xv ex)], 0, 0, 0⟩)
    [HB T bv hs ∧ 0 < hs.length ∧ hs.length < 100000, (0 : Int) ≤ ((gB hs 0).2 : Nat) ∧ (((gB hs 0).2 : Nat) : Int) < xv.length ∧ xv.length < 1000000] [HB T (valsOf [O.fr 0]) (popN hs) ∧ (gB hs 0).1 < 5] (.pure (Flow.next)) [wS l (lst vs ep), wS L (frm κ τ (fLpS0 b x [(s_colour, .str (B (gB hs 0).1) (O.tok 0)), (s_place, .int ((gB hs 0).2 : Nat) (O.tok 1)), (s_spot, .int (((gB hs 0).2 : Nat) + 1) (O.tok 6))])), wS b (lst (valsOf [O.fr 0]) (eb + 1)), wS x (lst (xv.set (gB hs 0).2 (.str ⟨#[]⟩ (O.tok 4))) ex), ⟨false, O.addr 0, tupO (B (gB hs 0).1) (O.tok 0) ((gB hs 0).2 : Nat) (O.tok 1)⟩, wS (O.addr 1) ⟨.type "tuple_iterator", none, .fields #[.none, .int 2 0], #[]⟩, wS (O.addr 2) tup0, wS (O.addr 3) (stopObj (O.addr 2))] := by cases b2 <;> exact ⟨sg5 (by kernel_rfl), by kernel_rfl⟩
noncomputable def lp_r1_h : List Hint := [.slot 1]
theorem lp_r1 (O : Orc) : Seg (run (eE prog P b1 b2 O) 9 lp_r1_h (.root (execsZ [stAt 14 4] (lpEnv P L C))) ⟨[wS l (lst vs ep), wS L (frm κ τ (fLpS0 b x [(s_colour, wc), (s_place, wp), (s_spot, ws)])), wS b (lst bv eb), wS x (lst xv ex)], 0, 0, 0⟩)
    [] (.pure (Flow.ret (.ref x))) [wS l (lst vs ep), wS L (frm κ τ (fLpS0 b x [(s_colour, wc), (s_place, wp), (s_spot, ws)])), wS b (lst bv eb), wS x (lst xv ex)] := sg5 (by kernel_rfl)
noncomputable def lp_v_h (sx : Str) (tx : Nat) : List Hint := [.slot 1, .slot 1, .slot 3, .slot 3, .slot 3, .sum (hLGet 3 (.str sx tx)), .sum (hSNe true), .slot 1, .call, .slot 1, .slot 1]
theorem lp_v (O : Orc) : Seg (run (eE prog P b1 b2 O) 34 (lp_v_h sx tx) (.root (denoteZ (lpCode2 P L C))) ⟨[wS l (lst vs ep), wS L (frm κ τ (fLpS0 b x [(s_colour, .str sc tc), (s_place, wp), (s_spot, .int k tk)])), wS b (lst bv eb), wS x (lst xv ex)], 0, 0, 0⟩)
    [(0 : Int) ≤ k ∧ k < (1000000 : Int), xv[k.toNat]? = some (Value.str sx tx), (!sx.cps.toList == (⟨#[]⟩ : Str).cps.toList) = true] (.pure (.again (lpCode2 P L C))) [wS l (lst vs ep), wS L (frm κ τ (fLpS0 b x [(s_colour, .str sc (tc)), (s_place, wp), (s_spot, .int (k + (1 : Int)) (O.tok 2))])), wS b (lst bv eb), wS x (lst xv ex)] := by cases b2 <;> exact sg5 (by kernel_rfl)
noncomputable def lp_w_h (sx : Str) (tx : Nat) : List Hint := [.slot 1, .slot 1, .slot 3, .slot 3, .slot 3, .sum (hLGet 3 (.str sx tx)), .sum (hSNe false)]
theorem lp_w (O : Orc) : Seg (run (eE prog P b1 b2 O) 19 (lp_w_h sx tx) (.root (denoteZ (lpCode2 P L C))) ⟨[wS l (lst vs ep), wS L (frm κ τ (fLpS0 b x [(s_colour, .str sc tc), (s_place, wp), (s_spot, .int k tk)])), wS b (lst bv eb), wS x (lst xv ex)], 0, 0, 0⟩)
    [(0 : Int) ≤ k ∧ k < (1000000 : Int), xv[k.toNat]? = some (Value.str sx tx), (!sx.cps.toList == (⟨#[]⟩ : Str).cps.toList) = false] (.pure (.done .next)) [wS l (lst vs ep), wS L (frm κ τ (fLpS0 b x [(s_colour, .str sc (tc)), (s_place, wp), (s_spot, .int (k) (tk))])), wS b (lst bv eb), wS x (lst xv ex)] := by cases b2 <;> exact sg5 (by kernel_rfl)
noncomputable def lp_y_h : List Hint := [.slot 1, .slot 1, .slot 1, .slot 3, .slot 3, .sum (hLSet 3)]
theorem lp_y (O : Orc) : Seg (run (eE prog P b1 b2 O) 17 lp_y_h (.root (execsZ ((whB lpW).drop 4) (lpEnv P L C))) ⟨[wS l (lst vs ep), wS L (frm κ τ (fLpS0 b x [(s_colour, .str sc tc), (s_place, wp), (s_spot, .int k tk)])), wS b (lst bv eb), wS x (lst xv ex)], 0, 0, 0⟩)
    [(0 : Int) ≤ k ∧ k < (↑xv.length : Int) ∧ xv.length < 1000000] (.pure (Flow.next)) [wS l (lst vs ep), wS L (frm κ τ (fLpS0 b x [(s_colour, .str sc (tc)), (s_place, wp), (s_spot, .int (k) (tk))])), wS b (lst bv eb), wS x (lst (xv.set k.toNat (Value.str sc tc)) (ex))] := sg5 (by kernel_rfl)
end
section
variable (prog : Program) (d : Source → Nat → Nat) (P : Params) (b1 b2 : Bool) {T : Tops} (hT : ∀ a o, (topT P).get a = some o → T a o) {lv : Nat}
include hT
variable {l L C b ep eb x ex tc tk tx : Nat} {κ : Nat → Int} {τ : Nat → Nat} {vs bv xv : List Value} {hs : List Bl} {wc wp ws : Value} {sc sx : Str} {k : Int} {Φ : Result → List Slot → Prop} {ks : List Nat} {Ψ : Flow → List Slot → Prop}
theorem lp_p_ok (hl : 0 ≤ lv) : HsOk prog (wd d P b1 b2) T lv lp_p_h := trivial
theorem lp_p_x (hl : 0 ≤ lv) (hn : ∀ O : Orc, Tri prog (wd d P b1 b2) (lv + 1) T (.func (fnB (st 14)) (lpEnv P (O.addr 0) (O.addr 1))) [wS l (lst vs ep), wS (O.addr 0) (frm zeroI zeroN []), wS (O.addr 1) (celO (.ref l))] Φ) : Tri prog (wd d P b1 b2) (lv + 1) T (.call (.ref 128) ⟨[.ref l], []⟩) [wS l (lst vs ep)] Φ :=
  tri_def hT (lv := lv) (hT 128 (to128 P) rfl) rfl rfl rfl rfl rfl (hT 127 (to127 P) rfl) rfl rfl (hT 2 (to2 P) rfl) rfl (lp_p_ok prog d P b1 b2 hT hl) (fun O => lp_p prog P b1 b2 O l vs ep) (fun O => mem0) hn
theorem lp_a_ok (hl : 2 ≤ lv) (ks : List Nat) : HsOk prog (wd d P b1 b2) T lv (lp_a_h T P ks) := ⟨(hLen_ok _).mono _ _ _ (lw hl), (hRIter_ok _ _ _).mono _ _ _ (lw hl), (hLc_ok prog d P b1 b2 hT _).mono _ _ _ (lw hl), trivial⟩
theorem lp_a_x (hl : 2 ≤ lv) (c0 : vs.length < 1000000) (c1 : (0 : Int) ≤ vs.length ∧ (vs.length : Int) < 1000000) (c2 : Bx vs ks ∧ 0 < ks.length ∧ ks.length < 100000) (hn : ∀ O : Orc, (HB (plus T (O.fr 1).sl) (valsOf [O.fr 0, O.fr 1]) (ballsFrom ks 0)) → (∀ x ∈ (O.fr 1).sl, x.w = true) → Ψ (Flow.next) ([wS l (lst vs ep), wS L (frm (ext zeroI 0 [hz prog (mkP P b1 b2) s_balls]) (ext zeroN 0 [O.tok 4]) [(s_balls, .ref (O.addr 2))]), wS C (celO (.ref l)), wS (O.addr 0) (rgO vs.length (O.tok 1) (O.tok 0) (O.tok 2)), wS (O.addr 1) (ritO vs.length 0 1), wS (O.addr 2) (lst (valsOf [O.fr 0, O.fr 1]) (O.tok 3)), wS (O.addr 3) ⟨.type "dict", none, .dict #[] 2, #[]⟩] ++ (O.fr 1).sl)) : Tx prog (wd d P b1 b2) lv T (execs [stAt 14 0] (lpEnv P L C)) [wS l (lst vs ep), wS L (frm zeroI zeroN []), wS C (celO (.ref l))] Ψ :=
  tx_runP hT (execsZ_eq _ _) (lp_a_ok prog d P b1 b2 hT hl ks) (fun O => lp_a prog P b1 b2 O T l L C vs ep ks) (fun O => (k3 c0 c1 c2)) (fun O hp => hn O (hp _ (.head _)) (hp _ (.tail _ (.head _))))
theorem lp_b_ok (hl : 2 ≤ lv) : HsOk prog (wd d P b1 b2) T lv lp_b_h := ⟨(hLen_ok _).mono _ _ _ (lw hl), (hLMul1_ok _ _ _).mono _ _ _ (lw hl), (hLAdd_ok _ _ _ _).mono _ _ _ (lw hl), trivial⟩
theorem lp_c_ok (hl : 6 ≤ lv) : HsOk prog (wd d P b1 b2) T lv (lp_c_h T hs) := ⟨(hHf_ok prog d P b1 b2 hT _ _).mono _ _ _ (lw hl), trivial⟩
theorem lp_t0t_ok (hl : 2 ≤ lv) : HsOk prog (wd d P b1 b2) T lv lp_t0t_h := ⟨(hLen_ok _).mono _ _ _ (lw hl), (hIGt_ok hT _).mono _ _ _ (lw hl), trivial⟩
theorem lp_t0f_ok (hl : 2 ≤ lv) : HsOk prog (wd d P b1 b2) T lv lp_t0f_h := ⟨(hLen_ok _).mono _ _ _ (lw hl), (hIGt_ok hT _).mono _ _ _ (lw hl), trivial⟩
theorem lp_u0_ok (hl : 6 ≤ lv) : HsOk prog (wd d P b1 b2) T lv (lp_u0_h T hs) := ⟨(hHp_ok prog d P b1 b2 hT _ _).mono _ _ _ (lw hl), (hLSet_ok _).mono _ _ _ (lw hl), trivial⟩
theorem lp_r0_ok (hl : 2 ≤ lv) : HsOk prog (wd d P b1 b2) T lv lp_r0_h := trivial
theorem lp_t1t_ok (hl : 2 ≤ lv) : HsOk prog (wd d P b1 b2) T lv lp_t1t_h := ⟨(hLen_ok _).mono _ _ _ (lw hl), (hIGt_ok hT _).mono _ _ _ (lw hl), trivial⟩
theorem lp_t1f_ok (hl : 2 ≤ lv) : HsOk prog (wd d P b1 b2) T lv lp_t1f_h := ⟨(hLen_ok _).mono _ _ _ (lw hl), (hIGt_ok hT _).mono _ _ _ (lw hl), trivial⟩
theorem lp_u1_ok (hl : 6 ≤ lv) : HsOk prog (wd d P b1 b2) T lv (lp_u1_h T hs) := ⟨(hHp_ok prog d P b1 b2 hT _ _).mono _ _ _ (lw hl), (hLSet_ok _).mono _ _ _ (lw hl), trivial⟩
theorem lp_r1_ok (hl : 2 ≤ lv) : HsOk prog (wd d P b1 b2) T lv lp_r1_h := trivial
theorem lp_v_ok (hl : 2 ≤ lv) : HsOk prog (wd d P b1 b2) T lv (lp_v_h sx tx) := ⟨(hLGet_ok _ _).mono _ _ _ (lw hl), (hSNe_ok hT _).mono _ _ _ (lw hl), trivial⟩
theorem lp_w_ok (hl : 2 ≤ lv) : HsOk prog (wd d P b1 b2) T lv (lp_w_h sx tx) := ⟨(hLGet_ok _ _).mono _ _ _ (lw hl), (hSNe_ok hT _).mono _ _ _ (lw hl), trivial⟩
theorem lp_y_ok (hl : 2 ≤ lv) : HsOk prog (wd d P b1 b2) T lv lp_y_h := ⟨(hLSet_ok _).mono _ _ _ (lw hl), trivial⟩
end
theorem lp_body : fnB (st 14) = [stAt 14 0] ++ ([stAt 14 1] ++ ([stAt 14 2] ++ (.While (whT lpW) (whB lpW) [] lpW.pos :: [stAt 14 4]))) := by kernel_rfl
theorem lp_wbody : whB lpW = (whB lpW).take 3 ++ (.While (whT lpW2) (whB lpW2) [] lpW2.pos :: (whB lpW).drop 4) := by kernel_rfl
theorem Bx.rep (t : Nat) : ∀ n, Bx (List.replicate n (.str ⟨#[]⟩ t)) (List.replicate n 0)
  | 0 => .nil
  | n + 1 => by rw [List.replicate_succ, List.replicate_succ]; exact Bx.cons (k := 0) (by lia) t (Bx.rep t n)
theorem popN_len (hs : List Bl) : (popN hs).length = hs.length - 1 := by
  unfold popN
  split
  · simp; lia
  · rw [suN_len]; simp
theorem ballsFrom_len : ∀ (ks : List Nat) i, (ballsFrom ks i).length ≤ ks.length
  | [], _ => by simp [ballsFrom]
  | k :: ks, i => by
    unfold ballsFrom
    have := ballsFrom_len ks (i + 1)
    split
    · simp; lia
    · simp; lia
theorem hfyN_len (hs : List Bl) : (hfyN hs).length = hs.length := hfyGo_len _ _
noncomputable def bxB (b x : Nat) (r : List (Str × Value)) : List (Str × Value) := (s_balls, .ref b) :: (s_boxes, .ref x) :: r
noncomputable def lpE (vc vp vs : Value) : List (Str × Value) := [(s_colour, vc), (s_place, vp), (s_spot, vs)]
noncomputable def lpR (r : List (Str × Value)) : Prop := r = [] ∨ ∃ a b c, r = lpE a b c
noncomputable def lpH (l L b x : Nat) (vs bv xv : List Value) (ep eb ex : Nat) (κ : Nat → Int) (τ : Nat → Nat) (r : List (Str × Value)) : List Slot :=
  [⟨true, l, lst vs ep⟩, ⟨true, L, frm κ τ (bxB b x r)⟩, ⟨true, b, lst bv eb⟩, ⟨true, x, lst xv ex⟩]
section
variable (prog : Program) (d : Source → Nat → Nat) (P : Params) (b1 b2 : Bool) {T : Tops} (hT : ∀ a o, (topT P).get a = some o → T a o)
include hT
theorem lp_inner {l L C b x : Nat} {vs bv xv : List Value} {ep eb ex : Nat} {bx : List Nat} (hb : Bx xv bx) (hl : bx.length < 100000) {vc vp : Value} (hc : ∃ sc tc, vc = .str sc tc) {j : Nat} :
    ∀ (n i tk : Nat) (κ : Nat → Int) (τ : Nat → Nat), spot n bx i = some j →
    Tri prog (wd d P b1 b2) 6 T (lpCode2 P L C) (lpH l L b x vs bv xv ep eb ex κ τ (lpE vc vp (.int i tk))) (okF fun f H' => f = .next ∧ ∃ κ τ tk, H' = lpH l L b x vs bv xv ep eb ex κ τ (lpE vc vp (.int j tk)))
  | 0, i, tk, κ, τ, h => by cases h
  | n + 1, i, tk, κ, τ, h => by
    obtain ⟨sc, tc, rfl⟩ := hc
    unfold spot at h
    split at h
    · rename_i hi
      obtain ⟨k5, t, gv⟩ := hb.get (List.getElem?_eq_getElem hi)
      have e0 : gN bx i = bx[i] := by unfold gN; rw [List.getD_eq_getElem?_getD, List.getElem?_eq_getElem hi]; rfl
      rw [e0] at h
      generalize bx[i] = k at k5 gv h
      have c1 : (0 : Int) ≤ (i : Int) ∧ (i : Int) < 1000000 := by lia
      have c2 : xv[((i : Nat) : Int).toNat]? = some (.str (B k) t) := by rw [Int.toNat_natCast]; exact gv
      by_cases h0 : k = 0
      · rw [if_pos h0] at h
        cases h
        exact jaD (lv := 5) hT (lp_w prog P b1 b2) (lp_w_ok prog d P b1 b2 hT (by decide)) (fun O => k3 c1 c2 (by rw [B_ne0 k5]; simp [h0])) fun O => ⟨.next, rfl, rfl, κ, τ, tk, rfl⟩
      · rw [if_neg h0] at h
        refine jaA (lv := 5) hT (lp_v prog P b1 b2) (lp_v_ok prog d P b1 b2 hT (by decide)) (fun O => k3 c1 c2 (by rw [B_ne0 k5]; exact decide_eq_true h0)) fun O => ?_
        rw [show (i : Int) + 1 = ((i + 1 : Nat) : Int) by lia]
        exact lp_inner hb hl ⟨sc, tc, rfl⟩ n (i + 1) _ _ _ h
    · cases h
theorem lp_loop {l L C b x : Nat} {vs : List Value} {ep ex : Nat} {res : List Nat} :
    ∀ (n : Nat) (hs : List Bl) (bx : List Nat) (bv xv : List Value) (eb : Nat) (κ : Nat → Int) (τ : Nat → Nat) (r : List (Str × Value)), HB T bv hs → Bx xv bx → lpR r → hs.length < 100000 → bx.length < 100000 → lpGo n hs bx = some res →
    Tri prog (wd d P b1 b2) 7 T (lpCode P L C) (lpH l L b x vs bv xv ep eb ex κ τ r) (okF fun f H' => f = .next ∧ ∃ bv' xv' eb' κ τ r, Bx xv' res ∧ lpR r ∧ H' = lpH l L b x vs bv' xv' ep eb' ex κ τ r)
  | 0, hs, bx, bv, xv, eb, κ, τ, r, hv, hb, hr, hl, hl2, h => by cases h
  | n + 1, hs, bx, bv, xv, eb, κ, τ, r, hv, hb, hr, hl, hl2, h => by
    have lbv := hv.1
    have lxv := hb.length
    unfold lpGo at h
    by_cases h0 : hs.length = 0
    · rw [if_pos h0] at h
      cases h
      have t1 : decide ((0 : Int) < (bv.length : Int)) = false := decide_eq_false (by lia)
      refine tri_while (lv := 6) ?_
      rcases hr with rfl | ⟨wc, wp, ws, rfl⟩
      · refine jaB hT (lp_t0f prog P b1 b2) (lp_t0f_ok prog d P b1 b2 hT (by decide)) (fun O => k2 (by lia) t1) fun O => ?_
        refine it_f ?_
        exact tx_execs_nil ⟨.next, rfl, rfl, bv, xv, eb, κ, τ, _, hb, .inl rfl, rfl⟩
      · refine jaB hT (lp_t1f prog P b1 b2) (lp_t1f_ok prog d P b1 b2 hT (by decide)) (fun O => k2 (by lia) t1) fun O => ?_
        refine it_f ?_
        exact tx_execs_nil ⟨.next, rfl, rfl, bv, xv, eb, κ, τ, _, hb, .inr ⟨_, _, _, rfl⟩, rfl⟩
    · rw [if_neg h0] at h
      have t1 : decide ((0 : Int) < (bv.length : Int)) = true := decide_eq_true (by lia)
      split at h
      · cases h
      · rename_i j hj
        have hp : (gB hs 0).2 + 1 < bx.length ∧ j < bx.length := by
          have key : ∀ (n : Nat) (l : List Nat) (i j : Nat), spot n l i = some j → i < l.length ∧ j < l.length := by
            intro n
            induction n with
            | zero => intro l i j h; cases h
            | succ n ih =>
              intro l i j h
              unfold spot at h
              split at h
              · rename_i hi
                split at h
                · cases h; exact ⟨hi, hi⟩
                · exact ⟨hi, (ih l _ j h).2⟩
              · cases h
          have := key _ _ _ _ hj
          simpa using this
        have tail : ∀ (κ : Nat → Int) (τ : Nat → Nat) (t6 t0 t1 t4 : Nat) (bv' : List Value), HB T bv' (popN hs) → (gB hs 0).1 < 5 →
            Tx prog (wd d P b1 b2) 6 T (execs (.While (whT lpW2) (whB lpW2) [] lpW2.pos :: (whB lpW).drop 4) (lpEnv P L C)) (lpH l L b x vs bv' (xv.set (gB hs 0).2 (.str ⟨#[]⟩ t4)) ep (eb + 1) ex κ τ (lpE (.str (B (gB hs 0).1) t0) (.int ((gB hs 0).2 : Nat) t1) (.int (((gB hs 0).2 : Nat) + 1) t6)))
            (kBody prog (wd d P b1 b2) 6 T (lpCode P L C) (okF fun f H' => f = .next ∧ ∃ bv' xv' eb' κ τ r, Bx xv' res ∧ lpR r ∧ H' = lpH l L b x vs bv' xv' ep eb' ex κ τ r)) := fun κ τ t6 t0 t1 t4 bv' hv' h5 => by
          have hb1 : Bx (xv.set (gB hs 0).2 (.str ⟨#[]⟩ t4)) (bx.set (gB hs 0).2 0) := Bx.set (k := 0) hb (by lia) t4 _
          rw [show (((gB hs 0).2 : Nat) : Int) + 1 = (((gB hs 0).2 + 1 : Nat) : Int) by lia]
          refine tx_execs_cons (tx_While ((lp_inner prog d P b1 b2 hT hb1 (by simp; exact hl2) ⟨_, _, rfl⟩ _ _ _ _ _ hj).mono _ _ (Nat.le_refl _) ?_))
          rintro rr H' ⟨f, rfl, rfl, κ', τ', tk, rfl⟩
          refine ⟨_, rfl, ?_⟩
          refine jaE hT (lp_y prog P b1 b2) (lp_y_ok prog d P b1 b2 hT (by decide)) (fun O => k1 (by simp; lia)) fun O => ?_
          have hb2 := hb1.set h5 t0 j
          exact lp_loop n (popN hs) _ bv' _ (eb + 1) κ' τ' _ hv' hb2 (.inr ⟨_, _, _, rfl⟩) (by rw [popN_len]; lia) (by simp; exact hl2) h
        refine tri_while (lv := 6) ?_
        have cu : (0 : Int) ≤ ((gB hs 0).2 : Nat) ∧ (((gB hs 0).2 : Nat) : Int) < xv.length ∧ xv.length < 1000000 := by lia
        have sub : ∀ (a b c d e f g h : Slot), [a, b, c, d].Sublist [a, b, c, d, e, f, g, h] := fun a b c d e f g h => .cons_cons _ (.cons_cons _ (.cons_cons _ (.cons_cons _ (List.nil_sublist _))))
        rcases hr with rfl | ⟨wc, wp, ws, rfl⟩
        · refine jaB hT (lp_t0t prog P b1 b2) (lp_t0t_ok prog d P b1 b2 hT (by decide)) (fun O => k2 (by lia) t1) fun O => ?_
          refine it_t ?_
          rw [lp_wbody]
          refine tx_app (jaEP hT (lp_u0 prog P b1 b2 (hs := hs)) (lp_u0_ok prog d P b1 b2 hT (by decide)) (fun O => k2 ⟨hv, by lia, hl⟩ cu) fun O' hq => ⟨rfl, ?_⟩)
          exact Tx.sub (sub _ _ _ _ _ _ _ _) (tail _ _ _ _ _ _ _ hq.1 hq.2)
        · refine jaB hT (lp_t1t prog P b1 b2) (lp_t1t_ok prog d P b1 b2 hT (by decide)) (fun O => k2 (by lia) t1) fun O => ?_
          refine it_t ?_
          rw [lp_wbody]
          refine tx_app (jaEP hT (lp_u1 prog P b1 b2 (hs := hs)) (lp_u1_ok prog d P b1 b2 hT (by decide)) (fun O => k2 ⟨hv, by lia, hl⟩ cu) fun O' hq => ⟨rfl, ?_⟩)
          exact Tx.sub (sub _ _ _ _ _ _ _ _) (tail _ _ _ _ _ _ _ hq.1 hq.2)
theorem lp_call {l : Nat} {vs : List Value} {ep : Nat} {ks due : List Nat} (hb : Bx vs ks) (h0 : 0 < ks.length) (hl : ks.length < 10000) (h : lpN ks = some due) :
    Tri prog (wd d P b1 b2) 8 T (.call (.ref 128) ⟨[.ref l], []⟩) [⟨true, l, lst vs ep⟩] (fun r H' => ∃ x, r = .ok (.ret (.ref x)) ∧ ∃ xv ex s1 s2, Bx xv due ∧ s1.w = true ∧ s2.w = true ∧ H' = [⟨true, l, lst vs ep⟩, s1, s2, ⟨true, x, lst xv ex⟩]) := by
  have lv := hb.length
  refine lp_p_x prog d P b1 b2 hT (lv := 7) (by lia) fun O => ?_
  rw [lp_body]
  refine tri_func (lv := 7) (tx_app ?_)
  refine lp_a_x prog d P b1 b2 hT (ks := ks) (by lia) (by lia) (by lia) ⟨hb, h0, by lia⟩ fun O1 hv hw => ⟨rfl, ?_⟩
  refine Tx.plus (Tx.sub (H2 := [⟨true, l, lst vs ep⟩, ⟨true, O.addr 0, _⟩, ⟨true, O.addr 1, _⟩, ⟨true, O1.addr 2, _⟩]) (.cons_cons _ (.cons_cons _ (.cons_cons _ (.cons _ (.cons _ (.cons_cons _ (List.nil_sublist _))))))) ?_)
  have hT' : ∀ a o, (topT P).get a = some o → plus T (O1.fr 1).sl a o := fun a o e => .inl (hT a o e)
  have lb := hv.1
  have lk := ballsFrom_len ks 0
  refine tx_app ?_
  refine jaE hT' (lp_b prog P b1 b2) (lp_b_ok prog d P b1 b2 hT' (by decide)) (fun O => k3 (by lia) (by lia) ⟨by lia, by simp; lia⟩) fun O2 => ⟨rfl, ?_⟩
  refine Tx.sub (H2 := [⟨true, l, lst vs ep⟩, ⟨true, O.addr 0, _⟩, ⟨true, O1.addr 2, _⟩, ⟨true, O2.addr 2, _⟩]) (.cons_cons _ (.cons_cons _ (.cons _ (.cons_cons _ (.cons _ (.cons _ (.cons_cons _ (List.nil_sublist _)))))))) ?_
  refine tx_app ?_
  refine jaEP hT' (lp_c prog P b1 b2 (hs := ballsFrom ks 0)) (lp_c_ok prog d P b1 b2 hT' (by decide)) (fun O => k1 ⟨hv, by lia⟩) fun O3 hq => ⟨rfl, ?_⟩
  rw [lb]
  refine tx_execs_cons (tx_While ((lp_loop prog d P b1 b2 hT' 40 (hfyN (ballsFrom ks 0)) (ks ++ List.replicate (ballsFrom ks 0).length 0) _ _ _ _ _ [] hq (hb.append (Bx.rep _ _)) (.inl rfl) (by rw [hfyN_len]; lia) (by simp; lia) h).mono _ _ (Nat.le_refl _) ?_))
  rintro rr H' ⟨f, rfl, rfl, bv', xv', eb', κ, τ, r, hx, hr, rfl⟩
  refine ⟨_, rfl, ?_⟩
  rcases hr with rfl | ⟨wc, wp, ws, rfl⟩
  · exact jaE hT' (lp_r0 prog P b1 b2) (lp_r0_ok prog d P b1 b2 hT' (by decide)) k0 fun O4 => ⟨_, rfl, xv', _, _, _, hx, rfl, rfl, rfl⟩
  · exact jaE hT' (lp_r1 prog P b1 b2) (lp_r1_ok prog d P b1 b2 hT' (by decide)) k0 fun O4 => ⟨_, rfl, xv', _, _, _, hx, rfl, rfl, rfl⟩
end
noncomputable def tbF1 : Stmt := stAt 15 1
noncomputable def tbF2 : Stmt := (forB tbF1).getD 0 default
noncomputable def tbEnv (P : Params) (L : Nat) : Env := envOf 135 (fdOf (to135 P)) L
noncomputable def tbFor1 (P : Params) (L it : Nat) : Code := .forLoop (forT tbF1) (.ref it) (forB tbF1) [] (tbEnv P L)
noncomputable def tbFor2 (P : Params) (L it : Nat) : Code := .forLoop (forT tbF2) (.ref it) (forB tbF2) [] (tbEnv P L)
noncomputable abbrev fTbS0 (l : Nat) (t : Nat) (r : List (Str × Value)) : List (Str × Value) := (s_strip, .ref l) :: (s_table, .ref t) :: r
section
variable (prog : Program) (P : Params) (b1 b2 : Bool)
variable {l L t ep it i x tx a et er ty : Nat} {κ : Nat → Int} {τ : Nat → Nat} {vs tv rw : List Value} {sx sy : Str} {wb wr wp : Value} {ks : List Nat} {Φ : Result → List Slot → Prop}
noncomputable def tb_p_h : List Hint := [.slot 1, .slot 1]
theorem tb_p (O : Orc) (l : Nat) (vs : List Value) (ep : Nat) : Seg (run (eE prog P b1 b2 O) 11 tb_p_h (.root (preZ 135 (fdOf (to135 P)) ⟨[.ref l], []⟩)) ⟨[wS l (lst vs ep)], 0, 0, 0⟩)
    [] (.pure (envOf 135 (fdOf (to135 P)) (O.addr 0))) [wS l (lst vs ep), wS (O.addr 0) (frm (ext zeroI 0 [hz prog (mkP P b1 b2) s_strip]) (ext zeroN 0 [O.tok 0]) [(s_strip, .ref l)])] := sg5 (by kernel_rfl)
noncomputable def tb_a_h : List Hint := [.slot 0, .slot 0]
theorem tb_a (O : Orc) : Seg (run (eE prog P b1 b2 O) 16 tb_a_h (.root (execsZ [stAt 15 0] (tbEnv P L))) ⟨[wS L (frm κ τ [(s_strip, .ref l)])], 0, 0, 0⟩)
    [] (.pure (Flow.next)) [wS L (frm (ext κ 1 [hz prog (mkP P b1 b2) s_table]) (ext τ 1 [O.tok 0]) [(s_strip, .ref l), (s_table, .ref (O.addr 0))]), wS (O.addr 0) (lst [] 0)] := sg5 (by kernel_rfl)
noncomputable def tb_i1_h : List Hint := [.slot 0]
theorem tb_i1 (O : Orc) : Seg (run (eE prog P b1 b2 O) 8 tb_i1_h (.root (evalZ (forI tbF1) (tbEnv P L))) ⟨[wS L (frm κ τ (fTbS0 l t []))], 0, 0, 0⟩)
    [] (.pure (.ref l)) [wS L (frm κ τ (fTbS0 l t []))] := sg5 (by kernel_rfl)
noncomputable def tb_it_h : List Hint := [.slot 0, .slot 0, .call, .slot 0, .slot 1]
theorem tb_it (O : Orc) : Seg (run (eE prog P b1 b2 O) 15 tb_it_h (.root (pyIterZ (.ref l))) ⟨[wS l (lst vs ep)], 0, 0, 0⟩)
    [] (.pure (.ref (O.addr 0))) [wS l (lst vs ep), wS (O.addr 0) (itL l 0)] := by cases b2 <;> exact sg5 (by kernel_rfl)
noncomputable def tb_n_h (x : Value) : List Hint := [.slot 1, .sum (hLNext 1 0 x)]
theorem tb_n {x : Value} (O : Orc) : Seg (run (eE prog P b1 b2 O) 8 (tb_n_h x) (.root (pyNextZ (.ref it))) ⟨[wS l (lst vs ep), wS it (itL l i)], 0, 0, 0⟩)
    [vs[i]? = some x] (.pure (some x)) [wS l (lst vs ep), wS it (itL l (i + 1))] := sg5 (by kernel_rfl)
noncomputable def tb_nx_h : List Hint := [.slot 1, .sum (hLStop 1 0), .slot 3]
theorem tb_nx (O : Orc) : Seg (run (eE prog P b1 b2 O) 9 tb_nx_h (.root (pyNextZ (.ref it))) ⟨[wS l (lst vs ep), wS it (itL l i)], 0, 0, 0⟩)
    [vs[i]? = none] (.pure none) [wS l (lst vs ep), wS it (itLx i), wS (O.addr 0) tup0, wS (O.addr 1) (stopObj (O.addr 0))] := sg5 (by kernel_rfl)
noncomputable def tb_bA_h : List Hint := [.slot 0, .slot 0]
theorem tb_bA (O : Orc) : Seg (run (eE prog P b1 b2 O) 13 tb_bA_h (.root (assignZ (forT tbF1) (tbEnv P L) (.str sx tx))) ⟨[wS L (frm κ τ (fTbS0 l t []))], 0, 0, 0⟩)
    [] (.pure ()) [wS L (frm (ext κ 2 [hz prog (mkP P b1 b2) s_ball]) (ext τ 2 [O.tok 0]) (fTbS0 l t [(s_ball, .str sx (tx))]))] := sg5 (by kernel_rfl)
noncomputable def tb_b0_h : List Hint := [.slot 0, .slot 0]
theorem tb_b0 (O : Orc) : Seg (run (eE prog P b1 b2 O) 13 tb_b0_h (.root (assignZ (forT tbF1) (tbEnv P L) (.str sx tx))) ⟨[wS L (frm κ τ (fTbS0 l t [(s_ball, wb)]))], 0, 0, 0⟩)
    [] (.pure ()) [wS L (frm κ τ (fTbS0 l t [(s_ball, .str sx (tx))]))] := sg5 (by kernel_rfl)
noncomputable def tb_i02_h : List Hint := [.slot 0]
theorem tb_i02 (O : Orc) : Seg (run (eE prog P b1 b2 O) 8 tb_i02_h (.root (evalZ (forI tbF2) (tbEnv P L))) ⟨[wS L (frm κ τ (fTbS0 l t [(s_ball, wb)]))], 0, 0, 0⟩)
    [] (.pure (.ref t)) [wS L (frm κ τ (fTbS0 l t [(s_ball, wb)]))] := sg5 (by kernel_rfl)
noncomputable def tb_r0_h : List Hint := [.slot 0, .slot 0]
theorem tb_r0 (O : Orc) : Seg (run (eE prog P b1 b2 O) 13 tb_r0_h (.root (assignZ (forT tbF2) (tbEnv P L) (.ref a))) ⟨[wS L (frm κ τ (fTbS0 l t [(s_ball, wb)]))], 0, 0, 0⟩)
    [] (.pure ()) [wS L (frm (ext κ 3 [hz prog (mkP P b1 b2) s_row]) (ext τ 3 [O.tok 0]) (fTbS0 l t [(s_ball, wb), (s_row, .ref a)]))] := sg5 (by kernel_rfl)
noncomputable def tb_e0f_h : List Hint := [.slot 0, .sum (hSNe false)]
theorem tb_e0f (O : Orc) : Seg (run (eE prog P b1 b2 O) 13 tb_e0f_h (.root (execsZ ((forB tbF1).drop 1) (tbEnv P L))) ⟨[wS L (frm κ τ (fTbS0 l t [(s_ball, .str sx tx)])), wS t (lst tv et)], 0, 0, 0⟩)
    [(!sx.cps.toList == (⟨#[]⟩ : Str).cps.toList) = false] (.pure (Flow.next)) [wS L (frm κ τ (fTbS0 l t [(s_ball, .str sx (tx))])), wS t (lst tv et)] := by cases b2 <;> exact sg5 (by kernel_rfl)
noncomputable def tb_e0t_h : List Hint := [.slot 0, .sum (hSNe true), .slot 0, .slot 1, .slot 1, .slot 1, .slot 1, .slot 0, .sum (hLApp 1)]
theorem tb_e0t (O : Orc) : Seg (run (eE prog P b1 b2 O) 29 tb_e0t_h (.root (execsZ ((forB tbF1).drop 1) (tbEnv P L))) ⟨[wS L (frm κ τ (fTbS0 l t [(s_ball, .str sx tx)])), wS t (lst tv et)], 0, 0, 0⟩)
    [(!sx.cps.toList == (⟨#[]⟩ : Str).cps.toList) = true, tv.length < 1000000] (.pure (Flow.next)) [wS L (frm κ τ (fTbS0 l t [(s_ball, .str sx (tx))])), wS t (lst (tv ++ [Value.ref (O.1 0)]) (et + 1)), wS (O.addr 0) (lst [.str sx (tx)] 0)] := by cases b2 <;> exact sg5 (by kernel_rfl)
noncomputable def tb_x0_h : List Hint := [.slot 0]
theorem tb_x0 (O : Orc) : Seg (run (eE prog P b1 b2 O) 9 tb_x0_h (.root (execsZ [stAt 15 2] (tbEnv P L))) ⟨[wS L (frm κ τ (fTbS0 l t [(s_ball, wb)]))], 0, 0, 0⟩)
    [] (.pure (Flow.ret (.ref t))) [wS L (frm κ τ (fTbS0 l t [(s_ball, wb)]))] := sg5 (by kernel_rfl)
noncomputable def tb_b1_h : List Hint := [.slot 0, .slot 0]
theorem tb_b1 (O : Orc) : Seg (run (eE prog P b1 b2 O) 13 tb_b1_h (.root (assignZ (forT tbF1) (tbEnv P L) (.str sx tx))) ⟨[wS L (frm κ τ (fTbS0 l t [(s_ball, wb), (s_row, wr)]))], 0, 0, 0⟩)
    [] (.pure ()) [wS L (frm κ τ (fTbS0 l t [(s_ball, .str sx (tx)), (s_row, wr)]))] := sg5 (by kernel_rfl)
noncomputable def tb_i12_h : List Hint := [.slot 0]
theorem tb_i12 (O : Orc) : Seg (run (eE prog P b1 b2 O) 8 tb_i12_h (.root (evalZ (forI tbF2) (tbEnv P L))) ⟨[wS L (frm κ τ (fTbS0 l t [(s_ball, wb), (s_row, wr)]))], 0, 0, 0⟩)
    [] (.pure (.ref t)) [wS L (frm κ τ (fTbS0 l t [(s_ball, wb), (s_row, wr)]))] := sg5 (by kernel_rfl)
noncomputable def tb_r1_h : List Hint := [.slot 0, .slot 0]
theorem tb_r1 (O : Orc) : Seg (run (eE prog P b1 b2 O) 13 tb_r1_h (.root (assignZ (forT tbF2) (tbEnv P L) (.ref a))) ⟨[wS L (frm κ τ (fTbS0 l t [(s_ball, wb), (s_row, wr)]))], 0, 0, 0⟩)
    [] (.pure ()) [wS L (frm κ τ (fTbS0 l t [(s_ball, wb), (s_row, .ref a)]))] := sg5 (by kernel_rfl)
noncomputable def tb_e1f_h : List Hint := [.slot 0, .sum (hSNe false)]
theorem tb_e1f (O : Orc) : Seg (run (eE prog P b1 b2 O) 13 tb_e1f_h (.root (execsZ ((forB tbF1).drop 1) (tbEnv P L))) ⟨[wS L (frm κ τ (fTbS0 l t [(s_ball, .str sx tx), (s_row, wr)])), wS t (lst tv et)], 0, 0, 0⟩)
    [(!sx.cps.toList == (⟨#[]⟩ : Str).cps.toList) = false] (.pure (Flow.next)) [wS L (frm κ τ (fTbS0 l t [(s_ball, .str sx (tx)), (s_row, wr)])), wS t (lst tv et)] := by cases b2 <;> exact sg5 (by kernel_rfl)
noncomputable def tb_e1t_h : List Hint := [.slot 0, .sum (hSNe true), .slot 0, .slot 1, .slot 1, .slot 1, .slot 1, .slot 0, .sum (hLApp 1)]
theorem tb_e1t (O : Orc) : Seg (run (eE prog P b1 b2 O) 29 tb_e1t_h (.root (execsZ ((forB tbF1).drop 1) (tbEnv P L))) ⟨[wS L (frm κ τ (fTbS0 l t [(s_ball, .str sx tx), (s_row, wr)])), wS t (lst tv et)], 0, 0, 0⟩)
    [(!sx.cps.toList == (⟨#[]⟩ : Str).cps.toList) = true, tv.length < 1000000] (.pure (Flow.next)) [wS L (frm κ τ (fTbS0 l t [(s_ball, .str sx (tx)), (s_row, wr)])), wS t (lst (tv ++ [Value.ref (O.1 0)]) (et + 1)), wS (O.addr 0) (lst [.str sx (tx)] 0)] := by cases b2 <;> exact sg5 (by kernel_rfl)
noncomputable def tb_x1_h : List Hint := [.slot 0]
theorem tb_x1 (O : Orc) : Seg (run (eE prog P b1 b2 O) 9 tb_x1_h (.root (execsZ [stAt 15 2] (tbEnv P L))) ⟨[wS L (frm κ τ (fTbS0 l t [(s_ball, wb), (s_row, wr)]))], 0, 0, 0⟩)
    [] (.pure (Flow.ret (.ref t))) [wS L (frm κ τ (fTbS0 l t [(s_ball, wb), (s_row, wr)]))] := sg5 (by kernel_rfl)
noncomputable def tb_b2_h : List Hint := [.slot 0, .slot 0]
theorem tb_b2 (O : Orc) : Seg (run (eE prog P b1 b2 O) 13 tb_b2_h (.root (assignZ (forT tbF1) (tbEnv P L) (.str sx tx))) ⟨[wS L (frm κ τ (fTbS0 l t [(s_ball, wb), (s_row, wr), (s_place, wp)]))], 0, 0, 0⟩)
    [] (.pure ()) [wS L (frm κ τ (fTbS0 l t [(s_ball, .str sx (tx)), (s_row, wr), (s_place, wp)]))] := sg5 (by kernel_rfl)
noncomputable def tb_i22_h : List Hint := [.slot 0]
theorem tb_i22 (O : Orc) : Seg (run (eE prog P b1 b2 O) 8 tb_i22_h (.root (evalZ (forI tbF2) (tbEnv P L))) ⟨[wS L (frm κ τ (fTbS0 l t [(s_ball, wb), (s_row, wr), (s_place, wp)]))], 0, 0, 0⟩)
    [] (.pure (.ref t)) [wS L (frm κ τ (fTbS0 l t [(s_ball, wb), (s_row, wr), (s_place, wp)]))] := sg5 (by kernel_rfl)
noncomputable def tb_r2_h : List Hint := [.slot 0, .slot 0]
theorem tb_r2 (O : Orc) : Seg (run (eE prog P b1 b2 O) 13 tb_r2_h (.root (assignZ (forT tbF2) (tbEnv P L) (.ref a))) ⟨[wS L (frm κ τ (fTbS0 l t [(s_ball, wb), (s_row, wr), (s_place, wp)]))], 0, 0, 0⟩)
    [] (.pure ()) [wS L (frm κ τ (fTbS0 l t [(s_ball, wb), (s_row, .ref a), (s_place, wp)]))] := sg5 (by kernel_rfl)
noncomputable def tb_e2f_h : List Hint := [.slot 0, .sum (hSNe false)]
theorem tb_e2f (O : Orc) : Seg (run (eE prog P b1 b2 O) 13 tb_e2f_h (.root (execsZ ((forB tbF1).drop 1) (tbEnv P L))) ⟨[wS L (frm κ τ (fTbS0 l t [(s_ball, .str sx tx), (s_row, wr), (s_place, wp)])), wS t (lst tv et)], 0, 0, 0⟩)
    [(!sx.cps.toList == (⟨#[]⟩ : Str).cps.toList) = false] (.pure (Flow.next)) [wS L (frm κ τ (fTbS0 l t [(s_ball, .str sx (tx)), (s_row, wr), (s_place, wp)])), wS t (lst tv et)] := by cases b2 <;> exact sg5 (by kernel_rfl)
noncomputable def tb_e2t_h : List Hint := [.slot 0, .sum (hSNe true), .slot 0, .slot 1, .slot 1, .slot 1, .slot 1, .slot 0, .sum (hLApp 1)]
theorem tb_e2t (O : Orc) : Seg (run (eE prog P b1 b2 O) 29 tb_e2t_h (.root (execsZ ((forB tbF1).drop 1) (tbEnv P L))) ⟨[wS L (frm κ τ (fTbS0 l t [(s_ball, .str sx tx), (s_row, wr), (s_place, wp)])), wS t (lst tv et)], 0, 0, 0⟩)
    [(!sx.cps.toList == (⟨#[]⟩ : Str).cps.toList) = true, tv.length < 1000000] (.pure (Flow.next)) [wS L (frm κ τ (fTbS0 l t [(s_ball, .str sx (tx)), (s_row, wr), (s_place, wp)])), wS t (lst (tv ++ [Value.ref (O.1 0)]) (et + 1)), wS (O.addr 0) (lst [.str sx (tx)] 0)] := by cases b2 <;> exact sg5 (by kernel_rfl)
noncomputable def tb_x2_h : List Hint := [.slot 0]
theorem tb_x2 (O : Orc) : Seg (run (eE prog P b1 b2 O) 9 tb_x2_h (.root (execsZ [stAt 15 2] (tbEnv P L))) ⟨[wS L (frm κ τ (fTbS0 l t [(s_ball, wb), (s_row, wr), (s_place, wp)]))], 0, 0, 0⟩)
    [] (.pure (Flow.ret (.ref t))) [wS L (frm κ τ (fTbS0 l t [(s_ball, wb), (s_row, wr), (s_place, wp)]))] := sg5 (by kernel_rfl)
noncomputable def tb_u1_h (x : Nat) (ks : List Nat) (sy : Str) (ty : Nat) : List Hint := [.slot 0, .sum (hSNe false)]
theorem tb_u1 (O : Orc) : Seg (run (eE prog P b1 b2 O) 13 (tb_u1_h x ks sy ty) (.root (execsZ (forB tbF2) (tbEnv P L))) ⟨[wS L (frm κ τ (fTbS0 l t [(s_ball, .str sx tx), (s_row, .ref a)])), wS a (lst rw er)], 0, 0, 0⟩)
    [(!sx.cps.toList == (⟨#[]⟩ : Str).cps.toList) = false] (.pure (Flow.next)) [wS L (frm κ τ (fTbS0 l t [(s_ball, .str sx (tx)), (s_row, .ref a)])), wS a (lst rw er)] := by cases b2 <;> exact sg5 (by kernel_rfl)
noncomputable def tb_v1_h (x : Nat) (ks : List Nat) (sy : Str) (ty : Nat) : List Hint := [.slot 0, .sum (hSNe true), .top, .slot 0, .slot 0, .top, .sum (hBis 1 x ks), .slot 0, .slot 0, .slot 0, .top, .top, .slot 0, .sum (hLen 1), .sum (hILt true), .slot 0, .slot 0, .slot 1, .slot 1, .slot 1, .sum (hLGet 1 (.str sy ty)), .slot 0, .slot 2, .slot 2, .slot 2, .call, .slot 2, .slot 3, .slot 3, .call, .slot 3, .slot 3, .slot 3, .slot 2, .slot 3, .slot 3, .slot 3, .call, .slot 3, .slot 3, .slot 3, .slot 2, .slot 3, .slot 3, .slot 3, .call, .slot 3, .slot 3, .slot 3, .slot 2, .slot 3, .slot 3, .slot 5, .slot 0, .slot 0, .slot 0, .slot 0, .slot 1, .slot 1, .sum (hLSet 1)]
theorem tb_v1 (O : Orc) : Seg (run (eE prog P b1 b2 O) 120 (tb_v1_h x ks sy ty) (.root (execsZ (forB tbF2) (tbEnv P L))) ⟨[wS L (frm κ τ (fTbS0 l t [(s_ball, .str sx tx), (s_row, .ref a)])), wS a (lst rw er)], 0, 0, 0⟩)
    [(!sx.cps.toList == (⟨#[]⟩ : Str).cps.toList) = true, sx = B x, Bx rw ks, x < 5, rw.length < 100000, rw.length < 1000000, decide ((↑(bisN ks x) : Int) < (↑rw.length : Int)) = true, (0 : Int) ≤ (↑(bisN ks x) : Int) ∧ (↑(bisN ks x) : Int) < (1000000 : Int), rw[(↑(bisN ks x) : Int).toNat]? = some (Value.str sy ty), (0 : Int) ≤ (↑(bisN ks x) : Int) ∧ (↑(bisN ks x) : Int) < (↑rw.length : Int) ∧ rw.length < 1000000] (.pure (Flow.next)) [wS L (frm (ext κ 4 [hz prog (mkP P b1 b2) s_place]) (ext τ 4 [O.tok 2]) (fTbS0 l t [(s_ball, .str sy (ty)), (s_row, .ref a), (s_place, .int ((↑(bisN ks x) : Int)) (O.tok 1))])), wS a (lst (rw.set (↑(bisN ks x) : Int).toNat (Value.str sx tx)) (er)), wS (O.addr 0) ⟨.type "tuple", none, .seq ⟨[.str sy (ty), .str sx (tx)]⟩ 0, #[]⟩, wS (O.addr 1) ⟨.type "tuple_iterator", none, .fields ⟨[.none, .int ((0 : Int) + (1 : Int) + (1 : Int)) (0)]⟩ , #[]⟩, wS (O.addr 2) ⟨.type "tuple", none, .seq ⟨[]⟩ 0, #[]⟩, wS (O.addr 3) ⟨.type "StopIteration", none, .fields ⟨[.ref (O.addr 2), .none, .none, .none, .bool false, .none]⟩ , #[]⟩] := by cases b2 <;> exact sg5 (by kernel_rfl)
noncomputable def tb_w1_h (x : Nat) (ks : List Nat) (sy : Str) (ty : Nat) : List Hint := [.slot 0, .sum (hSNe true), .top, .slot 0, .slot 0, .top, .sum (hBis 1 x ks), .slot 0, .slot 0, .slot 0, .top, .top, .slot 0, .sum (hLen 1), .sum (hILt false), .slot 0, .slot 1, .slot 1, .slot 1, .slot 1, .slot 0, .sum (hLApp 1), .slot 0, .slot 0]
theorem tb_w1 (O : Orc) : Seg (run (eE prog P b1 b2 O) 68 (tb_w1_h x ks sy ty) (.root (execsZ (forB tbF2) (tbEnv P L))) ⟨[wS L (frm κ τ (fTbS0 l t [(s_ball, .str sx tx), (s_row, .ref a)])), wS a (lst rw er)], 0, 0, 0⟩)
    [(!sx.cps.toList == (⟨#[]⟩ : Str).cps.toList) = true, sx = B x, Bx rw ks, x < 5, rw.length < 100000, rw.length < 1000000, decide ((↑(bisN ks x) : Int) < (↑rw.length : Int)) = false, rw.length < 1000000] (.pure (Flow.next)) [wS L (frm (ext κ 4 [hz prog (mkP P b1 b2) s_place]) (ext τ 4 [O.tok 2]) (fTbS0 l t [(s_ball, .str ⟨#[]⟩ (O.tok 4)), (s_row, .ref a), (s_place, .int ((↑(bisN ks x) : Int)) (O.tok 1))])), wS a (lst (rw ++ [Value.str sx tx]) (er + 1))] := by cases b2 <;> exact sg5 (by kernel_rfl)
noncomputable def tb_u2_h (x : Nat) (ks : List Nat) (sy : Str) (ty : Nat) : List Hint := [.slot 0, .sum (hSNe false)]
theorem tb_u2 (O : Orc) : Seg (run (eE prog P b1 b2 O) 13 (tb_u2_h x ks sy ty) (.root (execsZ (forB tbF2) (tbEnv P L))) ⟨[wS L (frm κ τ (fTbS0 l t [(s_ball, .str sx tx), (s_row, .ref a), (s_place, wp)])), wS a (lst rw er)], 0, 0, 0⟩)
    [(!sx.cps.toList == (⟨#[]⟩ : Str).cps.toList) = false] (.pure (Flow.next)) [wS L (frm κ τ (fTbS0 l t [(s_ball, .str sx (tx)), (s_row, .ref a), (s_place, wp)])), wS a (lst rw er)] := by cases b2 <;> exact sg5 (by kernel_rfl)
noncomputable def tb_v2_h (x : Nat) (ks : List Nat) (sy : Str) (ty : Nat) : List Hint := [.slot 0, .sum (hSNe true), .top, .slot 0, .slot 0, .top, .sum (hBis 1 x ks), .slot 0, .slot 0, .slot 0, .top, .top, .slot 0, .sum (hLen 1), .sum (hILt true), .slot 0, .slot 0, .slot 1, .slot 1, .slot 1, .sum (hLGet 1 (.str sy ty)), .slot 0, .slot 2, .slot 2, .slot 2, .call, .slot 2, .slot 3, .slot 3, .call, .slot 3, .slot 3, .slot 3, .slot 2, .slot 3, .slot 3, .slot 3, .call, .slot 3, .slot 3, .slot 3, .slot 2, .slot 3, .slot 3, .slot 3, .call, .slot 3, .slot 3, .slot 3, .slot 2, .slot 3, .slot 3, .slot 5, .slot 0, .slot 0, .slot 0, .slot 0, .slot 1, .slot 1, .sum (hLSet 1)]
theorem tb_v2 (O : Orc) : Seg (run (eE prog P b1 b2 O) 120 (tb_v2_h x ks sy ty) (.root (execsZ (forB tbF2) (tbEnv P L))) ⟨[wS L (frm κ τ (fTbS0 l t [(s_ball, .str sx tx), (s_row, .ref a), (s_place, wp)])), wS a (lst rw er)], 0, 0, 0⟩)
    [(!sx.cps.toList == (⟨#[]⟩ : Str).cps.toList) = true, sx = B x, Bx rw ks, x < 5, rw.length < 100000, rw.length < 1000000, decide ((↑(bisN ks x) : Int) < (↑rw.length : Int)) = true, (0 : Int) ≤ (↑(bisN ks x) : Int) ∧ (↑(bisN ks x) : Int) < (1000000 : Int), rw[(↑(bisN ks x) : Int).toNat]? = some (Value.str sy ty), (0 : Int) ≤ (↑(bisN ks x) : Int) ∧ (↑(bisN ks x) : Int) < (↑rw.length : Int) ∧ rw.length < 1000000] (.pure (Flow.next)) [wS L (frm κ τ (fTbS0 l t [(s_ball, .str sy (ty)), (s_row, .ref a), (s_place, .int ((↑(bisN ks x) : Int)) (O.tok 1))])), wS a (lst (rw.set (↑(bisN ks x) : Int).toNat (Value.str sx tx)) (er)), wS (O.addr 0) ⟨.type "tuple", none, .seq ⟨[.str sy (ty), .str sx (tx)]⟩ 0, #[]⟩, wS (O.addr 1) ⟨.type "tuple_iterator", none, .fields ⟨[.none, .int ((0 : Int) + (1 : Int) + (1 : Int)) (0)]⟩ , #[]⟩, wS (O.addr 2) ⟨.type "tuple", none, .seq ⟨[]⟩ 0, #[]⟩, wS (O.addr 3) ⟨.type "StopIteration", none, .fields ⟨[.ref (O.addr 2), .none, .none, .none, .bool false, .none]⟩ , #[]⟩] := by cases b2 <;> exact sg5 (by kernel_rfl)
noncomputable def tb_w2_h (x : Nat) (ks : List Nat) (sy : Str) (ty : Nat) : List Hint := [.slot 0, .sum (hSNe true), .top, .slot 0, .slot 0, .top, .sum (hBis 1 x ks), .slot 0, .slot 0, .slot 0, .top, .top, .slot 0, .sum (hLen 1), .sum (hILt false), .slot 0, .slot 1, .slot 1, .slot 1, .slot 1, .slot 0, .sum (hLApp 1), .slot 0, .slot 0]
theorem tb_w2 (O : Orc) : Seg (run (eE prog P b1 b2 O) 68 (tb_w2_h x ks sy ty) (.root (execsZ (forB tbF2) (tbEnv P L))) ⟨[wS L (frm κ τ (fTbS0 l t [(s_ball, .str sx tx), (s_row, .ref a), (s_place, wp)])), wS a (lst rw er)], 0, 0, 0⟩)
    [(!sx.cps.toList == (⟨#[]⟩ : Str).cps.toList) = true, sx = B x, Bx rw ks, x < 5, rw.length < 100000, rw.length < 1000000, decide ((↑(bisN ks x) : Int) < (↑rw.length : Int)) = false, rw.length < 1000000] (.pure (Flow.next)) [wS L (frm κ τ (fTbS0 l t [(s_ball, .str ⟨#[]⟩ (O.tok 4)), (s_row, .ref a), (s_place, .int ((↑(bisN ks x) : Int)) (O.tok 1))])), wS a (lst (rw ++ [Value.str sx tx]) (er + 1))] := by cases b2 <;> exact sg5 (by kernel_rfl)
end
section
variable (prog : Program) (d : Source → Nat → Nat) (P : Params) (b1 b2 : Bool) {T : Tops} (hT : ∀ a o, (topT P).get a = some o → T a o) {lv : Nat}
include hT
variable {l L t ep it i x tx a et er ty : Nat} {κ : Nat → Int} {τ : Nat → Nat} {vs tv rw : List Value} {sx sy : Str} {wb wr wp : Value} {ks : List Nat} {Φ : Result → List Slot → Prop}
theorem tb_p_ok (hl : 0 ≤ lv) : HsOk prog (wd d P b1 b2) T lv tb_p_h := trivial
theorem tb_p_x (hl : 0 ≤ lv) (hn : ∀ O : Orc, Tri prog (wd d P b1 b2) (lv + 1) T (.func (fnB (st 15)) (envOf 135 (fdOf (to135 P)) (O.addr 0))) [wS l (lst vs ep), wS (O.addr 0) (frm (ext zeroI 0 [hz prog (mkP P b1 b2) s_strip]) (ext zeroN 0 [O.tok 0]) [(s_strip, .ref l)])] Φ) : Tri prog (wd d P b1 b2) (lv + 1) T (.call (.ref 135) ⟨[.ref l], []⟩) [wS l (lst vs ep)] Φ :=
  tri_def hT (lv := lv) (hT 135 (to135 P) rfl) rfl rfl rfl rfl rfl (hT 134 (to134 P) rfl) rfl rfl (hT 2 (to2 P) rfl) rfl (tb_p_ok prog d P b1 b2 hT hl) (fun O => tb_p prog P b1 b2 O l vs ep) (fun O => mem0) hn
theorem tb_a_ok (hl : 1 ≤ lv) : HsOk prog (wd d P b1 b2) T lv tb_a_h := trivial
theorem tb_i1_ok (hl : 1 ≤ lv) : HsOk prog (wd d P b1 b2) T lv tb_i1_h := trivial
theorem tb_it_ok (hl : 1 ≤ lv) : HsOk prog (wd d P b1 b2) T lv tb_it_h := trivial
theorem tb_n_ok (hl : 1 ≤ lv) {x : Value} : HsOk prog (wd d P b1 b2) T lv (tb_n_h x) := ⟨(hLNext_ok prog _ _ _ _).mono _ _ _ (lw hl), trivial⟩
theorem tb_nx_ok (hl : 1 ≤ lv) : HsOk prog (wd d P b1 b2) T lv tb_nx_h := ⟨(hLStop_ok prog _ _ _).mono _ _ _ (lw hl), trivial⟩
theorem tb_bA_ok (hl : 1 ≤ lv) : HsOk prog (wd d P b1 b2) T lv tb_bA_h := trivial
theorem tb_b0_ok (hl : 1 ≤ lv) : HsOk prog (wd d P b1 b2) T lv tb_b0_h := trivial
theorem tb_i02_ok (hl : 1 ≤ lv) : HsOk prog (wd d P b1 b2) T lv tb_i02_h := trivial
theorem tb_r0_ok (hl : 1 ≤ lv) : HsOk prog (wd d P b1 b2) T lv tb_r0_h := trivial
theorem tb_e0f_ok (hl : 1 ≤ lv) : HsOk prog (wd d P b1 b2) T lv tb_e0f_h := ⟨(hSNe_ok hT _).mono _ _ _ (lw hl), trivial⟩
theorem tb_e0t_ok (hl : 1 ≤ lv) : HsOk prog (wd d P b1 b2) T lv tb_e0t_h := ⟨(hSNe_ok hT _).mono _ _ _ (lw hl), (hLApp_ok _).mono _ _ _ (lw hl), trivial⟩
theorem tb_x0_ok (hl : 1 ≤ lv) : HsOk prog (wd d P b1 b2) T lv tb_x0_h := trivial
theorem tb_b1_ok (hl : 1 ≤ lv) : HsOk prog (wd d P b1 b2) T lv tb_b1_h := trivial
theorem tb_i12_ok (hl : 1 ≤ lv) : HsOk prog (wd d P b1 b2) T lv tb_i12_h := trivial
theorem tb_r1_ok (hl : 1 ≤ lv) : HsOk prog (wd d P b1 b2) T lv tb_r1_h := trivial
theorem tb_e1f_ok (hl : 1 ≤ lv) : HsOk prog (wd d P b1 b2) T lv tb_e1f_h := ⟨(hSNe_ok hT _).mono _ _ _ (lw hl), trivial⟩
theorem tb_e1t_ok (hl : 1 ≤ lv) : HsOk prog (wd d P b1 b2) T lv tb_e1t_h := ⟨(hSNe_ok hT _).mono _ _ _ (lw hl), (hLApp_ok _).mono _ _ _ (lw hl), trivial⟩
theorem tb_x1_ok (hl : 1 ≤ lv) : HsOk prog (wd d P b1 b2) T lv tb_x1_h := trivial
theorem tb_b2_ok (hl : 1 ≤ lv) : HsOk prog (wd d P b1 b2) T lv tb_b2_h := trivial
theorem tb_i22_ok (hl : 1 ≤ lv) : HsOk prog (wd d P b1 b2) T lv tb_i22_h := trivial
theorem tb_r2_ok (hl : 1 ≤ lv) : HsOk prog (wd d P b1 b2) T lv tb_r2_h := trivial
theorem tb_e2f_ok (hl : 1 ≤ lv) : HsOk prog (wd d P b1 b2) T lv tb_e2f_h := ⟨(hSNe_ok hT _).mono _ _ _ (lw hl), trivial⟩
theorem tb_e2t_ok (hl : 1 ≤ lv) : HsOk prog (wd d P b1 b2) T lv tb_e2t_h := ⟨(hSNe_ok hT _).mono _ _ _ (lw hl), (hLApp_ok _).mono _ _ _ (lw hl), trivial⟩
theorem tb_x2_ok (hl : 1 ≤ lv) : HsOk prog (wd d P b1 b2) T lv tb_x2_h := trivial
theorem tb_u1_ok (hl : 3 ≤ lv) : HsOk prog (wd d P b1 b2) T lv (tb_u1_h x ks sy ty) := ⟨(hSNe_ok hT _).mono _ _ _ (lw hl), trivial⟩
theorem tb_v1_ok (hl : 3 ≤ lv) : HsOk prog (wd d P b1 b2) T lv (tb_v1_h x ks sy ty) := ⟨(hSNe_ok hT _).mono _ _ _ (lw hl), (hBis_ok prog d P b1 b2 hT _ _ _).mono _ _ _ (lw hl), (hLen_ok _).mono _ _ _ (lw hl), (hILt_ok hT _).mono _ _ _ (lw hl), (hLGet_ok _ _).mono _ _ _ (lw hl), (hLSet_ok _).mono _ _ _ (lw hl), trivial⟩
theorem tb_w1_ok (hl : 3 ≤ lv) : HsOk prog (wd d P b1 b2) T lv (tb_w1_h x ks sy ty) := ⟨(hSNe_ok hT _).mono _ _ _ (lw hl), (hBis_ok prog d P b1 b2 hT _ _ _).mono _ _ _ (lw hl), (hLen_ok _).mono _ _ _ (lw hl), (hILt_ok hT _).mono _ _ _ (lw hl), (hLApp_ok _).mono _ _ _ (lw hl), trivial⟩
theorem tb_u2_ok (hl : 3 ≤ lv) : HsOk prog (wd d P b1 b2) T lv (tb_u2_h x ks sy ty) := ⟨(hSNe_ok hT _).mono _ _ _ (lw hl), trivial⟩
theorem tb_v2_ok (hl : 3 ≤ lv) : HsOk prog (wd d P b1 b2) T lv (tb_v2_h x ks sy ty) := ⟨(hSNe_ok hT _).mono _ _ _ (lw hl), (hBis_ok prog d P b1 b2 hT _ _ _).mono _ _ _ (lw hl), (hLen_ok _).mono _ _ _ (lw hl), (hILt_ok hT _).mono _ _ _ (lw hl), (hLGet_ok _ _).mono _ _ _ (lw hl), (hLSet_ok _).mono _ _ _ (lw hl), trivial⟩
theorem tb_w2_ok (hl : 3 ≤ lv) : HsOk prog (wd d P b1 b2) T lv (tb_w2_h x ks sy ty) := ⟨(hSNe_ok hT _).mono _ _ _ (lw hl), (hBis_ok prog d P b1 b2 hT _ _ _).mono _ _ _ (lw hl), (hLen_ok _).mono _ _ _ (lw hl), (hILt_ok hT _).mono _ _ _ (lw hl), (hLApp_ok _).mono _ _ _ (lw hl), trivial⟩
end
section
variable {prog : Program} {w : World} {T : Tops} {lv : Nat} {H H0 R : List Slot}
/-- a tree that touches some slots alone -/
theorem Tx.at {α : Type} {t : Sem α} {Ψ0 Ψ : α → List Slot → Prop} (h : Tx prog w lv T t H0 Ψ0) (hp : (H0 ++ R).Perm H) (ro : ∀ a H1, Ψ0 a H1 → ∀ x ∈ H1, x.w = true) (k : ∀ a H1, Ψ0 a H1 → Ψ a (H1 ++ R)) : Tx prog w lv T t H Ψ :=
  Tx.permI ((Tx.frame (R := R) h fun a H1 h1 x hx hw => by rw [ro a H1 h1 x hx] at hw; cases hw).mono fun a H' ⟨H1, h1, e⟩ => by subst e; exact k a H1 h1) hp
theorem Tri.at {c : Code} {Φ0 Φ : Result → List Slot → Prop} (h : Tri prog w lv T c H0 Φ0) (hp : (H0 ++ R).Perm H) (ro : ∀ a H1, Φ0 a H1 → ∀ x ∈ H1, x.w = true) (k : ∀ a H1, Φ0 a H1 → Φ a (H1 ++ R)) : Tri prog w lv T c H Φ :=
  Tri.permI ((Tri.frame (R := R) h fun a H1 h1 x hx hw => by rw [ro a H1 h1 x hx] at hw; cases hw).mono _ _ (Nat.le_refl _) fun a H' ⟨H1, h1, e⟩ => by subst e; exact k a H1 h1) hp
end
theorem perm3 {a b c : Slot} (X : List Slot) : ([b, c] ++ ([a] ++ X)).Perm (a :: b :: c :: X) := List.Perm.append_right X (List.perm_append_comm (l₁ := [b, c]) (l₂ := [a]))
theorem permB {L r t i : Slot} (R1 R2 : List Slot) : ([L, r] ++ ([t, i] ++ (R1 ++ R2))).Perm (L :: t :: i :: (R1 ++ r :: R2)) := by
  refine List.Perm.cons L ?_
  have := (List.perm_middle (a := r) (l₁ := t :: i :: R1) (l₂ := R2)).symm
  simpa using this
/-- rows of a table -/
inductive TbRows : List Value → List (List Nat) → List Slot → Prop where
  | nil : TbRows [] [] []
  | cons {a e : Nat} {rv : List Value} {ks : List Nat} {tv : List Value} {rows : List (List Nat)} {R : List Slot} (h : Bx rv ks) (r : TbRows tv rows R) : TbRows (.ref a :: tv) (ks :: rows) (⟨true, a, lst rv e⟩ :: R)
theorem TbRows.wr {tv : List Value} {rows : List (List Nat)} {R : List Slot} (h : TbRows tv rows R) : ∀ x ∈ R, x.w = true := by
  induction h with
  | nil => intro x hx; cases hx
  | cons h r ih =>
    intro x hx
    rcases List.mem_cons.mp hx with rfl | hx
    · rfl
    · exact ih x hx
theorem TbRows.length {tv : List Value} {rows : List (List Nat)} {R : List Slot} (h : TbRows tv rows R) : tv.length = rows.length := by
  induction h with
  | nil => rfl
  | cons h r ih => simp [ih]
theorem TbRows.snoc {a e : Nat} {rv : List Value} {ks : List Nat} (hb : Bx rv ks) {tv : List Value} {rows : List (List Nat)} {R : List Slot} (h : TbRows tv rows R) : TbRows (tv ++ [.ref a]) (rows ++ [ks]) (R ++ [⟨true, a, lst rv e⟩]) := by
  induction h with
  | nil => exact .cons hb .nil
  | cons h r ih => exact .cons h ih
noncomputable def tbB (l t : Nat) (b : Value) (r : List (Str × Value)) : List (Str × Value) := (s_strip, .ref l) :: (s_table, .ref t) :: (s_ball, b) :: r
noncomputable def tbR1 (a : Value) : List (Str × Value) := [(s_row, a)]
noncomputable def tbR2 (a p : Value) : List (Str × Value) := [(s_row, a), (s_place, p)]
/-- with a row -/
noncomputable def tbRr (a : Value) (r : List (Str × Value)) : Prop := r = tbR1 a ∨ ∃ p, r = tbR2 a p
noncomputable def tbRa (r : List (Str × Value)) : Prop := r = [] ∨ ∃ a, tbRr a r
section
variable (prog : Program) (d : Source → Nat → Nat) (P : Params) (b1 b2 : Bool) {T : Tops} (hT : ∀ a o, (topT P).get a = some o → T a o)
include hT
theorem tb_turn {L l t a : Nat} {κ : Nat → Int} {τ : Nat → Nat} {b tx : Nat} (h5 : b < 5) {r : List (Str × Value)} (hr : tbRr (.ref a) r) {rw : List Value} {er : Nat} {ks : List Nat} (hb : Bx rw ks) (hl : ks.length < 100000) :
    Tx prog (wd d P b1 b2) 4 T (execs (forB tbF2) (tbEnv P L)) [⟨true, L, frm κ τ (tbB l t (.str (B b) tx) r)⟩, ⟨true, a, lst rw er⟩]
      (fun f H' => f = .next ∧ ∃ κ τ tx r rw' er, tbRr (.ref a) r ∧ Bx rw' (tbRow ks b).1 ∧ (tbRow ks b).2 < 5 ∧ H' = [⟨true, L, frm κ τ (tbB l t (.str (B (tbRow ks b).2) tx) r)⟩, ⟨true, a, lst rw' er⟩]) := by
  have lr := hb.length
  by_cases h0 : b = 0
  · have c0 : (!(B b).cps.toList == (⟨#[]⟩ : Str).cps.toList) = false := by rw [B_ne0 h5]; simp [h0]
    have e : tbRow ks b = (ks, 0) := by unfold tbRow; rw [if_pos h0]
    rw [e]
    subst h0
    rcases hr with rfl | ⟨p, rfl⟩
    · exact jaE hT (tb_u1 prog P b1 b2 (x := 0) (ks := ks) (sy := ⟨#[]⟩) (ty := 0)) (tb_u1_ok prog d P b1 b2 hT (by decide)) (fun O => k1 c0) fun O => ⟨rfl, _, _, _, _, _, _, .inl rfl, hb, by lia, rfl⟩
    · exact jaE hT (tb_u2 prog P b1 b2 (x := 0) (ks := ks) (sy := ⟨#[]⟩) (ty := 0)) (tb_u2_ok prog d P b1 b2 hT (by decide)) (fun O => k1 c0) fun O => ⟨rfl, _, _, _, _, _, _, .inr ⟨_, rfl⟩, hb, by lia, rfl⟩
  · have c0 : (!(B b).cps.toList == (⟨#[]⟩ : Str).cps.toList) = true := by rw [B_ne0 h5]; exact decide_eq_true h0
    by_cases hlt : bisN ks b < ks.length
    · have c6 : decide (((bisN ks b : Nat) : Int) < (rw.length : Int)) = true := decide_eq_true (by lia)
      obtain ⟨y5, ty, gv⟩ := hb.get (List.getElem?_eq_getElem hlt)
      have e : tbRow ks b = (ks.set (bisN ks b) b, ks[bisN ks b]) := by
        unfold tbRow gN
        rw [if_neg h0, if_pos hlt, List.getD_eq_getElem?_getD, List.getElem?_eq_getElem hlt]; rfl
      rw [e]
      generalize ks[bisN ks b] = y at y5 gv
      have hset := hb.set h5 tx (bisN ks b)
      rcases hr with rfl | ⟨p, rfl⟩
      · refine Tx.drop (Φ := fun f H' => f = .next ∧ ∃ κ τ r X, tbRr (.ref a) r ∧ H' = [⟨true, L, frm κ τ (tbB l t (.str (B y) ty) r)⟩, ⟨true, a, lst (rw.set (bisN ks b) (.str (B b) tx)) er⟩] ++ X)
          (jaE hT (tb_v1 prog P b1 b2 (x := b) (ks := ks) (sy := B y) (ty := ty)) (tb_v1_ok prog d P b1 b2 hT (by decide)) (fun O => k10 c0 rfl hb h5 (by lia) (by lia) c6 (by lia) (by rw [Int.toNat_natCast]; exact gv) (by lia)) fun O => ⟨rfl, _, _, _, _, .inr ⟨_, rfl⟩, rfl⟩) ?_
        rintro f H' ⟨rfl, κ, τ, r, X, hr, rfl⟩
        exact ⟨_, List.sublist_append_left _ _, rfl, _, _, _, _, _, _, hr, hset, y5, rfl⟩
      · refine Tx.drop (Φ := fun f H' => f = .next ∧ ∃ κ τ r X, tbRr (.ref a) r ∧ H' = [⟨true, L, frm κ τ (tbB l t (.str (B y) ty) r)⟩, ⟨true, a, lst (rw.set (bisN ks b) (.str (B b) tx)) er⟩] ++ X)
          (jaE hT (tb_v2 prog P b1 b2 (x := b) (ks := ks) (sy := B y) (ty := ty)) (tb_v2_ok prog d P b1 b2 hT (by decide)) (fun O => k10 c0 rfl hb h5 (by lia) (by lia) c6 (by lia) (by rw [Int.toNat_natCast]; exact gv) (by lia)) fun O => ⟨rfl, _, _, _, _, .inr ⟨_, rfl⟩, rfl⟩) ?_
        rintro f H' ⟨rfl, κ, τ, r, X, hr, rfl⟩
        exact ⟨_, List.sublist_append_left _ _, rfl, _, _, _, _, _, _, hr, hset, y5, rfl⟩
    · have c6 : decide (((bisN ks b : Nat) : Int) < (rw.length : Int)) = false := decide_eq_false (by lia)
      have e : tbRow ks b = (ks ++ [b], 0) := by unfold tbRow; rw [if_neg h0, if_neg hlt]
      rw [e]
      have happ := hb.append (.cons h5 tx .nil)
      rcases hr with rfl | ⟨p, rfl⟩
      · exact jaE hT (tb_w1 prog P b1 b2 (x := b) (ks := ks) (sy := ⟨#[]⟩) (ty := 0)) (tb_w1_ok prog d P b1 b2 hT (by decide)) (fun O => k8 c0 rfl hb h5 (by lia) (by lia) c6 (by lia)) fun O => ⟨rfl, _, _, _, _, _, _, .inr ⟨_, rfl⟩, happ, by lia, rfl⟩
      · exact jaE hT (tb_w2 prog P b1 b2 (x := b) (ks := ks) (sy := ⟨#[]⟩) (ty := 0)) (tb_w2_ok prog d P b1 b2 hT (by decide)) (fun O => k8 c0 rfl hb h5 (by lia) (by lia) c6 (by lia)) fun O => ⟨rfl, _, _, _, _, _, _, .inr ⟨_, rfl⟩, happ, by lia, rfl⟩
end
noncomputable def Cov (H G : List Slot) : Prop := ∃ X, (G ++ X).Perm H
theorem Cov.perm {H G : List Slot} (h : G.Perm H) : Cov H G := ⟨[], by rw [List.append_nil]; exact h⟩
theorem Cov.refl (H : List Slot) : Cov H H := .perm (.refl _)
open Classical in
theorem perm_of {a b : List Slot} (h : ∀ x, a.count x = b.count x) : a.Perm b := List.perm_iff_count.mpr h
section
variable {prog : Program} {w : World} {T : Tops} {lv : Nat} {H H0 R : List Slot}
theorem Post.cov {H G : List Slot} {H1 : List Slot} {s s' : Shared} (h : Post T H s H1 s') (c : Cov H1 G) : Post T H s G s' := by
  obtain ⟨X, p⟩ := c
  exact (h.perm (.refl _) p.symm).drop (List.sublist_append_left _ _)
theorem Tx.cov {α : Type} {t : Sem α} {Ψ : α → List Slot → Prop} (h : Tx prog w lv T t H (fun a H' => ∃ G, Cov H' G ∧ Ψ a G)) : Tx prog w lv T t H Ψ := fun A s hA hS =>
  wpAny_mono (h A s hA hS) (fun a s' ⟨H', ⟨G, c, p⟩, q⟩ => ⟨G, p, q.cov c⟩) fun _ _ x => x
theorem Tri.cov {c : Code} {Φ : Result → List Slot → Prop} (h : Tri prog w lv T c H (fun a H' => ∃ G, Cov H' G ∧ Φ a G)) : Tri prog w lv T c H Φ := fun A s hA hS =>
  codeAny_mono (h A s hA hS) fun a s' ⟨H', ⟨G, c, p⟩, q⟩ => ⟨G, p, q.cov c⟩
theorem Tx.ofcov {α : Type} {t : Sem α} {Ψ : α → List Slot → Prop} {G : List Slot} (c : Cov H G) (h : Tx prog w lv T t G Ψ) : Tx prog w lv T t H Ψ := by
  obtain ⟨X, p⟩ := c
  exact Tx.permI (Tx.sub (List.sublist_append_left _ _) h) p
theorem Tri.ofcov {c : Code} {Φ : Result → List Slot → Prop} {G : List Slot} (e : Cov H G) (h : Tri prog w lv T c G Φ) : Tri prog w lv T c H Φ := by
  obtain ⟨X, p⟩ := e
  exact Tri.permI (Tri.sub (List.sublist_append_left _ _) h) p
end
theorem tbRow_len (ks : List Nat) (b : Nat) : (tbRow ks b).1.length ≤ ks.length + 1 := by
  unfold tbRow
  split
  · simp
  · split <;> simp
theorem tbIn_len : ∀ (rows : List (List Nat)) (b m : Nat), (∀ ks ∈ rows, ks.length ≤ m) → ∀ ks ∈ (tbIn rows b).1, ks.length ≤ m + 1
  | [], b, m, h, ks, hk => by cases hk
  | r :: rs, b, m, h, ks, hk => by
    unfold tbIn at hk
    rcases List.mem_cons.mp hk with rfl | hk
    · have := tbRow_len r b
      have := h r (.head _)
      lia
    · exact tbIn_len rs _ m (fun k hk' => h k (.tail _ hk')) ks hk
section
variable (prog : Program) (d : Source → Nat → Nat) (P : Params) (b1 b2 : Bool) {T : Tops} (hT : ∀ a o, (topT P).get a = some o → T a o)
include hT
theorem tb_inner {L l t it et : Nat} {tv : List Value} : ∀ (tv2 : List Value) (rows : List (List Nat)) (R2 : List Slot), TbRows tv2 rows R2 → ∀ (i : Nat) (R1 : List Slot) (κ : Nat → Int) (τ : Nat → Nat) (b tx : Nat) (r : List (Str × Value)), b < 5 → tbRa r → tv.drop i = tv2 → (∀ ks ∈ rows, ks.length < 100000) →
    Tri prog (wd d P b1 b2) 5 T (tbFor2 P L it) (⟨true, L, frm κ τ (tbB l t (.str (B b) tx) r)⟩ :: ⟨true, t, lst tv et⟩ :: ⟨true, it, itL t i⟩ :: (R1 ++ R2))
      (fun rr H' => rr = .ok .next ∧ ∃ κ τ tx r R2', tbRa r ∧ (tbIn rows b).2 < 5 ∧ TbRows tv2 (tbIn rows b).1 R2' ∧ H' = ⟨true, L, frm κ τ (tbB l t (.str (B (tbIn rows b).2) tx) r)⟩ :: ⟨true, t, lst tv et⟩ :: (R1 ++ R2'))
  | _, _, _, .nil, i, R1, κ, τ, b, tx, r, h5, hr, hd, hl => by
    have hx : tv[i]? = none := by
      rw [List.getElem?_eq_none_iff]
      have := congrArg List.length hd
      simp at this; lia
    refine tri_for (lv := 4) (fun _ => rfl) (Tx.cov ?_)
    refine Tx.at (R := [⟨true, L, frm κ τ (tbB l t (.str (B b) tx) r)⟩] ++ (R1 ++ [])) (Ψ0 := fun r H1 => r = none ∧ ∃ a e, H1 = [⟨true, t, lst tv et⟩, ⟨true, it, itLx i⟩, ⟨true, a, tup0⟩, ⟨true, e, stopObj a⟩]) (jaN hT (tb_nx prog P b1 b2) (tb_nx_ok prog d P b1 b2 hT (by decide)) (fun O => k1 hx) fun O => ⟨rfl, _, _, rfl⟩) (perm3 _) ?_ ?_
    · rintro a H1 ⟨rfl, a, e, rfl⟩; simp
    · rintro rr H1 ⟨rfl, a, e, rfl⟩
      refine ⟨⟨true, L, frm κ τ (tbB l t (.str (B b) tx) r)⟩ :: ⟨true, t, lst tv et⟩ :: (R1 ++ []), ⟨[⟨true, it, itLx i⟩, ⟨true, a, tup0⟩, ⟨true, e, stopObj a⟩], perm_of fun x => ?_⟩, ?_⟩
      · simp only [List.cons_append, List.nil_append, List.append_nil, List.count_append, List.count_cons, List.count_nil]; lia
      · exact tx_execs_nil ⟨rfl, κ, τ, tx, r, [], hr, h5, .nil, rfl⟩
  | _, _, _, .cons (a := a) (e := e) (rv := rv) (ks := ks) (tv := tv2) (rows := rows) (R := R2) hb hrows, i, R1, κ, τ, b, tx, r, h5, hr, hd, hl => by
    have hx : tv[i]? = some (.ref a) := by
      have : (tv.drop i)[0]? = some (.ref a) := by rw [hd]; rfl
      rw [List.getElem?_drop] at this
      simpa using this
    have hd' : tv.drop (i + 1) = tv2 := by
      have := congrArg List.tail hd
      simpa [List.tail_drop] using this
    refine tri_for (lv := 4) (fun _ => rfl) (Tx.cov ?_)
    refine Tx.at (R := [⟨true, L, frm κ τ (tbB l t (.str (B b) tx) r)⟩] ++ (R1 ++ ⟨true, a, lst rv e⟩ :: R2)) (Ψ0 := fun r H1 => r = some (.ref a) ∧ H1 = [⟨true, t, lst tv et⟩, ⟨true, it, itL t (i + 1)⟩]) (jaN hT (tb_n prog P b1 b2) (tb_n_ok prog d P b1 b2 hT (by decide)) (fun O => k1 hx) fun O => ⟨rfl, rfl⟩) (perm3 _) ?_ ?_
    · rintro a H1 ⟨rfl, rfl⟩; simp
    rintro rr H1 ⟨rfl, rfl⟩
    refine ⟨_, .perm (perm3 _).symm, ?_⟩
    -- the row's name
    have asg : Tx prog (wd d P b1 b2) 4 T (assign (forT tbF2) (tbEnv P L) (.ref a)) [⟨true, L, frm κ τ (tbB l t (.str (B b) tx) r)⟩] (fun _ H1 => ∃ κ τ r, tbRr (.ref a) r ∧ H1 = [⟨true, L, frm κ τ (tbB l t (.str (B b) tx) r)⟩]) := by
      rcases hr with rfl | ⟨w, rfl | ⟨p, rfl⟩⟩
      · exact jaS hT (tb_r0 prog P b1 b2) (tb_r0_ok prog d P b1 b2 hT (by decide)) k0 fun O => ⟨_, _, _, .inl rfl, rfl⟩
      · exact jaS hT (tb_r1 prog P b1 b2) (tb_r1_ok prog d P b1 b2 hT (by decide)) k0 fun O => ⟨_, _, _, .inl rfl, rfl⟩
      · exact jaS hT (tb_r2 prog P b1 b2) (tb_r2_ok prog d P b1 b2 hT (by decide)) k0 fun O => ⟨_, _, _, .inr ⟨_, rfl⟩, rfl⟩
    refine Tx.at asg (R := ⟨true, t, lst tv et⟩ :: ⟨true, it, itL t (i + 1)⟩ :: (R1 ++ ⟨true, a, lst rv e⟩ :: R2)) (.refl _) ?_ ?_
    · rintro _ H1 ⟨κ, τ, r, _, rfl⟩; simp
    rintro _ H1 ⟨κ', τ', r', hr', rfl⟩
    refine Tx.cov ?_
    refine Tx.at (R := [⟨true, t, lst tv et⟩, ⟨true, it, itL t (i + 1)⟩] ++ (R1 ++ R2)) (tb_turn prog d P b1 b2 hT h5 hr' hb (hl _ (.head _))) (permB R1 R2) ?_ ?_
    · rintro _ H1 ⟨_, _, _, _, _, _, _, _, _, _, rfl⟩; simp
    rintro f H1 ⟨rfl, κ2, τ2, tx2, r2, rw2, er2, hr2, hb2, h52, rfl⟩
    refine ⟨_, .perm (permB R1 R2).symm, ?_⟩
    show Tri _ _ _ _ _ _ _
    have ih := tb_inner (l := l) (tv := tv) (et := et) (L := L) (it := it) (t := t) tv2 rows R2 hrows (i + 1) (R1 ++ [⟨true, a, lst rw2 er2⟩]) κ2 τ2 (tbRow ks b).2 tx2 r2 h52 (.inr ⟨_, hr2⟩) hd' (fun k hk => hl k (.tail _ hk))
    rw [List.append_assoc, List.singleton_append] at ih
    refine ih.mono _ _ (Nat.le_refl _) ?_
    rintro rr H' ⟨rfl, κ3, τ3, tx3, r3, R2', hr3, h53, hrows', rfl⟩
    refine ⟨rfl, κ3, τ3, tx3, r3, ⟨true, a, lst rw2 er2⟩ :: R2', hr3, h53, .cons hb2 hrows', ?_⟩
    rw [List.append_assoc, List.singleton_append]; rfl
end
theorem tb_body : fnB (st 15) = [stAt 15 0] ++ ([.For (forT tbF1) (forI tbF1) (forB tbF1) [] tbF1.pos] ++ [stAt 15 2]) := by kernel_rfl
theorem tb_fbody : forB tbF1 = [.For (forT tbF2) (forI tbF2) (forB tbF2) [] tbF2.pos] ++ (forB tbF1).drop 1 := by kernel_rfl
noncomputable def tbFo (l t : Nat) (fo : Obj) : Prop := ∃ κ τ b tx r, tbRa r ∧ fo = frm κ τ (tbB l t (.str b tx) r)
noncomputable def tbF0 (l t : Nat) (fo : Obj) : Prop := ∃ κ τ, fo = frm κ τ [(s_strip, .ref l), (s_table, .ref t)]
section
variable (prog : Program) (d : Source → Nat → Nat) (P : Params) (b1 b2 : Bool) {T : Tops} (hT : ∀ a o, (topT P).get a = some o → T a o)
include hT
theorem tb_outer {L l it t ep : Nat} {vs : List Value} : ∀ (rest : List Value) (ks : List Nat) (i m et : Nat) (rows : List (List Nat)) (tv : List Value) (R : List Slot) (fo : Obj), Bx rest ks → vs.drop i = rest → TbRows tv rows R → (∀ k ∈ rows, k.length ≤ m) → rows.length ≤ m → m + rest.length < 90000 → (tbFo l t fo ∨ (tbF0 l t fo ∧ 0 < rest.length)) →
    Tri prog (wd d P b1 b2) 6 T (tbFor1 P L it) (⟨true, L, fo⟩ :: ⟨true, l, lst vs ep⟩ :: ⟨true, it, itL l i⟩ :: ⟨true, t, lst tv et⟩ :: R)
      (okF fun f H' => f = .next ∧ ∃ fo et tv' R', tbFo l t fo ∧ TbRows tv' (tbN ks rows) R' ∧ H' = ⟨true, L, fo⟩ :: ⟨true, l, lst vs ep⟩ :: ⟨true, t, lst tv' et⟩ :: R')
  | [], ks, i, m, et, rows, tv, R, fo, hb, hd, hrows, hlen, hlr, hm, hfo => by
    cases hb
    have hfo' : tbFo l t fo := hfo.elim id fun ⟨_, h⟩ => absurd h (by simp)
    have hx : vs[i]? = none := by
      rw [List.getElem?_eq_none_iff]
      have := congrArg List.length hd
      simp at this; lia
    refine tri_for (lv := 5) (fun _ => rfl) (Tx.cov ?_)
    refine Tx.at (R := [⟨true, L, fo⟩] ++ (⟨true, t, lst tv et⟩ :: R)) (Ψ0 := fun r H1 => r = none ∧ ∃ a e, H1 = [⟨true, l, lst vs ep⟩, ⟨true, it, itLx i⟩, ⟨true, a, tup0⟩, ⟨true, e, stopObj a⟩]) (jaN hT (tb_nx prog P b1 b2) (tb_nx_ok prog d P b1 b2 hT (by decide)) (fun O => k1 hx) fun O => ⟨rfl, _, _, rfl⟩) (perm3 _) ?_ ?_
    · rintro a H1 ⟨rfl, a, e, rfl⟩; simp
    · rintro rr H1 ⟨rfl, a, e, rfl⟩
      refine ⟨⟨true, L, fo⟩ :: ⟨true, l, lst vs ep⟩ :: ⟨true, t, lst tv et⟩ :: R, ⟨[⟨true, it, itLx i⟩, ⟨true, a, tup0⟩, ⟨true, e, stopObj a⟩], perm_of fun x => ?_⟩, ?_⟩
      · simp only [List.cons_append, List.nil_append, List.append_nil, List.count_append, List.count_cons, List.count_nil]; lia
      · exact tx_execs_nil ⟨.next, rfl, rfl, fo, et, tv, R, hfo', hrows, rfl⟩
  | _ :: rest, _, i, m, et, rows, tv, R, fo, .cons (k := k) hk t0 (ks := ks) hb, hd, hrows, hlen, hlr, hm, hfo => by
    simp only [List.length_cons] at hm
    have hx : vs[i]? = some (.str (B k) t0) := by
      have : (vs.drop i)[0]? = some (.str (B k) t0) := by rw [hd]; rfl
      rw [List.getElem?_drop] at this
      simpa using this
    have hd' : vs.drop (i + 1) = rest := by
      have := congrArg List.tail hd
      simpa [List.tail_drop] using this
    refine tri_for (lv := 5) (fun _ => rfl) (Tx.cov ?_)
    refine Tx.at (R := [⟨true, L, fo⟩] ++ (⟨true, t, lst tv et⟩ :: R)) (Ψ0 := fun r H1 => r = some (.str (B k) t0) ∧ H1 = [⟨true, l, lst vs ep⟩, ⟨true, it, itL l (i + 1)⟩]) (jaN hT (tb_n prog P b1 b2) (tb_n_ok prog d P b1 b2 hT (by decide)) (fun O => k1 hx) fun O => ⟨rfl, rfl⟩) (perm3 _) ?_ ?_
    · rintro a H1 ⟨rfl, rfl⟩; simp
    rintro rr H1 ⟨rfl, rfl⟩
    refine ⟨_, .perm (perm3 _).symm, ?_⟩
    have asg : Tx prog (wd d P b1 b2) 5 T (assign (forT tbF1) (tbEnv P L) (.str (B k) t0)) [⟨true, L, fo⟩] (fun _ H1 => ∃ κ τ r, tbRa r ∧ H1 = [⟨true, L, frm κ τ (tbB l t (.str (B k) t0) r)⟩]) := by
      rcases hfo with ⟨κ, τ, b, tx, r, hr, rfl⟩ | ⟨⟨κ, τ, rfl⟩, _⟩
      · rcases hr with rfl | ⟨w, rfl | ⟨p, rfl⟩⟩
        · exact jaS hT (tb_b0 prog P b1 b2) (tb_b0_ok prog d P b1 b2 hT (by decide)) k0 fun O => ⟨_, _, _, .inl rfl, rfl⟩
        · exact jaS hT (tb_b1 prog P b1 b2) (tb_b1_ok prog d P b1 b2 hT (by decide)) k0 fun O => ⟨_, _, _, .inr ⟨_, .inl rfl⟩, rfl⟩
        · exact jaS hT (tb_b2 prog P b1 b2) (tb_b2_ok prog d P b1 b2 hT (by decide)) k0 fun O => ⟨_, _, _, .inr ⟨_, .inr ⟨_, rfl⟩⟩, rfl⟩
      · exact jaS hT (tb_bA prog P b1 b2) (tb_bA_ok prog d P b1 b2 hT (by decide)) k0 fun O => ⟨_, _, _, .inl rfl, rfl⟩
    refine Tx.at asg (R := ⟨true, l, lst vs ep⟩ :: ⟨true, it, itL l (i + 1)⟩ :: ⟨true, t, lst tv et⟩ :: R) (.refl _) ?_ ?_
    · rintro _ H1 ⟨κ, τ, r, _, rfl⟩; simp
    rintro _ H1 ⟨κ, τ, r, hr, rfl⟩
    rw [tb_fbody]
    refine tx_app (tx_execs_cons (tx_For (fun _ => rfl) ?_))
    -- the table
    have ev : Tx prog (wd d P b1 b2) 5 T (eval (forI tbF2) (tbEnv P L)) [⟨true, L, frm κ τ (tbB l t (.str (B k) t0) r)⟩] (fun x H1 => x = .ref t ∧ H1 = [⟨true, L, frm κ τ (tbB l t (.str (B k) t0) r)⟩]) := by
      rcases hr with rfl | ⟨w, rfl | ⟨p, rfl⟩⟩
      · exact jaV hT (tb_i02 prog P b1 b2) (tb_i02_ok prog d P b1 b2 hT (by decide)) k0 fun O => ⟨rfl, rfl⟩
      · exact jaV hT (tb_i12 prog P b1 b2) (tb_i12_ok prog d P b1 b2 hT (by decide)) k0 fun O => ⟨rfl, rfl⟩
      · exact jaV hT (tb_i22 prog P b1 b2) (tb_i22_ok prog d P b1 b2 hT (by decide)) k0 fun O => ⟨rfl, rfl⟩
    refine Tx.at ev (R := ⟨true, l, lst vs ep⟩ :: ⟨true, it, itL l (i + 1)⟩ :: ⟨true, t, lst tv et⟩ :: R) (.refl _) ?_ ?_
    · rintro _ H1 ⟨rfl, rfl⟩; simp
    rintro _ H1 ⟨rfl, rfl⟩
    refine Tx.cov ?_
    refine Tx.at (H0 := [⟨true, t, lst tv et⟩]) (R := ⟨true, L, frm κ τ (tbB l t (.str (B k) t0) r)⟩ :: ⟨true, l, lst vs ep⟩ :: ⟨true, it, itL l (i + 1)⟩ :: R) (Ψ0 := fun x H1 => ∃ it2, x = .ref it2 ∧ H1 = [⟨true, t, lst tv et⟩, ⟨true, it2, itL t 0⟩]) (jaI hT (tb_it prog P b1 b2) (tb_it_ok prog d P b1 b2 hT (by decide)) k0 fun O => ⟨_, rfl, rfl⟩) (perm_of fun x => ?_) ?_ ?_
    · simp only [List.cons_append, List.nil_append, List.count_append, List.count_cons, List.count_nil]; lia
    · rintro _ H1 ⟨it2, rfl, rfl⟩; simp
    rintro _ H1 ⟨it2, rfl, rfl⟩
    refine ⟨(⟨true, L, frm κ τ (tbB l t (.str (B k) t0) r)⟩ :: ⟨true, t, lst tv et⟩ :: ⟨true, it2, itL t 0⟩ :: ([] ++ R)) ++ [⟨true, l, lst vs ep⟩, ⟨true, it, itL l (i + 1)⟩], .perm (perm_of fun x => ?_), ?_⟩
    · simp only [List.cons_append, List.nil_append, List.count_append, List.count_cons, List.count_nil]; lia
    refine Tri.at (R := [⟨true, l, lst vs ep⟩, ⟨true, it, itL l (i + 1)⟩]) (tb_inner prog d P b1 b2 hT tv rows R hrows 0 [] κ τ k t0 r hk hr rfl (fun k hk => by have := hlen k hk; lia)) (.refl _) ?_ ?_
    · rintro rr H1 ⟨rfl, κ2, τ2, tx2, r2, R2, hr2, h52, hrows2, rfl⟩ x hx
      simp only [List.nil_append, List.mem_cons] at hx
      rcases hx with rfl | rfl | hx
      · rfl
      · rfl
      · exact hrows2.wr x hx
    rintro rr H1 ⟨rfl, κ2, τ2, tx2, r2, R2, hr2, h52, hrows2, rfl⟩
    refine ⟨.next, rfl, tx_execs_nil ⟨rfl, ?_⟩⟩
    have ltv := hrows2.length
    have lin : (tbIn rows k).1.length = rows.length := by
      have : ∀ (rows : List (List Nat)) (b : Nat), (tbIn rows b).1.length = rows.length := by
        intro rows
        induction rows with
        | nil => intro b; rfl
        | cons r rs ih => intro b; unfold tbIn; simp [ih]
      exact this rows k
    have hlen2 := tbIn_len rows k m hlen
    refine Tx.cov ?_
    have go : ∀ (κ : Nat → Int) (τ : Nat → Nat) (r : List (Str × Value)) (tx : Nat) (b : Str) (et : Nat) (tv' : List Value) (rows' : List (List Nat)) (R' : List Slot), tbRa r → TbRows tv' rows' R' → (∀ k ∈ rows', k.length ≤ m + 1) → rows'.length ≤ m + 1 → tbN (k :: ks) rows = tbN ks rows' →
        Tri prog (wd d P b1 b2) 6 T (tbFor1 P L it) (⟨true, L, frm κ τ (tbB l t (.str b tx) r)⟩ :: ⟨true, l, lst vs ep⟩ :: ⟨true, it, itL l (i + 1)⟩ :: ⟨true, t, lst tv' et⟩ :: R')
          (okF fun f H' => f = .next ∧ ∃ fo et tv' R', tbFo l t fo ∧ TbRows tv' (tbN (k :: ks) rows) R' ∧ H' = ⟨true, L, fo⟩ :: ⟨true, l, lst vs ep⟩ :: ⟨true, t, lst tv' et⟩ :: R') := fun κ τ r tx b et tv' rows' R' hr hrows' h1 h2 h3 => by
      rw [h3]
      exact tb_outer rest ks (i + 1) (m + 1) et rows' tv' R' _ hb hd' hrows' h1 h2 (by lia) (.inl ⟨κ, τ, b, tx, r, hr, rfl⟩)
    by_cases h0 : (tbIn rows k).2 = 0
    · have c0 : (!(B (tbIn rows k).2).cps.toList == (⟨#[]⟩ : Str).cps.toList) = false := by rw [B_ne0 h52]; simp [h0]
      have e : tbN (k :: ks) rows = tbN ks (tbIn rows k).1 := by rw [tbN, if_pos h0]
      have stp : Tx prog (wd d P b1 b2) 5 T (execs ((forB tbF1).drop 1) (tbEnv P L)) [⟨true, L, frm κ2 τ2 (tbB l t (.str (B (tbIn rows k).2) tx2) r2)⟩, ⟨true, t, lst tv et⟩] (fun f H1 => f = .next ∧ H1 = [⟨true, L, frm κ2 τ2 (tbB l t (.str (B (tbIn rows k).2) tx2) r2)⟩, ⟨true, t, lst tv et⟩]) := by
        rcases hr2 with rfl | ⟨w, rfl | ⟨p, rfl⟩⟩
        · exact jaE hT (tb_e0f prog P b1 b2) (tb_e0f_ok prog d P b1 b2 hT (by decide)) (fun O => k1 c0) fun O => ⟨rfl, rfl⟩
        · exact jaE hT (tb_e1f prog P b1 b2) (tb_e1f_ok prog d P b1 b2 hT (by decide)) (fun O => k1 c0) fun O => ⟨rfl, rfl⟩
        · exact jaE hT (tb_e2f prog P b1 b2) (tb_e2f_ok prog d P b1 b2 hT (by decide)) (fun O => k1 c0) fun O => ⟨rfl, rfl⟩
      refine Tx.at stp (R := R2 ++ [⟨true, l, lst vs ep⟩, ⟨true, it, itL l (i + 1)⟩]) (.refl _) ?_ ?_
      · rintro _ H1 ⟨rfl, rfl⟩; simp
      rintro f H1 ⟨rfl, rfl⟩
      refine ⟨⟨true, L, frm κ2 τ2 (tbB l t (.str (B (tbIn rows k).2) tx2) r2)⟩ :: ⟨true, l, lst vs ep⟩ :: ⟨true, it, itL l (i + 1)⟩ :: ⟨true, t, lst tv et⟩ :: R2, .perm (perm_of fun x => ?_), ?_⟩
      · simp only [List.cons_append, List.nil_append, List.count_append, List.count_cons, List.count_nil]; lia
      · exact go _ _ _ _ _ _ _ _ _ hr2 hrows2 hlen2 (by lia) e
    · have c0 : (!(B (tbIn rows k).2).cps.toList == (⟨#[]⟩ : Str).cps.toList) = true := by rw [B_ne0 h52]; exact decide_eq_true h0
      have e : tbN (k :: ks) rows = tbN ks ((tbIn rows k).1 ++ [[(tbIn rows k).2]]) := by rw [tbN, if_neg h0]
      have stp : Tx prog (wd d P b1 b2) 5 T (execs ((forB tbF1).drop 1) (tbEnv P L)) [⟨true, L, frm κ2 τ2 (tbB l t (.str (B (tbIn rows k).2) tx2) r2)⟩, ⟨true, t, lst tv et⟩] (fun f H1 => f = .next ∧ ∃ n, H1 = [⟨true, L, frm κ2 τ2 (tbB l t (.str (B (tbIn rows k).2) tx2) r2)⟩, ⟨true, t, lst (tv ++ [.ref n]) (et + 1)⟩, ⟨true, n, lst [.str (B (tbIn rows k).2) tx2] 0⟩]) := by
        rcases hr2 with rfl | ⟨w, rfl | ⟨p, rfl⟩⟩
        · exact jaE hT (tb_e0t prog P b1 b2) (tb_e0t_ok prog d P b1 b2 hT (by decide)) (fun O => k2 c0 (by lia)) fun O => ⟨rfl, _, rfl⟩
        · exact jaE hT (tb_e1t prog P b1 b2) (tb_e1t_ok prog d P b1 b2 hT (by decide)) (fun O => k2 c0 (by lia)) fun O => ⟨rfl, _, rfl⟩
        · exact jaE hT (tb_e2t prog P b1 b2) (tb_e2t_ok prog d P b1 b2 hT (by decide)) (fun O => k2 c0 (by lia)) fun O => ⟨rfl, _, rfl⟩
      refine Tx.at stp (R := R2 ++ [⟨true, l, lst vs ep⟩, ⟨true, it, itL l (i + 1)⟩]) (.refl _) ?_ ?_
      · rintro _ H1 ⟨rfl, n, rfl⟩; simp
      rintro f H1 ⟨rfl, n, rfl⟩
      refine ⟨⟨true, L, frm κ2 τ2 (tbB l t (.str (B (tbIn rows k).2) tx2) r2)⟩ :: ⟨true, l, lst vs ep⟩ :: ⟨true, it, itL l (i + 1)⟩ :: ⟨true, t, lst (tv ++ [.ref n]) (et + 1)⟩ :: (R2 ++ [⟨true, n, lst [.str (B (tbIn rows k).2) tx2] 0⟩]), .perm (perm_of fun x => ?_), ?_⟩
      · simp only [List.cons_append, List.nil_append, List.count_append, List.count_cons, List.count_nil]; lia
      · refine go _ _ _ _ _ _ _ _ _ hr2 (hrows2.snoc (.cons h52 tx2 .nil)) ?_ (by simp; lia) e
        intro k' hk'
        rcases List.mem_append.mp hk' with h | h
        · exact hlen2 k' h
        · rw [List.mem_singleton.mp h]; simp
theorem tb_call {l : Nat} {vs : List Value} {ep : Nat} {ks : List Nat} (hb : Bx vs ks) (h0 : 0 < ks.length) (hl : ks.length < 10000) :
    Tri prog (wd d P b1 b2) 7 T (.call (.ref 135) ⟨[.ref l], []⟩) [⟨true, l, lst vs ep⟩] (fun r H' => ∃ t, r = .ok (.ret (.ref t)) ∧ ∃ et tv R, TbRows tv (tbN ks []) R ∧ H' = ⟨true, l, lst vs ep⟩ :: ⟨true, t, lst tv et⟩ :: R) := by
  have lv := hb.length
  refine tb_p_x prog d P b1 b2 hT (lv := 6) (by lia) fun O => ?_
  rw [tb_body]
  refine tri_func (lv := 6) (tx_app ?_)
  generalize O.addr 0 = L, ext zeroI 0 [hz prog (mkP P b1 b2) s_strip] = κ0, ext zeroN 0 [O.tok 0] = τ0
  refine Tx.cov ?_
  refine Tx.at (R := [⟨true, l, lst vs ep⟩]) (Ψ0 := fun f H1 => f = .next ∧ ∃ κ τ t, H1 = [⟨true, L, frm κ τ [(s_strip, .ref l), (s_table, .ref t)]⟩, ⟨true, t, lst [] 0⟩]) (jaE hT (tb_a prog P b1 b2 (κ := κ0) (τ := τ0)) (tb_a_ok prog d P b1 b2 hT (by decide)) k0 fun O' => ⟨rfl, _, _, _, rfl⟩) (perm_of fun x => ?_) ?_ ?_
  · simp only [List.cons_append, List.nil_append, List.count_append, List.count_cons, List.count_nil]; lia
  · rintro f H1 ⟨rfl, κ, τ, t, rfl⟩; simp
  rintro f H1 ⟨rfl, κ, τ, t, rfl⟩
  refine ⟨_, .refl _, rfl, ?_⟩
  refine tx_app (tx_execs_cons (tx_For (fun _ => rfl) ?_))
  refine Tx.at (H0 := [⟨true, L, _⟩]) (R := [⟨true, t, lst [] 0⟩, ⟨true, l, lst vs ep⟩]) (Ψ0 := fun x H1 => x = .ref l ∧ H1 = [⟨true, L, frm κ τ [(s_strip, .ref l), (s_table, .ref t)]⟩]) (jaV hT (tb_i1 prog P b1 b2) (tb_i1_ok prog d P b1 b2 hT (by decide)) k0 fun O => ⟨rfl, rfl⟩) (.refl _) ?_ ?_
  · rintro _ H1 ⟨rfl, rfl⟩; simp
  rintro _ H1 ⟨rfl, rfl⟩
  refine Tx.cov ?_
  refine Tx.at (H0 := [⟨true, l, lst vs ep⟩]) (R := [⟨true, L, frm κ τ [(s_strip, .ref l), (s_table, .ref t)]⟩, ⟨true, t, lst [] 0⟩]) (Ψ0 := fun x H1 => ∃ it, x = .ref it ∧ H1 = [⟨true, l, lst vs ep⟩, ⟨true, it, itL l 0⟩]) (jaI hT (tb_it prog P b1 b2) (tb_it_ok prog d P b1 b2 hT (by decide)) k0 fun O => ⟨_, rfl, rfl⟩) (perm_of fun x => ?_) ?_ ?_
  · simp only [List.cons_append, List.nil_append, List.count_append, List.count_cons, List.count_nil]; lia
  · rintro _ H1 ⟨it, rfl, rfl⟩; simp
  rintro _ H1 ⟨it, rfl, rfl⟩
  refine ⟨⟨true, L, frm κ τ [(s_strip, .ref l), (s_table, .ref t)]⟩ :: ⟨true, l, lst vs ep⟩ :: ⟨true, it, itL l 0⟩ :: ⟨true, t, lst [] 0⟩ :: [], .perm (perm_of fun x => ?_), ?_⟩
  · simp only [List.cons_append, List.nil_append, List.count_append, List.count_cons, List.count_nil]; lia
  refine (tb_outer prog d P b1 b2 hT vs ks 0 0 0 [] [] [] _ hb rfl .nil (by simp) (by simp) (by lia) (.inr ⟨⟨κ, τ, rfl⟩, by lia⟩)).mono _ _ (Nat.le_refl _) ?_
  rintro rr H' ⟨f, rfl, rfl, fo, et, tv, R, hfo, hrows, rfl⟩
  refine ⟨.next, rfl, tx_execs_nil ⟨rfl, ?_⟩⟩
  obtain ⟨κ2, τ2, b, tx, r, hr, rfl⟩ := hfo
  have ret : Tx prog (wd d P b1 b2) 6 T (execs [stAt 15 2] (tbEnv P L)) [⟨true, L, frm κ2 τ2 (tbB l t (.str b tx) r)⟩] (fun f H1 => f = .ret (.ref t) ∧ H1 = [⟨true, L, frm κ2 τ2 (tbB l t (.str b tx) r)⟩]) := by
    rcases hr with rfl | ⟨w, rfl | ⟨p, rfl⟩⟩
    · exact jaE hT (tb_x0 prog P b1 b2) (tb_x0_ok prog d P b1 b2 hT (by decide)) k0 fun O => ⟨rfl, rfl⟩
    · exact jaE hT (tb_x1 prog P b1 b2) (tb_x1_ok prog d P b1 b2 hT (by decide)) k0 fun O => ⟨rfl, rfl⟩
    · exact jaE hT (tb_x2 prog P b1 b2) (tb_x2_ok prog d P b1 b2 hT (by decide)) k0 fun O => ⟨rfl, rfl⟩
  refine Tx.cov ?_
  refine Tx.at ret (R := ⟨true, l, lst vs ep⟩ :: ⟨true, t, lst tv et⟩ :: R) (.refl _) ?_ ?_
  · rintro _ H1 ⟨rfl, rfl⟩; simp
  rintro _ H1 ⟨rfl, rfl⟩
  exact ⟨_, ⟨[⟨true, L, frm κ2 τ2 (tbB l t (.str b tx) r)⟩], List.perm_append_comm⟩, t, rfl, et, tv, R, hrows, rfl⟩
end
noncomputable def wrEnv (P : Params) (L : Nat) : Env := envOf 116 (fdOf (to116 P)) L
/-- what _law_written gives -/
noncomputable def wrS (k : Nat) (bare : Bool) : Str := cond bare (([⟨#[34, 34]⟩, ⟨#[92, 10, 32]⟩, ⟨#[92, 34, 32]⟩, ⟨#[92, 92, 32]⟩, ⟨#[92, 97, 32]⟩] : List Str).getD k ⟨#[]⟩) (([⟨#[34, 34]⟩, ⟨#[34, 10, 34]⟩, ⟨#[34, 92, 34, 34]⟩, ⟨#[34, 92, 92, 34]⟩, ⟨#[34, 97, 34]⟩] : List Str).getD k ⟨#[]⟩)
section
variable (prog : Program) (P : Params) (b1 b2 : Bool)
variable {L tx : Nat} {κ : Nat → Int} {τ : Nat → Nat} {sx : Str} {bb : Bool} {Φ : Result → List Slot → Prop}
noncomputable def wr_p_h : List Hint := [.slot 0, .slot 0, .slot 0, .slot 0]
theorem wr_p (O : Orc) (sx : Str) (tx : Nat) (bb : Bool) : Seg (run (eE prog P b1 b2 O) 15 wr_p_h (.root (preZ 116 (fdOf (to116 P)) ⟨[.str sx tx, .bool bb], []⟩)) ⟨[], 0, 0, 0⟩)
    [] (.pure (envOf 116 (fdOf (to116 P)) (O.addr 0))) [wS (O.addr 0) (frm (ext zeroI 0 [hz prog (mkP P b1 b2) s_box, hz prog (mkP P b1 b2) s_bare]) (ext zeroN 0 [O.tok 0, O.tok 1]) [(s_box, .str sx (tx)), (s_bare, .bool bb)])] := sg5 (by kernel_rfl)
noncomputable def wr_0f_h : List Hint := [.slot 0, .slot 0, .call, .call, .call, .call]
theorem wr_0f (O : Orc) : Seg (run (eE prog P b1 b2 O) 48 wr_0f_h (.root (denoteZ (.func (fnB (st 12)) (wrEnv P L)))) ⟨[wS L (frm κ τ [(s_box, .str ⟨#[]⟩ tx), (s_bare, .bool false)])], 0, 0, 0⟩)
    [] (.pure (.done (.ret (.str sx6 (O.tok 6))))) [wS L (frm κ τ [(s_box, .str ⟨#[]⟩ (tx)), (s_bare, .bool false)])] := sg5 (by kernel_rfl)
noncomputable def wr_0t_h : List Hint := [.slot 0, .slot 0, .call, .slot 0, .call, .call, .call, .call]
theorem wr_0t (O : Orc) : Seg (run (eE prog P b1 b2 O) 56 wr_0t_h (.root (denoteZ (.func (fnB (st 12)) (wrEnv P L)))) ⟨[wS L (frm κ τ [(s_box, .str ⟨#[]⟩ tx), (s_bare, .bool true)])], 0, 0, 0⟩)
    [] (.pure (.done (.ret (.str sx6 (O.tok 7))))) [wS L (frm κ τ [(s_box, .str ⟨#[]⟩ (tx)), (s_bare, .bool true)])] := by cases b2 <;> exact sg5 (by kernel_rfl)
noncomputable def wr_1f_h : List Hint := [.slot 0, .slot 0, .call, .call, .call, .call]
theorem wr_1f (O : Orc) : Seg (run (eE prog P b1 b2 O) 48 wr_1f_h (.root (denoteZ (.func (fnB (st 12)) (wrEnv P L)))) ⟨[wS L (frm κ τ [(s_box, .str sx4 tx), (s_bare, .bool false)])], 0, 0, 0⟩)
    [] (.pure (.done (.ret (.str sx11 (O.tok 7))))) [wS L (frm κ τ [(s_box, .str sx4 (tx)), (s_bare, .bool false)])] := sg5 (by kernel_rfl)
noncomputable def wr_1t_h : List Hint := [.slot 0, .slot 0, .call, .slot 0, .call, .call]
theorem wr_1t (O : Orc) : Seg (run (eE prog P b1 b2 O) 36 wr_1t_h (.root (denoteZ (.func (fnB (st 12)) (wrEnv P L)))) ⟨[wS L (frm κ τ [(s_box, .str sx4 tx), (s_bare, .bool true)])], 0, 0, 0⟩)
    [] (.pure (.done (.ret (.str sx13 (O.tok 4))))) [wS L (frm κ τ [(s_box, .str sx4 (tx)), (s_bare, .bool true)])] := by cases b2 <;> exact sg5 (by kernel_rfl)
noncomputable def wr_2t_h : List Hint := [.slot 0, .slot 0, .call, .slot 0, .call, .call]
theorem wr_2t (O : Orc) : Seg (run (eE prog P b1 b2 O) 36 wr_2t_h (.root (denoteZ (.func (fnB (st 12)) (wrEnv P L)))) ⟨[wS L (frm κ τ [(s_box, .str sx0 tx), (s_bare, .bool true)])], 0, 0, 0⟩)
    [] (.pure (.done (.ret (.str sx14 (O.tok 4))))) [wS L (frm κ τ [(s_box, .str sx0 (tx)), (s_bare, .bool true)])] := by cases b2 <;> exact sg5 (by kernel_rfl)
noncomputable def wr_3t_h : List Hint := [.slot 0, .slot 0, .call, .slot 0, .call, .call]
theorem wr_3t (O : Orc) : Seg (run (eE prog P b1 b2 O) 36 wr_3t_h (.root (denoteZ (.func (fnB (st 12)) (wrEnv P L)))) ⟨[wS L (frm κ τ [(s_box, .str sx1 tx), (s_bare, .bool true)])], 0, 0, 0⟩)
    [] (.pure (.done (.ret (.str sx15 (O.tok 4))))) [wS L (frm κ τ [(s_box, .str sx1 (tx)), (s_bare, .bool true)])] := by cases b2 <;> exact sg5 (by kernel_rfl)
noncomputable def wr_4f_h : List Hint := [.slot 0, .slot 0, .call, .call, .call, .call]
theorem wr_4f (O : Orc) : Seg (run (eE prog P b1 b2 O) 48 wr_4f_h (.root (denoteZ (.func (fnB (st 12)) (wrEnv P L)))) ⟨[wS L (frm κ τ [(s_box, .str s_a tx), (s_bare, .bool false)])], 0, 0, 0⟩)
    [] (.pure (.done (.ret (.str sx12 (O.tok 7))))) [wS L (frm κ τ [(s_box, .str s_a (tx)), (s_bare, .bool false)])] := sg5 (by kernel_rfl)
noncomputable def wr_4t_h : List Hint := [.slot 0, .slot 0, .call, .slot 0, .call, .call]
theorem wr_4t (O : Orc) : Seg (run (eE prog P b1 b2 O) 36 wr_4t_h (.root (denoteZ (.func (fnB (st 12)) (wrEnv P L)))) ⟨[wS L (frm κ τ [(s_box, .str s_a tx), (s_bare, .bool true)])], 0, 0, 0⟩)
    [] (.pure (.done (.ret (.str sx16 (O.tok 4))))) [wS L (frm κ τ [(s_box, .str s_a (tx)), (s_bare, .bool true)])] := by cases b2 <;> exact sg5 (by kernel_rfl)
end
section
variable (prog : Program) (d : Source → Nat → Nat) (P : Params) (b1 b2 : Bool) {T : Tops} (hT : ∀ a o, (topT P).get a = some o → T a o) {lv : Nat}
include hT
variable {L tx : Nat} {κ : Nat → Int} {τ : Nat → Nat} {sx : Str} {bb : Bool} {Φ : Result → List Slot → Prop}
theorem wr_p_ok (hl : 0 ≤ lv) : HsOk prog (wd d P b1 b2) T lv wr_p_h := trivial
theorem wr_p_x (hl : 0 ≤ lv) (hn : ∀ O : Orc, Tri prog (wd d P b1 b2) (lv + 1) T (.func (fnB (st 12)) (envOf 116 (fdOf (to116 P)) (O.addr 0))) [wS (O.addr 0) (frm (ext zeroI 0 [hz prog (mkP P b1 b2) s_box, hz prog (mkP P b1 b2) s_bare]) (ext zeroN 0 [O.tok 0, O.tok 1]) [(s_box, .str sx (tx)), (s_bare, .bool bb)])] Φ) : Tri prog (wd d P b1 b2) (lv + 1) T (.call (.ref 116) ⟨[.str sx tx, .bool bb], []⟩) [] Φ :=
  tri_def hT (lv := lv) (hT 116 (to116 P) rfl) rfl rfl rfl rfl rfl (hT 115 (to115 P) rfl) rfl rfl (hT 2 (to2 P) rfl) rfl (wr_p_ok prog d P b1 b2 hT hl) (fun O => wr_p prog P b1 b2 O sx tx bb) (fun O => mem0) hn
theorem wr_0f_ok (hl : 2 ≤ lv) : HsOk prog (wd d P b1 b2) T lv wr_0f_h := trivial
theorem wr_0t_ok (hl : 2 ≤ lv) : HsOk prog (wd d P b1 b2) T lv wr_0t_h := trivial
theorem wr_1f_ok (hl : 2 ≤ lv) : HsOk prog (wd d P b1 b2) T lv wr_1f_h := trivial
theorem wr_1t_ok (hl : 2 ≤ lv) : HsOk prog (wd d P b1 b2) T lv wr_1t_h := trivial
theorem wr_2t_ok (hl : 2 ≤ lv) : HsOk prog (wd d P b1 b2) T lv wr_2t_h := trivial
theorem wr_3t_ok (hl : 2 ≤ lv) : HsOk prog (wd d P b1 b2) T lv wr_3t_h := trivial
theorem wr_4f_ok (hl : 2 ≤ lv) : HsOk prog (wd d P b1 b2) T lv wr_4f_h := trivial
theorem wr_4t_ok (hl : 2 ≤ lv) : HsOk prog (wd d P b1 b2) T lv wr_4t_h := trivial
end
end Mine
namespace Mine
open PySem PySem.W PySem.W.X PyProof.Rows PySem.Calls PySem.Builtin.Str
section
variable {prog : Program} {w : World} {A : Around} {E : Value → Shared → Prop} {s : Shared}
theorem repl_call {x y z : Str} {t u v : Nat} (hu : u ≠ 0) (hv : v ≠ 0) (huv : u ≠ v) (hyz : (y == z) = false) (hb : x.length + (x.length + 1) * z.length ≤ 16777216) {Q : Value → Shared → Prop}
    (hq : ∀ t' k, s.toks ≤ k → Q (.str (Txt.replace x y z) t') { s with toks := k }) :
    wpAny (model prog w) A (PySem.call (.builtin "str.replace") [.str x t, .str y u, .str z v]) Q E s := by
  have e : (2 : Nat) ^ 24 = 16777216 := by decide
  have hl : tooLong (x.length + (occurrences x y 0 x.length (x.length + 1)).length * z.length) = false := by
    have h1 := StrLaws.occ_length_le x y 0 x.length (x.length + 1)
    have h2 : (occurrences x y 0 x.length (x.length + 1)).length * z.length ≤ (x.length + 1) * z.length := Nat.mul_le_mul_right _ h1
    unfold tooLong sizeLine
    exact decide_eq_false (by lia)
  refine call_gives F.slot_str_replace (typeIs_str _ _ _) F.entry_str_replace (F.args_str_replace_3 _ _ _)
    (gives_str_replace x y z t u v fun _ => ⟨by simp [hu, hv], by simp [huv], hyz, hl⟩) ?_
  have hq' := hq
  unfold Txt.replace at hq'
  cases hc : ((occurrences x y 0 x.length (x.length + 1)).isEmpty || (y.length == 0 && z.length == 0))
  · rw [hc] at hq'
    simp only [Bool.false_eq_true, if_false] at hq' ⊢
    exact ⟨fits_replaced y hb, hq' _ _ (Nat.le_succ _)⟩
  · rw [hc] at hq'
    simp only [if_true] at hq' ⊢
    exact hq' t s.toks (Nat.le_refl _)
end
section
variable {prog : Program} {w : World} {T : Tops} {lv : Nat} {H : List Slot} {env : Env}
theorem tx_repl {o : PySem.Expr} {apos pos k1p k2p : Pos} {k1 k2 : Nat} {x y z : Str}
    (hbase : attributeBase o s_replace env (eval o env) = eval o env) (hline : (apos.endLine == pos.line) = true) (hyz : (y == z) = false) (hb : x.length + (x.length + 1) * z.length ≤ 16777216)
    (h : Tx prog w lv T (eval o env) H (fun v H1 => ∃ t, v = .str x t ∧ H1 = H)) :
    Tx prog w lv T (eval (.Call (.Attribute o s_replace apos) [.Constant (.str y) k1 k1p, .Constant (.str z) k2 k2p] [] pos) env) H (fun v H1 => ∃ t, v = .str (Txt.replace x y z) t ∧ H1 = H) := fun A s hA hS => by
  refine wpAny_Call_method (T := "str") (id := "str.replace") hbase rfl hline F.plainAttrs_str F.slot_str_replace F.type_str_replace ?_
  refine h.use hA (Post.refl hS) fun v H1 s1 ⟨t, ev, eH⟩ hp => ?_
  subst ev eH
  refine ⟨typeIs_str _ _ _, fun a e => (by cases e), ?_⟩
  refine callWith_method1 ?_
  refine spliced_cons (wpAny_Constant_str (k := k1) (pos := k1p) ?_)
  refine spliced_cons (wpAny_Constant_str (k := k2) (pos := k2p) ?_)
  refine spliced_nil ?_
  have h0 := hp.sat.toks
  refine repl_call (by lia) (by show s1.toks + 1 ≠ 0; lia) (by show s1.toks ≠ s1.toks + 1; lia) hyz hb fun t' k hk => ?_
  refine ⟨_, ⟨t', rfl, rfl⟩, ?_⟩
  have hk' : s1.toks ≤ k := by
    have : s1.toks + 1 + 1 ≤ k := hk
    lia
  exact hp.toks hk'
end
end Mine
namespace Mine
open PySem PySem.W PySem.W.X PyProof.Rows PySem.Calls
noncomputable def retE (s : Stmt) : PySem.Expr := ((sV s).1.getD 0 default)
noncomputable def boLft (e : PySem.Expr) : PySem.Expr := ((xV e).1.getD 0 default)
noncomputable def boRgt (e : PySem.Expr) : PySem.Expr := ((xV e).1.getD 1 default)
noncomputable def clF (e : PySem.Expr) : PySem.Expr := ((xV e).1.getD 0 default)
noncomputable def clA (i : Nat) (e : PySem.Expr) : PySem.Expr := ((xV e).1.getD (i + 1) default)
noncomputable def atO (e : PySem.Expr) : PySem.Expr := ((xV e).1.getD 0 default)
/-- the second replace, the first, the name -/
noncomputable def wrC2 : PySem.Expr := boRgt (boLft (retE (stAt 12 1)))
noncomputable def wrC1 : PySem.Expr := atO (clF wrC2)
noncomputable def wrN : PySem.Expr := atO (clF wrC1)
end Mine
namespace Mine
open PySem PySem.W PySem.W.X PyProof.Rows
section
variable (prog : Program) (P : Params) (b1 b2 : Bool)
variable {L tx : Nat} {κ : Nat → Int} {τ : Nat → Nat} {sx : Str} {A : List Slot}
noncomputable def wr_i2_h : List Hint := [.slot 0]
theorem wr_i2 (O : Orc) : Seg (run (eE prog P b1 b2 O) 10 wr_i2_h (.root (execsZ [stAt 12 0] (wrEnv P L))) ⟨[wS L (frm κ τ [(s_box, .str sx0 tx), (s_bare, .bool false)])], 0, 0, 0⟩)
    [] (.pure (Flow.next)) [wS L (frm κ τ [(s_box, .str sx0 (tx)), (s_bare, .bool false)])] := sg5 (by kernel_rfl)
noncomputable def wr_i3_h : List Hint := [.slot 0]
theorem wr_i3 (O : Orc) : Seg (run (eE prog P b1 b2 O) 10 wr_i3_h (.root (execsZ [stAt 12 0] (wrEnv P L))) ⟨[wS L (frm κ τ [(s_box, .str sx1 tx), (s_bare, .bool false)])], 0, 0, 0⟩)
    [] (.pure (Flow.next)) [wS L (frm κ τ [(s_box, .str sx1 (tx)), (s_bare, .bool false)])] := sg5 (by kernel_rfl)
noncomputable def wr_n_h : List Hint := [.slot 0]
theorem wr_n (O : Orc) : Seg (run (eE prog P b1 b2 O) 8 wr_n_h (.root (evalZ wrN (wrEnv P L))) ⟨[wS L (frm κ τ [(s_box, .str sx tx), (s_bare, .bool false)])], 0, 0, 0⟩)
    [] (.pure (.str sx (tx))) [wS L (frm κ τ [(s_box, .str sx (tx)), (s_bare, .bool false)])] := sg5 (by kernel_rfl)
noncomputable def wr_a_h : List Hint := []
theorem wr_a (O : Orc) : Seg (run (eE prog P b1 b2 O) 7 wr_a_h (.root (evalZ (boLft (boLft (retE (stAt 12 1)))) (wrEnv P L))) ⟨A, 0, 0, 0⟩)
    [] (.pure (.str sx0 (O.tok 0))) A := sg5 (by kernel_rfl)
noncomputable def wr_b_h : List Hint := []
theorem wr_b (O : Orc) : Seg (run (eE prog P b1 b2 O) 7 wr_b_h (.root (evalZ (boRgt (retE (stAt 12 1))) (wrEnv P L))) ⟨A, 0, 0, 0⟩)
    [] (.pure (.str sx0 (O.tok 0))) A := sg5 (by kernel_rfl)
end
section
variable (prog : Program) (d : Source → Nat → Nat) (P : Params) (b1 b2 : Bool) {T : Tops} (hT : ∀ a o, (topT P).get a = some o → T a o) {lv : Nat}
include hT
variable {L tx : Nat} {κ : Nat → Int} {τ : Nat → Nat} {sx : Str} {A : List Slot}
theorem wr_i2_ok (hl : 2 ≤ lv) : HsOk prog (wd d P b1 b2) T lv wr_i2_h := trivial
theorem wr_i3_ok (hl : 2 ≤ lv) : HsOk prog (wd d P b1 b2) T lv wr_i3_h := trivial
theorem wr_n_ok (hl : 2 ≤ lv) : HsOk prog (wd d P b1 b2) T lv wr_n_h := trivial
theorem wr_a_ok (hl : 2 ≤ lv) : HsOk prog (wd d P b1 b2) T lv wr_a_h := trivial
theorem wr_b_ok (hl : 2 ≤ lv) : HsOk prog (wd d P b1 b2) T lv wr_b_h := trivial
end
end Mine
namespace Mine
open PySem PySem.W PySem.W.X PyProof.Rows PySem.Calls
theorem wr_body : fnB (st 12) = [stAt 12 0] ++ [.Return (some (.BinOp (.BinOp (boLft (boLft (retE (stAt 12 1)))) .Add wrC2 (boLft (retE (stAt 12 1))).pos) .Add (boRgt (retE (stAt 12 1))) (retE (stAt 12 1)).pos)) (stAt 12 1).pos] := by kernel_rfl
theorem wr_c1 : wrC1 = .Call (.Attribute wrN s_replace (clF wrC1).pos) [.Constant (.str sx1) 0 (clA 0 wrC1).pos, .Constant (.str sx10) 0 (clA 1 wrC1).pos] [] wrC1.pos := by kernel_rfl
theorem wr_c2 : wrC2 = .Call (.Attribute wrC1 s_replace (clF wrC2).pos) [.Constant (.str sx0) 0 (clA 0 wrC2).pos, .Constant (.str sx17) 0 (clA 1 wrC2).pos] [] wrC2.pos := by kernel_rfl
section
variable {prog : Program} {w : World} {T : Tops} {lv : Nat} {H : List Slot} {env : Env}
theorem tx_BinOp {op : Operator} {l r : PySem.Expr} {pos : Pos} {Ψ : Value → List Slot → Prop} (h : Tx prog w lv T (eval l env) H (fun a H1 => Tx prog w lv T (eval r env) H1 (fun b H2 => Tx prog w lv T (binaryOp op a b) H2 Ψ))) : Tx prog w lv T (eval (.BinOp l op r pos) env) H Ψ := fun A s hA hS =>
  wpAny_BinOp (h.use hA (Post.refl hS) fun a H1 s1 h1 hp => Tx.use h1 hA hp fun b H2 s2 h2 hp2 => Tx.use h2 hA hp2 fun c H3 s3 h3 hp3 => ⟨H3, h3, hp3⟩)
theorem tx_Return {e : PySem.Expr} {pos : Pos} {Ψ : Flow → List Slot → Prop} (h : Tx prog w lv T (eval e env) H (fun v H1 => Ψ (.ret v) H1)) : Tx prog w lv T (exec (.Return (some e) pos) env) H Ψ := fun A s hA hS =>
  wpAny_Return_some (h.use hA (Post.refl hS) fun a H1 s1 h1 hp => ⟨H1, h1, hp⟩)
theorem tx_add_str {x y : Str} {t u : Nat} (hx : (x.length == 0) = false) (hy : (y.length == 0) = false) (hl : (x ++ y).length ≤ sizeLine) : Tx prog w lv T (binaryOp .Add (.str x t) (.str y u)) H (fun v H1 => ∃ t, v = .str (x ++ y) t ∧ H1 = H) := fun A s hA hS => by
  refine PySem.P.add_str ?_
  rw [hx, hy]
  exact ⟨hl, H, ⟨_, rfl, rfl⟩, (Post.refl hS).toks (Nat.le_succ _)⟩
end
section
variable (prog : Program) (d : Source → Nat → Nat) (P : Params) (b1 b2 : Bool) {T : Tops} (hT : ∀ a o, (topT P).get a = some o → T a o)
include hT
theorem wr_ret {L : Nat} {κ : Nat → Int} {τ : Nat → Nat} {sx : Str} {tx : Nat} {m1 m2 : Str} (h1 : Txt.replace sx sx1 sx10 = m1) (h2 : Txt.replace m1 sx0 sx17 = m2) (l0 : sx.length ≤ 100) (l1 : m1.length ≤ 100) (l2 : m2.length ≤ 100) (h3 : (m2.length == 0) = false) :
    Tx prog (wd d P b1 b2) 2 T (execs [.Return (some (.BinOp (.BinOp (boLft (boLft (retE (stAt 12 1)))) .Add wrC2 (boLft (retE (stAt 12 1))).pos) .Add (boRgt (retE (stAt 12 1))) (retE (stAt 12 1)).pos)) (stAt 12 1).pos] (wrEnv P L))
      [⟨true, L, frm κ τ [(s_box, .str sx tx), (s_bare, .bool false)]⟩] (fun f H' => ∃ t, f = .ret (.str ((sx0 : Str) ++ m2 ++ sx0) t)) := by
  refine tx_execs_cons (tx_Return (tx_BinOp (tx_BinOp ?_)))
  refine jaV hT (wr_a prog P b1 b2) (wr_a_ok prog d P b1 b2 hT (by decide)) k0 fun O => ?_
  rw [wr_c2, wr_c1]
  refine Tx.mono (tx_repl (by rfl) (by kernel_rfl) (by rfl) (by show m1.length + (m1.length + 1) * 2 ≤ _; lia) (tx_repl (by rfl) (by kernel_rfl) (by rfl) (by show sx.length + (sx.length + 1) * 2 ≤ _; lia) (jaV hT (wr_n prog P b1 b2) (wr_n_ok prog d P b1 b2 hT (by decide)) k0 fun O => ⟨_, rfl, rfl⟩) |>.mono fun v H1 ⟨t, e, eH⟩ => ⟨t, by rw [← h1]; exact e, eH⟩)) ?_
  rintro v H1 ⟨t, rfl, rfl⟩
  rw [h2]
  refine Tx.mono (tx_add_str rfl h3 ?_) ?_
  · show ((sx0 : Str) ++ m2).length ≤ _
    have : ((sx0 : Str) ++ m2).length = 1 + m2.length := by
      show (#[34] ++ m2.cps).size = 1 + m2.cps.size
      simp
    rw [this]; unfold sizeLine; lia
  rintro v H1 ⟨t2, rfl, rfl⟩
  refine jaV hT (wr_b prog P b1 b2) (wr_b_ok prog d P b1 b2 hT (by decide)) k0 fun O2 => ?_
  have l3 : ((sx0 : Str) ++ m2).length = 1 + m2.length := by
    show (#[34] ++ m2.cps).size = 1 + m2.cps.size
    simp
  refine Tx.mono (tx_add_str (by rw [l3]; simp) rfl ?_) ?_
  · have : ((sx0 : Str) ++ m2 ++ (sx0 : Str)).length = ((sx0 : Str) ++ m2).length + 1 := by
      show (((sx0 : Str) ++ m2).cps ++ #[34]).size = _
      rw [Array.size_append]; rfl
    rw [this, l3]; unfold sizeLine; lia
  rintro v H1 ⟨t3, rfl, rfl⟩
  exact ⟨t3, rfl⟩
theorem wr_call {k : Nat} (hk : k < 5) {bare : Bool} {tx : Nat} : Tri prog (wd d P b1 b2) 3 T (.call (.ref 116) ⟨[.str (B k) tx, .bool bare], []⟩) [] (fun r H' => ∃ t, r = .ok (.ret (.str (wrS k bare) t))) := by
  refine wr_p_x prog d P b1 b2 hT (lv := 2) (by lia) fun O => ?_
  have two : ∀ (L : Nat) (κ : Nat → Int) (τ : Nat → Nat), Tri prog (wd d P b1 b2) 3 T (.func (fnB (st 12)) (wrEnv P L)) [⟨true, L, frm κ τ [(s_box, .str sx0 tx), (s_bare, .bool false)]⟩] (fun r H' => ∃ t, r = .ok (.ret (.str (wrS 2 false) t))) := fun L κ τ => by
    rw [wr_body]
    refine tri_func (lv := 2) (tx_app (jaE hT (wr_i2 prog P b1 b2) (wr_i2_ok prog d P b1 b2 hT (by decide)) k0 fun O => ⟨rfl, ?_⟩))
    refine (wr_ret prog d P b1 b2 hT (m1 := sx0) (m2 := sx17) (by decide +kernel) (by decide +kernel) (by decide) (by decide) (by decide) rfl).mono ?_
    rintro f H' ⟨t, rfl⟩
    exact ⟨t, rfl⟩
  have three : ∀ (L : Nat) (κ : Nat → Int) (τ : Nat → Nat), Tri prog (wd d P b1 b2) 3 T (.func (fnB (st 12)) (wrEnv P L)) [⟨true, L, frm κ τ [(s_box, .str sx1 tx), (s_bare, .bool false)]⟩] (fun r H' => ∃ t, r = .ok (.ret (.str (wrS 3 false) t))) := fun L κ τ => by
    rw [wr_body]
    refine tri_func (lv := 2) (tx_app (jaE hT (wr_i3 prog P b1 b2) (wr_i3_ok prog d P b1 b2 hT (by decide)) k0 fun O => ⟨rfl, ?_⟩))
    refine (wr_ret prog d P b1 b2 hT (m1 := sx10) (m2 := sx10) (by decide +kernel) (by decide +kernel) (by decide) (by decide) (by decide) rfl).mono ?_
    rintro f H' ⟨t, rfl⟩
    exact ⟨t, rfl⟩
  rcases (by lia : k = 0 ∨ k = 1 ∨ k = 2 ∨ k = 3 ∨ k = 4) with rfl | rfl | rfl | rfl | rfl
  · cases bare
    · exact jaD (lv := 2) hT (wr_0f prog P b1 b2) (wr_0f_ok prog d P b1 b2 hT (by decide)) k0 fun O => ⟨_, rfl⟩
    · exact jaD (lv := 2) hT (wr_0t prog P b1 b2) (wr_0t_ok prog d P b1 b2 hT (by decide)) k0 fun O => ⟨_, rfl⟩
  · cases bare
    · exact jaD (lv := 2) hT (wr_1f prog P b1 b2) (wr_1f_ok prog d P b1 b2 hT (by decide)) k0 fun O => ⟨_, rfl⟩
    · exact jaD (lv := 2) hT (wr_1t prog P b1 b2) (wr_1t_ok prog d P b1 b2 hT (by decide)) k0 fun O => ⟨_, rfl⟩
  · cases bare
    · exact two _ _ _
    · exact jaD (lv := 2) hT (wr_2t prog P b1 b2) (wr_2t_ok prog d P b1 b2 hT (by decide)) k0 fun O => ⟨_, rfl⟩
  · cases bare
    · exact three _ _ _
    · exact jaD (lv := 2) hT (wr_3t prog P b1 b2) (wr_3t_ok prog d P b1 b2 hT (by decide)) k0 fun O => ⟨_, rfl⟩
  · cases bare
    · exact jaD (lv := 2) hT (wr_4f prog P b1 b2) (wr_4f_ok prog d P b1 b2 hT (by decide)) k0 fun O => ⟨_, rfl⟩
    · exact jaD (lv := 2) hT (wr_4t prog P b1 b2) (wr_4t_ok prog d P b1 b2 hT (by decide)) k0 fun O => ⟨_, rfl⟩
end
noncomputable def hWrO (k : Nat) (bare : Bool) (H : List Slot) (f : Nat) (s : Str) (b : Bool) : HOut := ⟨[(f, 116)], [], [], [s = B k ∧ k < 5 ∧ b = bare], 0, 1, 0, fun _ ts _ => .ok (.ret (.str (wrS k bare) (ts.getD 0 0))), fun _ _ _ => H⟩
noncomputable def hWr (k : Nat) (bare : Bool) : Handler := fun c H => rSB c (fun f s t b => some (hWrO k bare H f s b))
section
variable (prog : Program) (d : Source → Nat → Nat) (P : Params) (b1 b2 : Bool) {T : Tops} (hT : ∀ a o, (topT P).get a = some o → T a o)
include hT
theorem hWr_ok (k : Nat) (bare : Bool) : HOk prog (wd d P b1 b2) T 3 (hWr k bare) := by
  intro c H out e hi A s hA hS
  unfold hWr at e
  refine rSB_elim (P := fun c => CallsTo _ _ A c s _) e fun f sx t b e1 => ?_
  clear e
  cases e1
  obtain ⟨h1, h2, hh, h3⟩ := hi
  have e1 : f = 116 := h1 (f, 116) (.head _)
  obtain ⟨rfl, hk, rfl⟩ := h3 _ (.head _)
  clear h1 h2 hh h3
  subst e1
  refine CallsTo.of_code _ _ (codeAny_mono (wr_call prog d P b1 b2 hT hk _ s hA.mk' (hS.part (List.nil_sublist _))) ?_)
  rintro r s' ⟨H', ⟨t', rfl⟩, hp⟩
  exact ⟨[], [t'], [], rfl, rfl, rfl, rfl, hp.liftR hS (by simp)⟩
end
section
variable {prog : Program} {w : World} {A : Around} {E : Value → Shared → Prop} {s : Shared}
/-- the loop behind list(text), with the tokens told -/
theorem ls_extend {R : Result → Shared → Prop} (hh : A.handled = none) {x : Str} {t : Nat} {S : Nat} {res : Value} {c₀ : Nat} (hS : s.heap.get? S = some { cls := .type "list", data := .seq #[] c₀ }) (hn : x.cps.size ≤ sizeLine)
    (hR : ∀ h' tk acc' c', s.toks ≤ tk → (∀ b o, b ≠ S → s.heap.get? b = some o → h'.get? b = some o) → h'.get? S = some { cls := .type "list", dict := none, data := .seq acc' c', slots := #[] } →
      ItemsOf (SignAt x) acc' x.cps.size → R (.ok (.ret res)) { s with heap := h', toks := tk }) :
    wpAny (model prog w) A.in1 (Builtin.List.listExtendWith (.ref S) (.str x t) res)
      (fun fin s' => match fin with | .done f => R (.ok f) s' | .again c' => c'.quiet = true ∧ codeAny (model prog w) A c' R s') (fun e s' => R (.error e) s') s := by
  have ne : S ≠ s.heap.objs.size := Nat.ne_of_lt (Heap.lt_size hS)
  unfold Builtin.List.listExtendWith
  refine wpAny_bind (wpAny_typeOf (T := "str") (v := .str x t) rfl ?_)
  rw [show Builtin.List.listSameRef (.ref S) (.str x t) = false from rfl, show (Value.type "str" == Value.type "list") = false by decide, show (Value.type "str" == Value.type "tuple") = false by decide]
  simp only [Bool.or_false, Bool.false_eq_true, if_false]
  refine wpAny_bind (wpAny_pyIter_str fun o St W hst => ?_)
  refine wpAny_bind (wpAny_holding ?_)
  unfold Builtin.List.listLengthHint
  refine wpAny_bind (wpAny_specialOf (T := "str") (v := .str x t) rfl F.str_len ?_)
  wp_delta
  refine wpAny_bind (wpAny_isInstance (T := "str") (v := .str x t) (b := true) rfl (by rw [isSubtype_type]; kernel_rfl) ?_)
  show wpAny _ _ (typeOf (Value.str x t) >>= _) _ _ _
  refine wpAny_bind (wpAny_typeOf (T := "str") (v := .str x t) rfl (wpAny_pure ?_))
  rw [if_neg (by decide)]
  refine wpAny_pure ⟨plainId_quiet F.plain_extend_loop _, codeAny_extend_loopS (W A.in1 hh).toS hn _ (fun hm => ne (List.mem_singleton.mp hm)) _ x.cps.size 0 _ _ _ rfl (Nat.zero_le _) hst (Heap.get?_push_of_some _ hS) (ItemsOf.nil _) fun s' acc' c' hm hS' hacc => ?_⟩
  rw [Moved.eq_with hm]
  refine hR _ _ acc' c' hm.toks (fun b ob hb e => hm.heap b ob (fun hmem => ?_) (Heap.get?_push_of_some _ e)) hS' hacc
  rcases List.mem_cons.mp hmem with e' | hmem
  · exact hb e'
  · have := Heap.lt_size e
    rw [List.mem_singleton.mp hmem] at this
    exact Nat.lt_irrefl _ this
theorem ls_call {Q : Value → Shared → Prop} (hh : A.handled = none) {x : Str} {t : Nat} (hn : x.cps.size ≤ sizeLine)
    (hQ : ∀ h' tk acc' c', s.toks ≤ tk → (∀ b o, s.heap.get? b = some o → h'.get? b = some o) →
      h'.get? s.heap.objs.size = some { cls := .type "list", dict := none, data := .seq acc' c', slots := #[] } → ItemsOf (SignAt x) acc' x.cps.size → Q (.ref s.heap.objs.size) { s with heap := h', toks := tk }) :
    wpAny (model prog w) A (PySem.call (.type "list") [.str x t]) Q E s := by
  refine callType_codes (Q₁ := fun obj s₁ => obj = .ref s.heap.objs.size ∧ s₁ = { s with heap := s.heap.push { cls := .type "list", data := .seq #[] } }) F.called_list (F.typeCall_list_1 _) F.entry_list_init
    (code_list_new _ ⟨rfl, rfl⟩) fun obj s₁ ⟨e1, e2⟩ => ?_
  subst e1 e2
  have hS : (s.heap.push { cls := .type "list", data := .seq #[] }).get? s.heap.objs.size = some { cls := .type "list", data := .seq #[] } := Heap.get?_push_size _ rfl
  refine ⟨⟨_, hS, rfl⟩, F.args_list_init_2 _ _, ?_⟩
  show wpAny _ _ (Builtin.List.listItems (.ref s.heap.objs.size) >>= _) _ _ _
  unfold Builtin.List.listItems
  refine wpAny_bind (wpAny_bind (wpAny_seqItems hS rfl (wpAny_pure ?_)))
  show wpAny _ _ (updateSeq s.heap.objs.size (fun _ => #[]) >>= _) _ _ _
  refine wpAny_bind (wpAny_updateSeq hS rfl ?_)
  have hS2 := Heap.get?_update_self (Obj.mapSeq (fun _ => (#[] : Array Value))) hS rfl
  refine wpAny_bind (wpAny_letGo (ls_extend (A := A.in1) hh hS2 hn fun h' tk acc' c' htk hk hS' hacc => ?_))
  refine ⟨rfl, hQ h' tk acc' c' htk (fun b o e => ?_) hS' hacc⟩
  have hb : b ≠ s.heap.objs.size := Nat.ne_of_lt (Heap.lt_size e)
  exact hk b o hb ((Heap.get?_update_other _ _ (Ne.symm hb)).trans (Heap.get?_push_of_some _ e))
end
noncomputable def is_list_reverse (id : String) : Bool := S.eqLit 31708251359169610307576556141 id
theorem is_list_reverse_eq {id : String} (h : is_list_reverse id = true) : id = "list.reverse" := eqLit_iff (by kernel_rfl) h
noncomputable def hLRevO (j : Nat) (H : List Slot) (a : Nat) (a' : Nat) (vs : List Value) (ep : Nat) : HOut := ⟨[(a, a')], [], [], [vs.length < 1000000], 0, 0, 0, fun _ _ _ => .ok (.ret .none), fun _ _ _ => setSlot H j (lst vs.reverse ep)⟩
noncomputable def hLRev (j : Nat) : Handler := fun c H => bR is_list_reverse c (fun a => onL H j fun a' vs ep => some (hLRevO j H a a' vs ep))
noncomputable def hLStrO (H : List Slot) (x : Str) : HOut := ⟨[], [], [], [x.cps.toList.length < 1000000], 1, 1, 1, fun as _ _ => .ok (.ret (.ref (as.getD 0 0))), fun as ts fs => addSlot H ⟨true, as.getD 0 0, lst (sgn (fs.getD 0 frx0).τ 0 x.cps.toList) (ts.getD 0 0)⟩⟩
noncomputable def hLStr : Handler := fun c H => tS is_list c (fun x t => some (hLStrO H x))
theorem sgn_get (τ : Nat → Nat) : ∀ (cs : List Nat) (i j : Nat), (sgn τ i cs)[j]? = (cs[j]?).map fun c => .str ⟨#[c]⟩ (τ (i + j))
  | [], i, j => by simp [sgn]
  | c :: cs, i, 0 => by simp [sgn]
  | c :: cs, i, j + 1 => by
    rw [sgn, List.getElem?_cons_succ, List.getElem?_cons_succ, sgn_get τ cs (i + 1) j, show i + 1 + j = i + (j + 1) by lia]
section
variable (prog : Program) (w : World) {T : Tops}
theorem hLRev_ok (j : Nat) : HOk prog w T 0 (hLRev j) := by
  intro c H out e hi A s hA hS
  unfold hLRev at e
  refine bR_elim (P := fun c => CallsTo _ _ A c s _) e fun id a hid e1 => ?_
  refine onL_elim e1 fun a' vs ep hl e2 => ?_
  clear e e1
  cases e2
  obtain ⟨h1, h2, hh, h3⟩ := hi
  have ea : a = a' := h1 (a, a') (.head _)
  have m0 := h3 _ (.head _)
  clear h1 h2 hh h3
  rw [is_list_reverse_eq hid]
  subst ea
  have hg := lstAt_eq hl
  have ho := getSlot_obj hS hg
  refine CallsTo.of_code prog w (codeAny_meets F.slot_list_reverse (typeIs_lst ho) F.entry_list_reverse (F.args_list_reverse_1 _) (AutoListH.list_reverse_list_0 a ⟨vs⟩ ep (by show vs.length ≤ 2 ^ 24; lia)) ⟨ho, ?_⟩)
  refine ⟨[], [], [], rfl, rfl, rfl, rfl, upd_lst hS hg ?_⟩
  simp [Obj.mapSeq, lst]
theorem hLStr_ok : HOk prog w T 0 hLStr := by
  intro c H out e hi A s hA hS
  unfold hLStr at e
  refine tS_elim (P := fun c => CallsTo _ _ A c s _) e fun id x t hid e1 => ?_
  clear e
  cases e1
  obtain ⟨h1, h2, hh, h3⟩ := hi
  rw [is_list_eq hid]
  have m0 : x.cps.toList.length < 1000000 := h3 _ (.head _)
  have m1 : x.cps.size = x.cps.toList.length := by simp
  refine (CallsTo.of_call prog w (R := fun v s' => v = .ref s.heap.objs.size ∧ ∃ τ ep, Post T H s (addSlot H ⟨true, s.heap.objs.size, lst (sgn τ 0 x.cps.toList) ep⟩) s') (ls_call hA.handled (by rw [m1]; unfold sizeLine; lia) ?_)).mono prog w ?_
  · intro h' tk acc c' htk hk ho hacc
    have e1 : acc.toList = sgn (fun i => vTok (acc.toList.getD i .none)) 0 x.cps.toList := by
      refine List.ext_getElem? fun i => ?_
      rw [sgn_get]
      cases hx : x.cps.toList[i]? with
      | none =>
        have : acc.toList.length ≤ i := by
          rw [List.getElem?_eq_none_iff] at hx
          have := hacc.1
          simp at this hx ⊢; lia
        rw [List.getElem?_eq_none_iff.mpr this]; rfl
      | some c =>
        have hi : i < acc.toList.length := by
          have := (List.getElem?_eq_some_iff.mp hx).1
          have h2 := hacc.1
          simp at this ⊢; lia
        obtain ⟨v, hv⟩ : ∃ v, acc.toList[i]? = some v := ⟨_, List.getElem?_eq_getElem hi⟩
        obtain ⟨c2, u, hc2, rfl⟩ := hacc.2 i v (by rw [← Array.getElem?_toList]; exact hv)
        have : c2 = c := by
          rw [← Array.getElem?_toList, hx] at hc2
          exact (Option.some.inj hc2).symm
        subst this
        rw [hv]
        simp only [Option.map_some, Nat.zero_add]
        rw [List.getD_eq_getElem?_getD, hv]; rfl
    refine ⟨rfl, fun i => vTok (acc.toList.getD i .none), c', ?_⟩
    have sz : s.heap.objs.size < h'.objs.size := Heap.lt_size ho
    have p0 : Post T H s H { s with heap := h', toks := tk } :=
      ⟨⟨fun a o h => hk a o (hS.top a o h), hS.gens, Nat.lt_of_lt_of_le hS.toks htk, fun y hy => hk _ _ (hS.has y hy), hS.apart, hS.wr⟩, ⟨Nat.le_of_lt sz, fun a o h _ => hk a o h, rfl, rfl, htk⟩, Grow.refl H s⟩
    refine p0.liftN hS ?_ (Nat.le_refl _) (fun y hy => Heap.lt_size (hS.has y hy))
    show h'.get? _ = _
    rw [ho]
    unfold lst
    rw [← e1]
  · rintro r s' ⟨v, rfl, rfl, τ, ep, hp⟩
    exact ⟨[_], [ep], [⟨zeroI, τ, [], []⟩], rfl, rfl, rfl, rfl, hp⟩
end
end Mine
namespace Mine
open PySem PySem.W PySem.W.X PyProof.Rows
noncomputable def lxEnv (P : Params) (L C : Nat) : Env := envOfC 109 (fdOf (to109 P)) L [(s_signs, C)]
section
variable (prog : Program) (P : Params) (b1 b2 : Bool)
variable {I D F L : Nat} {κ : Nat → Int} {τ : Nat → Nat} {Φ : Result → List Slot → Prop}
noncomputable def ini_p_h : List Hint := [.slot 2, .slot 2, .slot 2, .slot 2]
theorem ini_p (O : Orc) (I D F : Nat) : Seg (run (eE prog P b1 b2 O) 15 ini_p_h (.root (preZ 74 (fdOf (to74 P)) ⟨[.ref I, .ref F], []⟩)) ⟨[wS D ⟨.type "dict", none, .dict ⟨[]⟩ 0, #[]⟩, wS I ⟨.ref 98, some D, .plain, #[]⟩], 0, 0, 0⟩)
    [] (.pure (envOf 74 (fdOf (to74 P)) (O.addr 0))) [wS D (dct zeroI zeroN []), wS I ⟨.ref 98, some D, .plain, #[]⟩, wS (O.addr 0) (frm (ext zeroI 0 [hz prog (mkP P b1 b2) s_self, hz prog (mkP P b1 b2) s_fp]) (ext zeroN 0 [O.tok 0, O.tok 1]) [(s_self, .ref I), (s_fp, .ref F)])] := sg5 (by kernel_rfl)
noncomputable def ini_f_h : List Hint := [.slot 2, .slot 1, .top, .top, .top, .call, .slot 1, .top, .slot 1, .top, .slot 1, .top, .top, .top, .slot 1, .top, .slot 0, .slot 0, .slot 0, .slot 2, .slot 2, .slot 1, .top, .top, .top, .call, .slot 1, .top, .slot 1, .top, .slot 1, .top, .top, .top, .slot 1, .top, .slot 0, .slot 0, .slot 0, .slot 2, .slot 1, .top, .top, .top, .call, .slot 1, .top, .slot 1, .top, .slot 1, .top, .top, .top, .slot 1, .top, .slot 0, .slot 0, .slot 0, .slot 2, .slot 1, .top, .top, .top, .call, .slot 1, .top, .slot 1, .top, .slot 1, .top, .top, .top, .slot 1, .top, .slot 0, .slot 0, .slot 0]
theorem ini_f (O : Orc) : Seg (run (eE prog P b1 b2 O) 123 ini_f_h (.root (denoteZ (.func (fnB (ct 0)) (envOf 74 (fdOf (to74 P)) L)))) ⟨[wS D ⟨.type "dict", none, .dict ⟨[]⟩ 0, #[]⟩, wS I ⟨.ref 98, some D, .plain, #[]⟩, wS L (frm κ τ [(s_self, .ref I), (s_fp, .ref F)])], 0, 0, 0⟩)
    [] (.pure (.done (.ret (.none)))) [wS D (dct (ext zeroI 0 [hz prog (mkP P b1 b2) s_lineno, hz prog (mkP P b1 b2) s_instream, hz prog (mkP P b1 b2) s_whitespace, hz prog (mkP P b1 b2) s_pushback]) (ext zeroN 0 [O.tok 2, O.tok 4, O.tok 7, O.tok 9]) [(s_lineno, .int ((1 : Int)) (O.tok 0)), (s_instream, .ref F), (s_whitespace, .str sx9 (O.tok 5)), (s_pushback, .ref (O.addr 0))]), wS I ⟨.ref 98, some D, .plain, #[]⟩, wS L (frm κ τ [(s_self, .ref I), (s_fp, .ref F)]), wS (O.addr 0) (lst [] 0)] := sg5 (by kernel_rfl)
end
section
variable (prog : Program) (d : Source → Nat → Nat) (P : Params) (b1 b2 : Bool) {T : Tops} (hT : ∀ a o, (topT P).get a = some o → T a o) {lv : Nat}
include hT
variable {I D F L : Nat} {κ : Nat → Int} {τ : Nat → Nat} {Φ : Result → List Slot → Prop}
theorem ini_p_ok (hl : 0 ≤ lv) : HsOk prog (wd d P b1 b2) T lv ini_p_h := trivial
theorem ini_p_x (hl : 0 ≤ lv) (hn : ∀ O : Orc, Tri prog (wd d P b1 b2) (lv + 1) T (.func (fnB (ct 0)) (envOf 74 (fdOf (to74 P)) (O.addr 0))) [wS D (dct zeroI zeroN []), wS I ⟨.ref 98, some D, .plain, #[]⟩, wS (O.addr 0) (frm (ext zeroI 0 [hz prog (mkP P b1 b2) s_self, hz prog (mkP P b1 b2) s_fp]) (ext zeroN 0 [O.tok 0, O.tok 1]) [(s_self, .ref I), (s_fp, .ref F)])] Φ) : Tri prog (wd d P b1 b2) (lv + 1) T (.call (.ref 74) ⟨[.ref I, .ref F], []⟩) [wS D ⟨.type "dict", none, .dict ⟨[]⟩ 0, #[]⟩, wS I ⟨.ref 98, some D, .plain, #[]⟩] Φ :=
  tri_def hT (lv := lv) (hT 74 (to74 P) rfl) rfl rfl rfl rfl rfl (hT 73 (to73 P) rfl) rfl rfl (hT 2 (to2 P) rfl) rfl (ini_p_ok prog d P b1 b2 hT hl) (fun O => ini_p prog P b1 b2 O I D F) (fun O => mem0) hn
theorem ini_f_ok (hl : 1 ≤ lv) : HsOk prog (wd d P b1 b2) T lv ini_f_h := trivial
end
noncomputable def iniNv (t1 F tw Pb : Nat) : List (Str × Value) := [(s_lineno, .int 1 t1), (s_instream, .ref F), (s_whitespace, .str sx9 tw), (s_pushback, .ref Pb)]
noncomputable def instO (D : Nat) : Obj := ⟨.ref 98, some D, .plain, #[]⟩
noncomputable def dct0 : Obj := ⟨.type "dict", none, .dict ⟨[]⟩ 0, #[]⟩
section
variable (prog : Program) (d : Source → Nat → Nat) (P : Params) (b1 b2 : Bool) {T : Tops} (hT : ∀ a o, (topT P).get a = some o → T a o)
include hT
theorem ini_call {I D F : Nat} : Tri prog (wd d P b1 b2) 2 T (.call (.ref 74) ⟨[.ref I, .ref F], []⟩) [⟨true, D, dct0⟩, ⟨true, I, instO D⟩]
    (fun r H' => r = .ok (.ret .none) ∧ ∃ κ τ t1 tw Pb L, H' = [⟨true, D, dct κ τ (iniNv t1 F tw Pb)⟩, ⟨true, I, instO D⟩, L, ⟨true, Pb, lst [] 0⟩] ∧ L.w = true) := by
  refine ini_p_x prog d P b1 b2 hT (lv := 1) (by lia) fun O => ?_
  exact jaD (lv := 1) hT (ini_f prog P b1 b2) (ini_f_ok prog d P b1 b2 hT (by decide)) k0 fun O' => ⟨rfl, _, _, _, _, _, _, rfl, rfl⟩
end
noncomputable def hIniO (j : Nat) (H : List Slot) (f : Nat) (i : Nat) (g : Nat) : HOut := ⟨[(f, 74), (i, slA H (j + 1))], [], [(takeS 2 (dropS j H), [⟨true, slA H j, dct0⟩, ⟨true, slA H (j + 1), instO (slA H j)⟩])], [], 1, 2, 1, fun _ _ _ => .ok (.ret .none),
      fun as ts fs => appS (takeS j H) (appS [⟨true, slA H j, dct (fs.getD 0 frx0).κ (fs.getD 0 frx0).τ (iniNv (ts.getD 0 0) g (ts.getD 1 0) (as.getD 0 0))⟩, ⟨true, slA H (j + 1), instO (slA H j)⟩] (appS (dropS 2 (dropS j H)) [⟨true, as.getD 0 0, lst [] 0⟩]))⟩
noncomputable def hIni (j : Nat) : Handler := fun c H => rRR c (fun f i g => some (hIniO j H f i g))
section
variable (prog : Program) (d : Source → Nat → Nat) (P : Params) (b1 b2 : Bool) {T : Tops} (hT : ∀ a o, (topT P).get a = some o → T a o)
include hT
theorem hIni_ok (j : Nat) : HOk prog (wd d P b1 b2) T 2 (hIni j) := by
  intro c H out e hi A s hA hS
  unfold hIni at e
  refine rRR_elim (P := fun c => CallsTo _ _ A c s _) e fun f i g e1 => ?_
  clear e
  cases e1
  obtain ⟨h1, h2, hh, h3⟩ := hi
  unfold hIniO at h1 h2 hh h3 ⊢
  have e1 : f = 74 := h1 (f, 74) (.head _)
  have e2 : i = slA H (j + 1) := h1 (i, _) (.tail _ (.head _))
  have eh := hh _ (.head _)
  dsimp only at eh
  clear h1 h2 hh h3
  subst e1 e2
  have split : H = takeS j H ++ (takeS 2 (dropS j H) ++ dropS 2 (dropS j H)) := by
    rw [takeS_eq, takeS_eq, dropS_eq, dropS_eq, List.take_append_drop, List.take_append_drop]
  generalize slA H j = D at eh ⊢
  generalize slA H (j + 1) = I at eh ⊢
  generalize dropS 2 (dropS j H) = post at split ⊢
  generalize takeS j H = pre at split ⊢
  rw [eh] at split
  subst split
  have pm : (pre ++ (([⟨true, D, dct0⟩, ⟨true, I, instO D⟩] : List Slot) ++ post)).Perm (([⟨true, D, dct0⟩, ⟨true, I, instO D⟩] : List Slot) ++ (pre ++ post)) := by
    rw [← List.append_assoc, ← List.append_assoc]
    exact List.Perm.append_right post List.perm_append_comm
  have hS2 := hS.perm pm
  refine CallsTo.of_code _ _ (codeAny_mono (ini_call prog d P b1 b2 hT (D := D) _ s hA.mk' (hS2.part (List.sublist_append_left _ _))) ?_)
  rintro r s' ⟨H', ⟨rfl, κ, τ, t1, tw, Pb, L, rfl, hL⟩, hp⟩
  refine ⟨[Pb], [t1, tw], [⟨κ, τ, [], []⟩], rfl, rfl, rfl, rfl, ?_⟩
  have q := hp.frame hS2 (by
    intro x hx hw
    simp only [List.mem_cons, List.not_mem_nil, or_false] at hx
    rcases hx with rfl | rfl | rfl | rfl
    · cases hw
    · cases hw
    · rw [hL] at hw; cases hw
    · cases hw)
  have q2 := q.perm pm.symm (H3 := (pre ++ ([⟨true, D, dct κ τ (iniNv t1 g tw Pb)⟩, ⟨true, I, instO D⟩] ++ (post ++ [⟨true, Pb, lst [] 0⟩]))) ++ [L]) (by
    classical
    refine List.perm_iff_count.mpr fun x => ?_
    simp only [List.cons_append, List.nil_append, List.count_append, List.count_cons, List.count_nil]; lia)
  have q3 := q2.drop (List.sublist_append_left _ _)
  show Post T _ s (appS pre (appS _ (appS post _))) s'
  rw [appS_eq, appS_eq, appS_eq]
  exact q3
end
section
variable (prog : Program) (P : Params) (b1 b2 : Bool)
variable {L C tt : Nat} {κ : Nat → Int} {τ : Nat → Nat} {tx : Str} {Φ : Result → List Slot → Prop}
noncomputable def lx_p_h : List Hint := [.slot 1, .slot 1]
theorem lx_p (O : Orc) (tx : Str) (tt : Nat) : Seg (run (eE prog P b1 b2 O) 12 lx_p_h (.root (preZ 109 (fdOf (to109 P)) ⟨[.str tx tt], []⟩)) ⟨[wS 104 ⟨.none, none, .fields ⟨[]⟩, #[]⟩], 0, 0, 0⟩)
    [] (.pure (lxEnv P (O.addr 0) (O.addr 1))) [wS 104 ⟨.none, none, .fields ⟨[]⟩, #[]⟩, wS (O.addr 0) (frm (ext zeroI 0 [hz prog (mkP P b1 b2) s_text]) (ext zeroN 0 [O.tok 0]) [(s_text, .str tx (tt))]), wS (O.addr 1) ⟨.type "cell", none, .cell none, #[]⟩] := sg5 (by kernel_rfl)
noncomputable def lx_a_h : List Hint := [.top, .top, .slot 0, .sum (hLStr), .slot 1, .slot 1, .slot 1, .slot 3, .slot 3, .slot 3, .slot 3, .sum (hLRev 3), .top, .slot 2, .slot 2, .slot 2, .slot 2, .top, .top, .top, .slot 0, .slot 0, .top, .slot 2, .slot 2, .slot 2, .slot 2, .top, .top, .top, .slot 0, .slot 10, .call, .slot 10, .slot 10, .slot 10, .slot 10, .slot 10, .slot 19, .slot 19, .slot 19, .top, .slot 0, .top, .top, .call, .top, .top, .top, .top, .top, .top, .call, .top, .top, .top, .top, .top, .top, .top, .top, .top, .top, .top, .top, .top, .top, .top, .top, .top, .top, .top, .top, .slot 21, .top, .slot 21, .top, .top, .top, .top, .sum (hIni 20)]
theorem lx_a (O : Orc) : Seg (run (eE prog P b1 b2 O) 157 lx_a_h (.root (denoteZ (.func (fnB (st 11)) (lxEnv P L C)))) ⟨[wS L (frm κ τ [(s_text, .str tx tt)]), wS C ⟨.type "cell", none, .cell none, #[]⟩, wS 104 ⟨.none, none, .fields ⟨[]⟩, #[]⟩], 0, 0, 0⟩)
    [tx.cps.toList.length < 1000000, (sgn (O.fr 0).τ 0 tx.cps.toList).length < 1000000] (.pure (.done (.ret (.ref (O.addr 18))))) (finH (run (eE prog P b1 b2 O) 157 lx_a_h (.root (denoteZ (.func (fnB (st 11)) (lxEnv P L C)))) ⟨[wS L (frm κ τ [(s_text, .str tx tt)]), wS C ⟨.type "cell", none, .cell none, #[]⟩, wS 104 ⟨.none, none, .fields ⟨[]⟩, #[]⟩], 0, 0, 0⟩)) := sg5 (by kernel_rfl)
end
section
variable (prog : Program) (d : Source → Nat → Nat) (P : Params) (b1 b2 : Bool) {T : Tops} (hT : ∀ a o, (topT P).get a = some o → T a o) {lv : Nat}
include hT
variable {L C tt : Nat} {κ : Nat → Int} {τ : Nat → Nat} {tx : Str} {Φ : Result → List Slot → Prop}
theorem lx_p_ok (hl : 0 ≤ lv) : HsOk prog (wd d P b1 b2) T lv lx_p_h := trivial
theorem lx_p_x (hl : 0 ≤ lv) (hn : ∀ O : Orc, Tri prog (wd d P b1 b2) (lv + 1) T (.func (fnB (st 11)) (lxEnv P (O.addr 0) (O.addr 1))) [wS 104 ⟨.none, none, .fields ⟨[]⟩, #[]⟩, wS (O.addr 0) (frm (ext zeroI 0 [hz prog (mkP P b1 b2) s_text]) (ext zeroN 0 [O.tok 0]) [(s_text, .str tx (tt))]), wS (O.addr 1) ⟨.type "cell", none, .cell none, #[]⟩] Φ) : Tri prog (wd d P b1 b2) (lv + 1) T (.call (.ref 109) ⟨[.str tx tt], []⟩) [wS 104 ⟨.none, none, .fields ⟨[]⟩, #[]⟩] Φ :=
  tri_def hT (lv := lv) (hT 109 (to109 P) rfl) rfl rfl rfl rfl rfl (hT 108 (to108 P) rfl) rfl rfl (hT 2 (to2 P) rfl) rfl (lx_p_ok prog d P b1 b2 hT hl) (fun O => lx_p prog P b1 b2 O tx tt) (fun O => mem0) hn
theorem lx_a_ok (hl : 2 ≤ lv) : HsOk prog (wd d P b1 b2) T lv lx_a_h := ⟨(hLStr_ok _ _).mono _ _ _ (lw hl), (hLRev_ok _ _ _).mono _ _ _ (lw hl), (hIni_ok prog d P b1 b2 hT _).mono _ _ _ (lw hl), trivial⟩
end
noncomputable def pickS (H : List Slot) : List (Nat × Bool) → List Slot
  | [] => []
  | (j, w) :: r => match getSlot H j with
    | some s => ⟨w, s.a, s.o⟩ :: pickS H r
    | none => pickS H r
theorem pickS_mem {H : List Slot} {y : Slot} : ∀ {js : List (Nat × Bool)}, y ∈ pickS H js → ∃ j w s, (j, w) ∈ js ∧ getSlot H j = some s ∧ y = ⟨w, s.a, s.o⟩
  | [], h => by cases h
  | (j, w) :: r, h => by
    unfold pickS at h
    split at h
    · rename_i s e
      rcases List.mem_cons.mp h with rfl | h
      · exact ⟨j, w, s, .head _, e, rfl⟩
      · obtain ⟨j', w', s', hm, e', q⟩ := pickS_mem h
        exact ⟨j', w', s', .tail _ hm, e', q⟩
    · obtain ⟨j', w', s', hm, e', q⟩ := pickS_mem h
      exact ⟨j', w', s', .tail _ hm, e', q⟩
theorem getSlot_apart : ∀ {H : List Slot} {i j : Nat} {a b : Slot}, Apart H → i ≠ j → getSlot H i = some a → getSlot H j = some b → (a.w = true ∨ b.w = true) → a.a ≠ b.a
  | [], _, _, _, _, _, _, h, _, _ => by cases h
  | s :: r, 0, 0, _, _, _, hne, _, _, _ => absurd rfl hne
  | s :: r, 0, j + 1, a, b, hap, _, h1, h2, hw => by
    have e : s = a := Option.some.inj h1
    subst e
    exact (List.pairwise_cons.mp hap).1 b (getSlot_mem h2) hw
  | s :: r, i + 1, 0, a, b, hap, _, h1, h2, hw => by
    have e : s = b := Option.some.inj h2
    subst e
    exact Ne.symm ((List.pairwise_cons.mp hap).1 a (getSlot_mem h1) hw.symm)
  | s :: r, i + 1, j + 1, a, b, hap, hne, h1, h2, hw => getSlot_apart (List.pairwise_cons.mp hap).2 (fun e => hne (by lia)) h1 h2 hw
theorem Post.pick {T : Tops} {H H' : List Slot} {s s' : Shared} (h : Post T H s H' s') (hw : ∀ x ∈ H', x.w = true) {js : List (Nat × Bool)} (hn : (js.map (·.1)).Nodup) : Post T H s (pickS H' js) s' := by
  have hap : ∀ js : List (Nat × Bool), (js.map (·.1)).Nodup → Apart (pickS H' js) := by
    intro js
    induction js with
    | nil => intro _; exact .nil
    | cons p r ih =>
      obtain ⟨j, w⟩ := p
      intro hn
      rw [List.map_cons, List.nodup_cons] at hn
      unfold pickS
      split
      · rename_i sl e
        refine List.pairwise_cons.mpr ⟨fun y hy _ => ?_, ih hn.2⟩
        obtain ⟨j', w', s2, hm, e', rfl⟩ := pickS_mem hy
        refine getSlot_apart (a := sl) (b := s2) h.sat.apart (fun ej => hn.1 ?_) e e' (.inl (hw sl (getSlot_mem e)))
        rw [ej]
        exact List.mem_map_of_mem (f := (·.1)) hm
      · exact ih hn.2
  refine ⟨⟨h.sat.top, h.sat.gens, h.sat.toks, fun y hy => ?_, hap js hn, fun y hy _ => ?_⟩, h.keep, fun y hy _ => ?_⟩
  · obtain ⟨j', w', s', hm, e', rfl⟩ := pickS_mem hy
    exact h.sat.has s' (getSlot_mem e')
  · obtain ⟨j', w', s', hm, e', rfl⟩ := pickS_mem hy
    exact h.sat.wr s' (getSlot_mem e') (hw _ (getSlot_mem e'))
  · obtain ⟨j', w', s', hm, e', rfl⟩ := pickS_mem hy
    exact h.grow s' (getSlot_mem e') (hw _ (getSlot_mem e'))
theorem Tri.pick {prog : Program} {w : World} {T : Tops} {lv : Nat} {H : List Slot} {c : Code} {Φ : Result → List Slot → Prop} {js : List (Nat × Bool)} (hn : (js.map (·.1)).Nodup) (h : Tri prog w lv T c H (fun r H' => (∀ x ∈ H', x.w = true) ∧ Φ r (pickS H' js))) : Tri prog w lv T c H Φ := fun A s hA hS =>
  codeAny_mono (h A s hA hS) fun r s' ⟨H', ⟨hw, p⟩, q⟩ => ⟨_, p, q.pick hw hn⟩
/-- the table of code that grew -/
noncomputable def tbS (m : Array Value) : Slot := ⟨true, 104, ⟨.none, none, .fields m, #[]⟩⟩
noncomputable def isTb : Obj → Bool
  | ⟨.none, none, .fields _, ⟨[]⟩⟩ => true
  | _ => false
theorem isTb_eq {o : Obj} (h : isTb o = true) : ∃ m, o = ⟨.none, none, .fields m, #[]⟩ := by
  unfold isTb at h
  split at h
  · exact ⟨_, rfl⟩
  · cases h
noncomputable def isTbS : Option Slot → Bool
  | some s => Nat.beq s.a 104 && isTb s.o
  | none => false
theorem isTbS_pick {H : List Slot} {j : Nat} (h : isTbS (getSlot H j) = true) (js : List (Nat × Bool)) : ∃ m, pickS H ((j, true) :: js) = tbS m :: pickS H js := by
  unfold isTbS at h
  split at h
  · rename_i s e
    obtain ⟨h1, h2⟩ := Bool.and_eq_true_iff.mp h
    obtain ⟨m, em⟩ := isTb_eq h2
    refine ⟨m, ?_⟩
    simp only [pickS, e]
    rw [em, Nat.eq_of_beq_eq_true h1]
    rfl
  · cases h
noncomputable def lxIdx : List (Nat × Bool) := [(21, false), (20, true), (22, true), (10, false), (19, false), (18, false), (17, false), (1, false), (3, true)]
noncomputable def oArr (o : Obj) : Array Value := match o.data with
  | .fields a => a
  | _ => #[]
theorem lx_w_false (prog : Program) (P : Params) (b1 : Bool) (O : Orc) (L C : Nat) (κ : Nat → Int) (τ : Nat → Nat) (tx : Str) (tt : Nat) : allW (finH (run (α := Fin) ⟨prog, mkP P b1 false, topT P, O⟩ 157 lx_a_h (.root (denoteZ (.func (fnB (st 11)) (lxEnv P L C)))) ⟨[⟨true, L, frm κ τ [(s_text, .str tx tt)]⟩, ⟨true, C, ⟨.type "cell", none, .cell none, #[]⟩⟩, ⟨true, 104, ⟨.none, none, .fields ⟨[]⟩, #[]⟩⟩], 0, 0, 0⟩)) = true := by kernel_rfl
theorem lx_k_false (prog : Program) (P : Params) (b1 : Bool) (O : Orc) (L C : Nat) (κ : Nat → Int) (τ : Nat → Nat) (tx : Str) (tt : Nat) : isTbS (getSlot (finH (run (α := Fin) ⟨prog, mkP P b1 false, topT P, O⟩ 157 lx_a_h (.root (denoteZ (.func (fnB (st 11)) (lxEnv P L C)))) ⟨[⟨true, L, frm κ τ [(s_text, .str tx tt)]⟩, ⟨true, C, ⟨.type "cell", none, .cell none, #[]⟩⟩, ⟨true, 104, ⟨.none, none, .fields ⟨[]⟩, #[]⟩⟩], 0, 0, 0⟩)) 2) = true := by kernel_rfl
theorem lx_i_false (prog : Program) (P : Params) (b1 : Bool) (O : Orc) (L C : Nat) (κ : Nat → Int) (τ : Nat → Nat) (tx : Str) (tt : Nat) : (lxOf (pickS (finH (run (α := Fin) ⟨prog, mkP P b1 false, topT P, O⟩ 157 lx_a_h (.root (denoteZ (.func (fnB (st 11)) (lxEnv P L C)))) ⟨[⟨true, L, frm κ τ [(s_text, .str tx tt)]⟩, ⟨true, C, ⟨.type "cell", none, .cell none, #[]⟩⟩, ⟨true, 104, ⟨.none, none, .fields ⟨[]⟩, #[]⟩⟩], 0, 0, 0⟩)) lxIdx) 0).I = O.addr 18 := by kernel_rfl
theorem lx_d_false (prog : Program) (P : Params) (b1 : Bool) (O : Orc) (L C : Nat) (κ : Nat → Int) (τ : Nat → Nat) (tx : Str) (tt : Nat) : (lxOf (pickS (finH (run (α := Fin) ⟨prog, mkP P b1 false, topT P, O⟩ 157 lx_a_h (.root (denoteZ (.func (fnB (st 11)) (lxEnv P L C)))) ⟨[⟨true, L, frm κ τ [(s_text, .str tx tt)]⟩, ⟨true, C, ⟨.type "cell", none, .cell none, #[]⟩⟩, ⟨true, 104, ⟨.none, none, .fields ⟨[]⟩, #[]⟩⟩], 0, 0, 0⟩)) lxIdx) 0).oc.data = .fields (oArr (lxOf (pickS (finH (run (α := Fin) ⟨prog, mkP P b1 false, topT P, O⟩ 157 lx_a_h (.root (denoteZ (.func (fnB (st 11)) (lxEnv P L C)))) ⟨[⟨true, L, frm κ τ [(s_text, .str tx tt)]⟩, ⟨true, C, ⟨.type "cell", none, .cell none, #[]⟩⟩, ⟨true, 104, ⟨.none, none, .fields ⟨[]⟩, #[]⟩⟩], 0, 0, 0⟩)) lxIdx) 0).oc) := by kernel_rfl
theorem lx_q_false (prog : Program) (P : Params) (b1 : Bool) (O : Orc) (L C : Nat) (κ : Nat → Int) (τ : Nat → Nat) (tx : Str) (tt : Nat) : (oArr (lxOf (pickS (finH (run (α := Fin) ⟨prog, mkP P b1 false, topT P, O⟩ 157 lx_a_h (.root (denoteZ (.func (fnB (st 11)) (lxEnv P L C)))) ⟨[⟨true, L, frm κ τ [(s_text, .str tx tt)]⟩, ⟨true, C, ⟨.type "cell", none, .cell none, #[]⟩⟩, ⟨true, 104, ⟨.none, none, .fields ⟨[]⟩, #[]⟩⟩], 0, 0, 0⟩)) lxIdx) 0).oc)[1]? = some (.str (lamFd (lxOf (pickS (finH (run (α := Fin) ⟨prog, mkP P b1 false, topT P, O⟩ 157 lx_a_h (.root (denoteZ (.func (fnB (st 11)) (lxEnv P L C)))) ⟨[⟨true, L, frm κ τ [(s_text, .str tx tt)]⟩, ⟨true, C, ⟨.type "cell", none, .cell none, #[]⟩⟩, ⟨true, 104, ⟨.none, none, .fields ⟨[]⟩, #[]⟩⟩], 0, 0, 0⟩)) lxIdx) 0)).qualname (O.tok 8)) := by kernel_rfl
theorem lx_s_false (prog : Program) (P : Params) (b1 : Bool) (O : Orc) (L C : Nat) (κ : Nat → Int) (τ : Nat → Nat) (tx : Str) (tt : Nat) : pickS (finH (run (α := Fin) ⟨prog, mkP P b1 false, topT P, O⟩ 157 lx_a_h (.root (denoteZ (.func (fnB (st 11)) (lxEnv P L C)))) ⟨[⟨true, L, frm κ τ [(s_text, .str tx tt)]⟩, ⟨true, C, ⟨.type "cell", none, .cell none, #[]⟩⟩, ⟨true, 104, ⟨.none, none, .fields ⟨[]⟩, #[]⟩⟩], 0, 0, 0⟩)) lxIdx = lexS (lxOf (pickS (finH (run (α := Fin) ⟨prog, mkP P b1 false, topT P, O⟩ 157 lx_a_h (.root (denoteZ (.func (fnB (st 11)) (lxEnv P L C)))) ⟨[⟨true, L, frm κ τ [(s_text, .str tx tt)]⟩, ⟨true, C, ⟨.type "cell", none, .cell none, #[]⟩⟩, ⟨true, 104, ⟨.none, none, .fields ⟨[]⟩, #[]⟩⟩], 0, 0, 0⟩)) lxIdx) 0) 1 (O.tok 16) [] 0 (sgn (O.fr 0).τ 0 tx.cps.toList).reverse (O.tok 0) := by kernel_rfl
theorem lx_w_true (prog : Program) (P : Params) (b1 : Bool) (O : Orc) (L C : Nat) (κ : Nat → Int) (τ : Nat → Nat) (tx : Str) (tt : Nat) : allW (finH (run (α := Fin) ⟨prog, mkP P b1 true, topT P, O⟩ 157 lx_a_h (.root (denoteZ (.func (fnB (st 11)) (lxEnv P L C)))) ⟨[⟨true, L, frm κ τ [(s_text, .str tx tt)]⟩, ⟨true, C, ⟨.type "cell", none, .cell none, #[]⟩⟩, ⟨true, 104, ⟨.none, none, .fields ⟨[]⟩, #[]⟩⟩], 0, 0, 0⟩)) = true := by kernel_rfl
theorem lx_k_true (prog : Program) (P : Params) (b1 : Bool) (O : Orc) (L C : Nat) (κ : Nat → Int) (τ : Nat → Nat) (tx : Str) (tt : Nat) : isTbS (getSlot (finH (run (α := Fin) ⟨prog, mkP P b1 true, topT P, O⟩ 157 lx_a_h (.root (denoteZ (.func (fnB (st 11)) (lxEnv P L C)))) ⟨[⟨true, L, frm κ τ [(s_text, .str tx tt)]⟩, ⟨true, C, ⟨.type "cell", none, .cell none, #[]⟩⟩, ⟨true, 104, ⟨.none, none, .fields ⟨[]⟩, #[]⟩⟩], 0, 0, 0⟩)) 2) = true := by kernel_rfl
theorem lx_i_true (prog : Program) (P : Params) (b1 : Bool) (O : Orc) (L C : Nat) (κ : Nat → Int) (τ : Nat → Nat) (tx : Str) (tt : Nat) : (lxOf (pickS (finH (run (α := Fin) ⟨prog, mkP P b1 true, topT P, O⟩ 157 lx_a_h (.root (denoteZ (.func (fnB (st 11)) (lxEnv P L C)))) ⟨[⟨true, L, frm κ τ [(s_text, .str tx tt)]⟩, ⟨true, C, ⟨.type "cell", none, .cell none, #[]⟩⟩, ⟨true, 104, ⟨.none, none, .fields ⟨[]⟩, #[]⟩⟩], 0, 0, 0⟩)) lxIdx) 0).I = O.addr 18 := by kernel_rfl
theorem lx_d_true (prog : Program) (P : Params) (b1 : Bool) (O : Orc) (L C : Nat) (κ : Nat → Int) (τ : Nat → Nat) (tx : Str) (tt : Nat) : (lxOf (pickS (finH (run (α := Fin) ⟨prog, mkP P b1 true, topT P, O⟩ 157 lx_a_h (.root (denoteZ (.func (fnB (st 11)) (lxEnv P L C)))) ⟨[⟨true, L, frm κ τ [(s_text, .str tx tt)]⟩, ⟨true, C, ⟨.type "cell", none, .cell none, #[]⟩⟩, ⟨true, 104, ⟨.none, none, .fields ⟨[]⟩, #[]⟩⟩], 0, 0, 0⟩)) lxIdx) 0).oc.data = .fields (oArr (lxOf (pickS (finH (run (α := Fin) ⟨prog, mkP P b1 true, topT P, O⟩ 157 lx_a_h (.root (denoteZ (.func (fnB (st 11)) (lxEnv P L C)))) ⟨[⟨true, L, frm κ τ [(s_text, .str tx tt)]⟩, ⟨true, C, ⟨.type "cell", none, .cell none, #[]⟩⟩, ⟨true, 104, ⟨.none, none, .fields ⟨[]⟩, #[]⟩⟩], 0, 0, 0⟩)) lxIdx) 0).oc) := by kernel_rfl
theorem lx_q_true (prog : Program) (P : Params) (b1 : Bool) (O : Orc) (L C : Nat) (κ : Nat → Int) (τ : Nat → Nat) (tx : Str) (tt : Nat) : (oArr (lxOf (pickS (finH (run (α := Fin) ⟨prog, mkP P b1 true, topT P, O⟩ 157 lx_a_h (.root (denoteZ (.func (fnB (st 11)) (lxEnv P L C)))) ⟨[⟨true, L, frm κ τ [(s_text, .str tx tt)]⟩, ⟨true, C, ⟨.type "cell", none, .cell none, #[]⟩⟩, ⟨true, 104, ⟨.none, none, .fields ⟨[]⟩, #[]⟩⟩], 0, 0, 0⟩)) lxIdx) 0).oc)[1]? = some (.str (lamFd (lxOf (pickS (finH (run (α := Fin) ⟨prog, mkP P b1 true, topT P, O⟩ 157 lx_a_h (.root (denoteZ (.func (fnB (st 11)) (lxEnv P L C)))) ⟨[⟨true, L, frm κ τ [(s_text, .str tx tt)]⟩, ⟨true, C, ⟨.type "cell", none, .cell none, #[]⟩⟩, ⟨true, 104, ⟨.none, none, .fields ⟨[]⟩, #[]⟩⟩], 0, 0, 0⟩)) lxIdx) 0)).qualname (O.tok 8)) := by kernel_rfl
theorem lx_s_true (prog : Program) (P : Params) (b1 : Bool) (O : Orc) (L C : Nat) (κ : Nat → Int) (τ : Nat → Nat) (tx : Str) (tt : Nat) : pickS (finH (run (α := Fin) ⟨prog, mkP P b1 true, topT P, O⟩ 157 lx_a_h (.root (denoteZ (.func (fnB (st 11)) (lxEnv P L C)))) ⟨[⟨true, L, frm κ τ [(s_text, .str tx tt)]⟩, ⟨true, C, ⟨.type "cell", none, .cell none, #[]⟩⟩, ⟨true, 104, ⟨.none, none, .fields ⟨[]⟩, #[]⟩⟩], 0, 0, 0⟩)) lxIdx = lexS (lxOf (pickS (finH (run (α := Fin) ⟨prog, mkP P b1 true, topT P, O⟩ 157 lx_a_h (.root (denoteZ (.func (fnB (st 11)) (lxEnv P L C)))) ⟨[⟨true, L, frm κ τ [(s_text, .str tx tt)]⟩, ⟨true, C, ⟨.type "cell", none, .cell none, #[]⟩⟩, ⟨true, 104, ⟨.none, none, .fields ⟨[]⟩, #[]⟩⟩], 0, 0, 0⟩)) lxIdx) 0) 1 (O.tok 16) [] 0 (sgn (O.fr 0).τ 0 tx.cps.toList).reverse (O.tok 0) := by kernel_rfl
noncomputable def upS : List Slot → List Slot
  | [] => []
  | s :: r => ⟨true, s.a, s.o⟩ :: upS r
noncomputable def upI : List (Nat × Bool) → List (Nat × Bool)
  | [] => []
  | (j, _) :: r => (j, true) :: upI r
theorem pickS_up (H : List Slot) : ∀ js, pickS H (upI js) = upS (pickS H js)
  | [] => rfl
  | (j, w) :: r => by
    unfold upI pickS
    split
    · rw [pickS_up H r]; rfl
    · exact pickS_up H r
section
variable (prog : Program) (d : Source → Nat → Nat) (P : Params) (b1 b2 : Bool) {T : Tops} (hT : ∀ a o, (topT P).get a = some o → T a o)
include hT
theorem lx_call {tx : Str} {tt : Nat} (hl : tx.cps.toList.length < 100000) :
    Tri prog (wd d P b1 b2) 3 T (.call (.ref 109) ⟨[.str tx tt], []⟩) [⟨true, 104, ⟨.none, none, .fields ⟨[]⟩, #[]⟩⟩]
      (fun r H' => ∃ X tl es τ m, X.ok ∧ r = .ok (.ret (.ref X.I)) ∧ H' = tbS m :: upS (lexS X 1 tl [] 0 (sgn τ 0 tx.cps.toList).reverse es)) := by
  have sl : ∀ (τ : Nat → Nat) (cs : List Nat) (i : Nat), (sgn τ i cs).length = cs.length := by
    intro τ cs
    induction cs with
    | nil => intro i; rfl
    | cons c cs ih => intro i; simp [sgn, ih]
  refine lx_p_x prog d P b1 b2 hT (lv := 2) (by lia) fun O => ?_
  refine Tri.pick (js := (2, true) :: upI lxIdx) (by decide) ?_
  refine Tri.permI (H := [⟨true, O.addr 0, _⟩, ⟨true, O.addr 1, _⟩, ⟨true, 104, _⟩]) ?_ ((List.perm_append_comm (l₁ := [_, _]) (l₂ := [_])))
  refine jaD (lv := 2) hT (lx_a prog P b1 b2) (lx_a_ok prog d P b1 b2 hT (by decide)) (fun O => k2 (by lia) (by rw [sl]; lia)) fun O' => ?_
  cases b2
  · obtain ⟨m, em⟩ := isTbS_pick (lx_k_false prog P b1 O' _ _ _ _ tx tt) (upI lxIdx)
    exact ⟨allW_mem (lx_w_false prog P b1 O' _ _ _ _ tx tt), _, _, _, _, m, ⟨_, _, lx_d_false prog P b1 O' _ _ _ _ tx tt, lx_q_false prog P b1 O' _ _ _ _ tx tt⟩, by rw [lx_i_false], em.trans (congrArg (tbS m :: ·) ((pickS_up _ _).trans (congrArg upS (lx_s_false prog P b1 O' _ _ _ _ tx tt))))⟩
  · obtain ⟨m, em⟩ := isTbS_pick (lx_k_true prog P b1 O' _ _ _ _ tx tt) (upI lxIdx)
    exact ⟨allW_mem (lx_w_true prog P b1 O' _ _ _ _ tx tt), _, _, _, _, m, ⟨_, _, lx_d_true prog P b1 O' _ _ _ _ tx tt, lx_q_true prog P b1 O' _ _ _ _ tx tt⟩, by rw [lx_i_true], em.trans (congrArg (tbS m :: ·) ((pickS_up _ _).trans (congrArg upS (lx_s_true prog P b1 O' _ _ _ _ tx tt))))⟩
end
end Mine
namespace Mine
open PySem PySem.W PySem.W.X PyProof.Rows PySem.Calls
noncomputable def is_str_add (id : String) : Bool := S.eqLit 116512096292018843154609524 id
theorem is_str_add_eq {id : String} (h : is_str_add id = true) : id = "str.__add__" := eqLit_iff (by kernel_rfl) h
noncomputable def is_str_join (id : String) : Bool := S.eqLit 8028352891401237876 id
theorem is_str_join_eq {id : String} (h : is_str_join id = true) : id = "str.join" := eqLit_iff (by kernel_rfl) h
noncomputable def is_str_count (id : String) : Bool := S.eqLit 2166300787185074533748 id
theorem is_str_count_eq {id : String} (h : is_str_count id = true) : id = "str.count" := eqLit_iff (by kernel_rfl) h
noncomputable def slcO (v u : Value) : Obj := ⟨.type "slice", none, .fields ⟨[v, u, .none]⟩, #[]⟩
noncomputable def hLGetKO (k : Nat) (H : List Slot) (a : Nat) (i : Int) (a' : Nat) (vs : List Value) : HOut := ⟨[(a, a')], [], [], [i = (k : Int), k < vs.length ∧ k < 1000000], 0, 0, 0, fun _ _ _ => .ok (.ret (vs.getD k .none)), fun _ _ _ => H⟩
noncomputable def hLGetK (j k : Nat) : Handler := fun c H => bRI is_list___getitem__ c (fun a i _ => onLa H j fun a' vs _ => some (hLGetKO k H a i a' vs))
noncomputable def hLToO (jb : Nat) (H : List Slot) (a : Nat) (b : Nat) (a' : Nat) (vs : List Value) : HOut := ⟨[(a, a'), (b, slA H jb)], [], [(takeS 1 (dropS jb H), [⟨true, slA H jb, slcO .none (oF (slO H jb) 1)⟩])], [oF (slO H jb) 1 = .int (vInt (oF (slO H jb) 1)) (vTok (oF (slO H jb) 1)) ∧ 0 ≤ vInt (oF (slO H jb) 1), vs.length < 1000000], 1, 0, 0, fun as _ _ => .ok (.ret (.ref (as.getD 0 0))), fun as _ _ => addSlot H ⟨true, as.getD 0 0, lst (vs.take (vInt (oF (slO H jb) 1)).toNat) 0⟩⟩
noncomputable def hLTo (j jb : Nat) : Handler := fun c H => bRR is_list___getitem__ c (fun a b => onLa H j fun a' vs _ => some (hLToO jb H a b a' vs))
noncomputable def hLFromO (jb : Nat) (H : List Slot) (a : Nat) (b : Nat) (a' : Nat) (vs : List Value) : HOut := ⟨[(a, a'), (b, slA H jb)], [], [(takeS 1 (dropS jb H), [⟨true, slA H jb, slcO (oF (slO H jb) 0) .none⟩])], [oF (slO H jb) 0 = .int (vInt (oF (slO H jb) 0)) (vTok (oF (slO H jb) 0)) ∧ 0 ≤ vInt (oF (slO H jb) 0), vs.length < 1000000], 1, 0, 0, fun as _ _ => .ok (.ret (.ref (as.getD 0 0))), fun as _ _ => addSlot H ⟨true, as.getD 0 0, lst (vs.drop (vInt (oF (slO H jb) 0)).toNat) 0⟩⟩
noncomputable def hLFrom (j jb : Nat) : Handler := fun c H => bRR is_list___getitem__ c (fun a b => onLa H j fun a' vs _ => some (hLFromO jb H a b a' vs))
noncomputable def hSAddO (H : List Slot) (x : Str) (y : Str) : HOut := ⟨[], [], [], [x.length + y.length < 1000000], 0, 1, 0, fun _ ts _ => .ok (.ret (.str (x ++ y) (ts.getD 0 0))), fun _ _ _ => H⟩
noncomputable def hSAdd : Handler := fun c H => bSS is_str_add c (fun x _ y _ => some (hSAddO H x y))
/-- the join of empty texts -/
noncomputable def hJoin0O (H : List Slot) (x : Str) (a a' : Nat) (vs : List Value) : HOut := ⟨[(a, a')], [], [], [x = ⟨#[]⟩, Bx vs (List.replicate vs.length 0)], 0, 1, 0, fun _ ts _ => .ok (.ret (.str ⟨#[]⟩ (ts.getD 0 0))), fun _ _ _ => H⟩
noncomputable def hJoin0 (j : Nat) : Handler := fun c H => bSR is_str_join c (fun x _ a => onLa H j fun a' vs _ => some (hJoin0O H x a a' vs))
noncomputable def hCountO (H : List Slot) (x : Str) (y : Str) : HOut := ⟨[], [], [], [], 0, 1, 0, fun _ ts _ => .ok (.ret (.int (Txt.count x y) (ts.getD 0 0))), fun _ _ _ => H⟩
noncomputable def hCount : Handler := fun c H => bSS is_str_count c (fun x _ y _ => some (hCountO H x y))
section
variable (prog : Program) (w : World) {T : Tops}
theorem hLGetK_ok (j k : Nat) : HOk prog w T 0 (hLGetK j k) := by
  intro c H out e hi A s hA hS
  unfold hLGetK at e
  refine bRI_elim (P := fun c => CallsTo _ _ A c s _) e fun id a i ti hid e1 => ?_
  refine onLa_elim e1 fun w' a' vs ep hl e2 => ?_
  clear e e1
  cases e2
  obtain ⟨h1, h2, hh, h3⟩ := hi
  unfold hLGetKO at h1 h2 hh h3 ⊢
  have c0 : i = (k : Int) := h3 _ (.head _)
  obtain ⟨c1, c2⟩ := h3 _ (.tail _ (.head _))
  refine hLGet_ok (prog := prog) (w := w) (T := T) j (vs.getD k .none) _ H ⟨[(a, a')], [], [], [0 ≤ i ∧ i < 1000000, vs[i.toNat]? = some (vs.getD k .none)], 0, 0, 0, fun _ _ _ => .ok (.ret (vs.getD k .none)), fun _ _ _ => H⟩ ?_ ⟨h1, by simp, by simp, ?_⟩ A s hA hS
  · show onIf (is_list___getitem__ id) _ = _
    rw [hid]
    show onLa H j _ = _
    unfold onLa
    rw [hl]
    rfl
  · intro p hp
    subst c0
    rcases List.mem_cons.mp hp with rfl | hp
    · lia
    · rw [List.mem_singleton.mp hp, Int.toNat_natCast, List.getElem?_eq_getElem c1, List.getD_eq_getElem?_getD, List.getElem?_eq_getElem c1]; rfl
theorem cut_calls {A : Around} {s : Shared} {Q : Value → Shared → Prop} {E : Value → Shared → Prop} {l sl ep : Nat} {vs : List Value} {vl vu : Value} {lo hi : Option Int} (hl : s.heap.get? l = some (lst vs ep)) (hs : s.heap.get? sl = some (slcO vl vu)) (pl : IsPart vl lo) (pu : IsPart vu hi) (hsz : vs.length ≤ sizeLine)
    (h : Q (.ref s.heap.objs.size) { s with heap := s.heap.push { cls := .type "list", data := .seq (slicePick ⟨vs⟩ lo hi none) } }) : wpAny (model prog w) A (PySem.call (.builtin "list.__getitem__") [.ref l, .ref sl]) Q E s := by
  have hT : s.TypeIs (.ref l) "list" := typeIs_lst hl
  have hTs : s.TypeIs (.ref sl) "slice" := ⟨_, hs, rfl⟩
  refine wpAny_call_entry slot_list_getitem hT entry_list_getitem ?_ (args_list_getitem _ _)
  show wpAny _ _ (Builtin.List.listSubscript? (.ref sl) >>= _) _ _ s
  unfold Builtin.List.listSubscript?
  refine wpAny_bind (wpAny_bind (wpAny_specialOf hTs slice_no_index ?_))
  simp only [Option.isNone_none, if_true]
  refine wpAny_pure ?_
  show wpAny _ _ (typeOf (.ref sl) >>= _) _ _ s
  refine wpAny_bind (wpAny_typeOf hTs ?_)
  rw [if_neg (by decide), listSliceParts_eq]
  refine wpAny_bind (wpAny_bind (wpAny_field hs rfl (x := .none) rfl (wpAny_bind (wpAny_listPart IsPart.none ?_))))
  rw [if_neg (show ¬ ((rawPart none == rawInt 0) = true) from Bool.false_ne_true)]
  refine wpAny_bind (wpAny_field hs rfl (x := vl) rfl (wpAny_bind (wpAny_listPart pl ?_)))
  refine wpAny_bind (wpAny_field hs rfl (x := vu) rfl (wpAny_bind (wpAny_listPart pu (wpAny_pure ?_))))
  refine wpAny_bind (m := Builtin.List.listItems (.ref l)) ?_
  unfold Builtin.List.listItems
  refine wpAny_bind (wpAny_seqItems hl rfl (wpAny_pure ?_))
  refine wpAny_bind (wpAny_of_eq (sliceIndices_raw lo hi none vs.length (by simp)) ?_)
  exact wpAny_bind (wpAny_newObj_type (wpAny_pure ⟨_, rfl, h⟩) (Nat.le_trans (slicePick_size_le ⟨vs⟩ lo hi none) hsz))
theorem hLTo_ok (j jb : Nat) : HOk prog w T 0 (hLTo j jb) := by
  intro c H out e hi A s hA hS
  unfold hLTo at e
  refine bRR_elim (P := fun c => CallsTo _ _ A c s _) e fun id a b hid e1 => ?_
  refine onLa_elim e1 fun w' a' vs ep hl e2 => ?_
  clear e e1
  cases e2
  obtain ⟨h1, h2, hh, h3⟩ := hi
  unfold hLToO at h1 h2 hh h3 ⊢
  have ea : a = a' := h1 (a, a') (.head _)
  have eb : b = slA H jb := h1 (b, _) (.tail _ (.head _))
  have eh := hh _ (.head _)
  obtain ⟨c1, c2⟩ := h3 _ (.head _)
  have c3 := h3 _ (.tail _ (.head _))
  dsimp only at eh
  clear h1 h2 hh h3
  rw [is_list___getitem___eq hid]
  subst ea eb
  have hmem : (⟨true, slA H jb, slcO .none (oF (slO H jb) 1)⟩ : Slot) ∈ H := by
    have : (⟨true, slA H jb, slcO .none (oF (slO H jb) 1)⟩ : Slot) ∈ takeS 1 (dropS jb H) := by rw [eh]; exact .head _
    rw [takeS_eq, dropS_eq] at this
    exact List.mem_of_mem_drop (List.mem_of_mem_take this)
  have hsl := hS.has _ hmem
  have ho := getSlot_obj hS (lstAt_eq hl)
  dsimp only at hsl ho
  generalize oF (slO H jb) 1 = v at c1 c2 hsl ⊢
  generalize hi : vInt v = i at c1 c2 ⊢
  generalize vTok v = tk at c1
  subst c1
  refine (CallsTo.of_call prog w (R := fun x s' => x = .ref s.heap.objs.size ∧ s' = { s with heap := s.heap.push (lst (vs.take i.toNat) 0) }) (cut_calls prog w ho hsl .none (.int i _) (by unfold sizeLine; lia) ⟨rfl, ?_⟩)).mono prog w ?_
  · obtain ⟨n, rfl⟩ := Int.eq_ofNat_of_zero_le c2
    have := slicePick_upto' ⟨vs⟩ n
    rw [this]; rfl
  · rintro r s' ⟨x, rfl, rfl, rfl⟩
    exact ⟨[_], [], [], rfl, rfl, rfl, rfl, hS.alloc (o := lst (vs.take i.toNat) 0) rfl⟩
theorem hLFrom_ok (j jb : Nat) : HOk prog w T 0 (hLFrom j jb) := by
  intro c H out e hi A s hA hS
  unfold hLFrom at e
  refine bRR_elim (P := fun c => CallsTo _ _ A c s _) e fun id a b hid e1 => ?_
  refine onLa_elim e1 fun w' a' vs ep hl e2 => ?_
  clear e e1
  cases e2
  obtain ⟨h1, h2, hh, h3⟩ := hi
  unfold hLFromO at h1 h2 hh h3 ⊢
  have ea : a = a' := h1 (a, a') (.head _)
  have eb : b = slA H jb := h1 (b, _) (.tail _ (.head _))
  have eh := hh _ (.head _)
  obtain ⟨c1, c2⟩ := h3 _ (.head _)
  have c3 := h3 _ (.tail _ (.head _))
  dsimp only at eh
  clear h1 h2 hh h3
  rw [is_list___getitem___eq hid]
  subst ea eb
  have hmem : (⟨true, slA H jb, slcO (oF (slO H jb) 0) .none⟩ : Slot) ∈ H := by
    have : (⟨true, slA H jb, slcO (oF (slO H jb) 0) .none⟩ : Slot) ∈ takeS 1 (dropS jb H) := by rw [eh]; exact .head _
    rw [takeS_eq, dropS_eq] at this
    exact List.mem_of_mem_drop (List.mem_of_mem_take this)
  have hsl := hS.has _ hmem
  have ho := getSlot_obj hS (lstAt_eq hl)
  dsimp only at hsl ho
  generalize oF (slO H jb) 0 = v at c1 c2 hsl ⊢
  generalize hi : vInt v = i at c1 c2 ⊢
  generalize vTok v = tk at c1
  subst c1
  refine (CallsTo.of_call prog w (R := fun x s' => x = .ref s.heap.objs.size ∧ s' = { s with heap := s.heap.push (lst (vs.drop i.toNat) 0) }) (cut_calls prog w ho hsl (.int i _) .none (by unfold sizeLine; lia) ⟨rfl, ?_⟩)).mono prog w ?_
  · obtain ⟨n, rfl⟩ := Int.eq_ofNat_of_zero_le c2
    have := slicePick_from' ⟨vs⟩ n
    rw [this]; rfl
  · rintro r s' ⟨x, rfl, rfl, rfl⟩
    exact ⟨[_], [], [], rfl, rfl, rfl, rfl, hS.alloc (o := lst (vs.drop i.toNat) 0) rfl⟩
theorem hSAdd_ok : HOk prog w T 0 hSAdd := by
  intro c H out e hi A s hA hS
  unfold hSAdd at e
  refine bSS_elim (P := fun c => CallsTo _ _ A c s _) e fun id x t y u hid e1 => ?_
  clear e
  cases e1
  obtain ⟨h1, h2, hh, h3⟩ := hi
  rw [is_str_add_eq hid]
  have c0 : x.length + y.length < 1000000 := h3 _ (.head _)
  have la : (x ++ y).length = x.length + y.length := Array.size_append ..
  have z0 : ∀ z : Str, (z.length == 0) = true → z = ⟨#[]⟩ := fun z h => by
    have h' : z.cps.size = 0 := eq_of_beq h
    have h2 := Array.size_eq_zero_iff.mp h'
    cases z with
    | mk c => exact congrArg Str.mk h2
  refine (CallsTo.of_call prog w (R := fun v s' => ∃ t', v = .str (x ++ y) t' ∧ Post T H s H s') (call_gives F.slot_str_add (typeIs_str _ _ _) F.entry_str_add (F.args_str_add_2 _ _) (gives_str_add x y t u) ?_)).mono prog w ?_
  · cases hx : (x.length == 0) with
    | true =>
      have := z0 x hx
      subst this
      refine ⟨u, ?_, Post.refl hS⟩
      show Value.str y u = .str ⟨#[] ++ y.cps⟩ u
      rw [Array.empty_append]
    | false =>
      cases hy : (y.length == 0) with
      | true =>
        have := z0 y hy
        subst this
        refine ⟨t, ?_, Post.refl hS⟩
        show Value.str x t = .str ⟨x.cps ++ #[]⟩ t
        rw [Array.append_empty]
      | false => exact ⟨by rw [la]; unfold sizeLine; lia, _, rfl, (Post.refl hS).toks (Nat.le_succ _)⟩
  · rintro r s' ⟨v, rfl, t', rfl, hp⟩
    exact ⟨[], [t'], [], rfl, rfl, rfl, rfl, hp⟩
theorem hCount_ok : HOk prog w T 0 hCount := by
  intro c H out e hi A s hA hS
  unfold hCount at e
  refine bSS_elim (P := fun c => CallsTo _ _ A c s _) e fun id x t y u hid e1 => ?_
  clear e
  cases e1
  rw [is_str_count_eq hid]
  refine (CallsTo.of_call prog w (R := fun v s' => ∃ t', v = .int (Txt.count x y) t' ∧ Post T H s H s') (call_gives F.slot_str_count (typeIs_str _ _ _) F.entry_str_count (F.args_str_count_2 _ _) (gives_str_count x y t u) ⟨_, rfl, (Post.refl hS).toks (Nat.le_succ _)⟩)).mono prog w ?_
  rintro r s' ⟨v, rfl, t', rfl, hp⟩
  exact ⟨[], [t'], [], rfl, rfl, rfl, rfl, hp⟩
end
end Mine
namespace Mine
open PySem PySem.W PySem.W.X PyProof.Rows PySem.Calls PySem.Builtin.Str
theorem bx0 : ∀ {vs : List Value} {n : Nat}, Bx vs (List.replicate n 0) → ∃ ts : List Nat, ts.length = n ∧ vs = strValues (ts.map fun t => ((⟨#[]⟩ : Str), t))
  | [], n, h => by
    have := h.length
    simp at this
    subst this
    exact ⟨[], rfl, rfl⟩
  | v :: vs, 0, h => by cases h
  | v :: vs, n + 1, h => by
    rw [List.replicate_succ] at h
    cases h with
    | cons hk t h =>
      obtain ⟨ts, hl, e⟩ := bx0 h
      refine ⟨t :: ts, by simp [hl], ?_⟩
      rw [e]; rfl
theorem glued0 (ts : List Nat) : glued (⟨#[]⟩ : Str) ((ts.map fun t => ((⟨#[]⟩ : Str), t)).map (·.1)) = ⟨#[]⟩ := by
  have e1 : (ts.map fun t => ((⟨#[]⟩ : Str), t)).map (·.1) = List.replicate ts.length (⟨#[]⟩ : Str) := by
    rw [List.map_map]
    show List.map (fun _ => (⟨#[]⟩ : Str)) ts = _
    exact List.map_const' ..
  rw [e1]
  have fold : ∀ n, List.foldl (fun (acc : Array Nat) (p : Str) => acc ++ (⟨#[]⟩ : Str).cps ++ p.cps) #[] (List.replicate n (⟨#[]⟩ : Str)) = #[] := by
    intro n
    induction n with
    | zero => rfl
    | succ n ih =>
      rw [List.replicate_succ, List.foldl_cons]
      exact ih
  unfold glued
  cases hn : ts.length with
  | zero => rfl
  | succ n =>
    rw [List.replicate_succ]
    show Str.mk (List.foldl _ (⟨#[]⟩ : Str).cps (List.replicate n (⟨#[]⟩ : Str))) = _
    exact congrArg Str.mk (fold n)
theorem long0 (ts : List Nat) : tooLong (((ts.map fun t => ((⟨#[]⟩ : Str), t)).map (·.1)).toArray.foldl (· + ·.length + (⟨#[]⟩ : Str).length) 0) = false := by
  have : ((ts.map fun t => ((⟨#[]⟩ : Str), t)).map (·.1)).toArray.foldl (· + ·.length + (⟨#[]⟩ : Str).length) 0 = 0 := by
    rw [List.map_map, List.foldl_toArray]
    induction ts with
    | nil => rfl
    | cons t ts ih => exact ih
  rw [this]; rfl
section
variable (prog : Program) (w : World) {T : Tops}
theorem hJoin0_ok (j : Nat) : HOk prog w T 0 (hJoin0 j) := by
  intro c H out e hi A s hA hS
  unfold hJoin0 at e
  refine bSR_elim (P := fun c => CallsTo _ _ A c s _) e fun id x t a hid e1 => ?_
  refine onLa_elim e1 fun w' a' vs ep hl e2 => ?_
  clear e e1
  cases e2
  obtain ⟨h1, h2, hh, h3⟩ := hi
  have ea : a = a' := h1 (a, a') (.head _)
  have c0 : x = ⟨#[]⟩ := h3 _ (.head _)
  have c1 : Bx vs (List.replicate vs.length 0) := h3 _ (.tail _ (.head _))
  clear h1 h2 hh h3
  rw [is_str_join_eq hid]
  subst ea c0
  have ho := getSlot_obj hS (lstAt_eq hl)
  obtain ⟨ts, _, e⟩ := bx0 c1
  refine (CallsTo.of_call prog w (R := fun v s' => ∃ t', v = .str ⟨#[]⟩ t' ∧ Post T H s H s') (call_meets F.slot_str_join (typeIs_str _ _ _) F.entry_str_join (F.args_str_join_2 _ _) (meets_str_join_list ⟨#[]⟩ t a (ts.map fun t => ((⟨#[]⟩ : Str), t)) (long0 ts)) ⟨?_, ?_⟩)).mono prog w ?_
  · rw [← e]; exact isList_lst ho
  · have key : ∀ m : Made, m = .str ⟨#[]⟩ ∨ (∃ t', m = .val (.str ⟨#[]⟩ t')) → m.post (fun v s' => wants (fun v s' => ∃ t', v = .str ⟨#[]⟩ t' ∧ Post T H s H s') (fun _ _ => False) (.ok (.ret v)) s') s := by
      rintro m (rfl | ⟨t', rfl⟩)
      · exact ⟨by decide, _, rfl, (Post.refl hS).toks (Nat.le_succ _)⟩
      · exact ⟨t', rfl, Post.refl hS⟩
    refine key _ ?_
    match ts with
    | [] => exact .inl (congrArg Made.str (glued0 []))
    | [u] => exact .inr ⟨u, rfl⟩
    | u :: v :: r => exact .inl (congrArg Made.str (glued0 (u :: v :: r)))
  · rintro r s' ⟨v, rfl, t', rfl, hp⟩
    exact ⟨[], [t'], [], rfl, rfl, rfl, rfl, hp⟩
end
end Mine
namespace Mine
open PySem PySem.W PySem.W.X PyProof.Rows
/-- the same slots, fewer to be written -/
inductive Lower : List Slot → List Slot → Prop where
  | nil : Lower [] []
  | cons {w w' : Bool} {a : Nat} {o : Obj} {G H : List Slot} (hw : w' = true → w = true) (h : Lower G H) : Lower (⟨w', a, o⟩ :: G) (⟨w, a, o⟩ :: H)
theorem Lower.mem {G H : List Slot} (h : Lower G H) : ∀ x ∈ G, ∃ y ∈ H, y.a = x.a ∧ y.o = x.o ∧ (x.w = true → y.w = true) := by
  induction h with
  | nil => intro x hx; cases hx
  | cons hw h ih =>
    intro x hx
    rcases List.mem_cons.mp hx with rfl | hx
    · exact ⟨_, .head _, rfl, rfl, hw⟩
    · obtain ⟨y, hy, r⟩ := ih x hx
      exact ⟨y, .tail _ hy, r⟩
theorem Lower.apart {G H : List Slot} (h : Lower G H) : Apart H → Apart G := by
  induction h with
  | nil => intro h; exact h
  | cons hw h ih =>
    intro hap
    have hap := List.pairwise_cons.mp hap
    refine List.pairwise_cons.mpr ⟨fun x hx hxw => ?_, ih hap.2⟩
    obtain ⟨y, hy, e, _, hyw⟩ := h.mem x hx
    rw [← e]
    exact hap.1 y hy (hxw.elim (fun h => .inl (hw h)) fun h => .inr (hyw h))
theorem Lower.refl : ∀ H : List Slot, Lower H H
  | [] => .nil
  | ⟨w, a, o⟩ :: r => .cons id (Lower.refl r)
theorem Lower.up : ∀ H : List Slot, Lower H (upS H)
  | [] => .nil
  | ⟨w, a, o⟩ :: r => .cons (fun _ => rfl) (Lower.up r)
theorem Lower.append {G H G' H' : List Slot} (h : Lower G H) (h' : Lower G' H') : Lower (G ++ G') (H ++ H') := by
  induction h with
  | nil => exact h'
  | cons hw h ih => exact .cons hw ih
theorem Post.low {T : Tops} {H H' G : List Slot} {s s' : Shared} (h : Post T H s H' s') (hl : Lower G H') : Post T H s G s' := by
  refine ⟨⟨h.sat.top, h.sat.gens, h.sat.toks, fun x hx => ?_, hl.apart h.sat.apart, fun x hx hw o => ?_⟩, h.keep, fun x hx hw => ?_⟩
  · obtain ⟨y, hy, e1, e2, _⟩ := hl.mem x hx
    rw [← e1, ← e2]; exact h.sat.has y hy
  · obtain ⟨y, hy, e1, e2, e3⟩ := hl.mem x hx
    rw [← e1]; exact h.sat.wr y hy (e3 hw) o
  · obtain ⟨y, hy, e1, e2, e3⟩ := hl.mem x hx
    rw [← e1]; exact h.grow y hy (e3 hw)
theorem upS_w : ∀ H : List Slot, ∀ x ∈ upS H, x.w = true
  | [], x, hx => by cases hx
  | s :: r, x, hx => by
    rcases List.mem_cons.mp hx with rfl | hx
    · rfl
    · exact upS_w r x hx
/-- the lexer is made; the table of code goes from the slots -/
noncomputable def hLxO (j : Nat) (H : List Slot) (f : Nat) (tx : Str) : HOutP := ⟨⟨[(f, 109)], [], [(dropS j H, [⟨true, 104, ⟨.none, none, .fields ⟨[]⟩, #[]⟩⟩])], [tx.cps.toList.length < 100000], 1, 0, 1, fun as _ _ => .ok (.ret (.ref (as.getD 0 0))), fun _ _ fs => appS (takeS j H) (fs.getD 0 frx0).sl⟩,
      fun as _ fs => [∃ X tl es τ m, X.ok ∧ as.getD 0 0 = X.I ∧ (fs.getD 0 frx0).sl = tbS m :: lexS X 1 tl [] 0 (sgn τ 0 tx.cps.toList).reverse es]⟩
noncomputable def hLx (T : Tops) (j : Nat) : HandlerP := fun c H => rS c (fun f tx tt => some (hLxO j H f tx))
section
variable (prog : Program) (d : Source → Nat → Nat) (P : Params) (b1 b2 : Bool) {T : Tops} (hT : ∀ a o, (topT P).get a = some o → T a o)
include hT
theorem hLx_ok (j : Nat) : HOkP prog (wd d P b1 b2) T 3 (hLx T j) := by
  intro c H out e hi A s hA hS
  unfold hLx at e
  refine rS_elim (P := fun c => CallsTo _ _ A c s _) e fun f tx tt e1 => ?_
  clear e
  cases e1
  obtain ⟨h1, h2, hh, h3⟩ := hi
  unfold hLxO at h1 h2 hh h3 ⊢
  have e1 : f = 109 := h1 (f, 109) (.head _)
  have eh := hh _ (.head _)
  have c0 : tx.cps.toList.length < 100000 := h3 _ (.head _)
  dsimp only at eh
  clear h1 h2 hh h3
  subst e1
  have split : H = takeS j H ++ dropS j H := by rw [takeS_eq, dropS_eq, List.take_append_drop]
  generalize takeS j H = pre at split ⊢
  rw [eh] at split
  subst split
  have pm : (pre ++ ([⟨true, 104, ⟨.none, none, .fields ⟨[]⟩, #[]⟩⟩] : List Slot)).Perm (([⟨true, 104, ⟨.none, none, .fields ⟨[]⟩, #[]⟩⟩] : List Slot) ++ pre) := List.perm_append_comm
  have hS2 := hS.perm pm
  refine CallsTo.of_code _ _ (codeAny_mono (lx_call prog d P b1 b2 hT c0 _ s hA.mk' (hS2.part (List.sublist_append_left _ _))) ?_)
  rintro r s' ⟨H', ⟨X, tl, es, τ, m, hX, rfl, rfl⟩, hp⟩
  have q := hp.frame hS2 (fun x hx hw => by
    rcases List.mem_cons.mp hx with rfl | hx
    · cases hw
    · rw [upS_w _ x hx] at hw; cases hw)
  have q2 := (q.perm pm.symm List.perm_append_comm).low (G := pre ++ tbS m :: lexS X 1 tl [] 0 (sgn τ 0 tx.cps.toList).reverse es) ((Lower.refl pre).append (.cons id (Lower.up _)))
  refine ⟨[X.I], [], [⟨zeroI, zeroN, [], tbS m :: lexS X 1 tl [] 0 (sgn τ 0 tx.cps.toList).reverse es⟩], rfl, rfl, rfl, rfl, all1 ⟨X, tl, es, τ, m, hX, rfl, rfl⟩, ?_⟩
  show Post T _ s (appS pre _) s'
  rw [appS_eq]
  exact q2
end
noncomputable def laEnv (P : Params) (L C : Nat) : Env := envOfC 140 (fdOf (to140 P)) L [(s_line, C)]
noncomputable def laF1 : Stmt := stAt 16 2
noncomputable def laFor1 (P : Params) (L C it : Nat) : Code := .forLoop (forT laF1) (.ref it) (forB laF1) [] (laEnv P L C)
noncomputable abbrev fLaS10 (S : Nat) (t : Nat) (r : List (Str × Value)) : List (Str × Value) := (s_script, .ref S) :: (s_strip, .ref t) :: r
section
variable (prog : Program) (P : Params) (b1 b2 : Bool)
variable {L C S t ep tt q it i eb eq tn : Nat} {κ : Nat → Int} {τ : Nat → Nat} {sv bv qv : List Value} {tx : Str} {n : Int} {wx wb : Value} {Φ : Result → List Slot → Prop}
noncomputable def la_a_h : List Hint := [.slot 0, .slot 0, .slot 0, .slot 0]
theorem la_a (O : Orc) : Seg (run (eE prog P b1 b2 O) 25 la_a_h (.root (execsZ ((fnB (st 16)).take 2) (laEnv P L C))) ⟨[wS L (frm κ τ [(s_script, .ref S)])], 0, 0, 0⟩)
    [] (.pure (Flow.next)) [wS L (frm (ext κ 1 [hz prog (mkP P b1 b2) s_strip, hz prog (mkP P b1 b2) s_text]) (ext τ 1 [O.tok 0, O.tok 2]) [(s_script, .ref S), (s_strip, .ref (O.addr 0)), (s_text, .str ⟨#[]⟩ (O.tok 1))]), wS (O.addr 0) (lst [] 0)] := sg5 (by kernel_rfl)
noncomputable def la_i_h : List Hint := [.slot 0, .slot 1, .slot 1, .slot 1, .sum (hLTo 1 3), .slot 2, .slot 4, .slot 2, .sum (hLAdd 2 4)]
theorem la_i (O : Orc) : Seg (run (eE prog P b1 b2 O) 31 la_i_h (.root (evalZ (forI laF1) (laEnv P L C))) ⟨[wS L (frm κ τ (fLaS10 S t [(s_text, .str tx tt)])), wS S (lst sv ep)], 0, 0, 0⟩)
    [(.int 3 (O.tok 6) : Value) = .int 3 (O.tok 6) ∧ (0 : Int) ≤ 3, sv.length < 1000000, 6 < 1000000 ∧ (sv.take 3).length < 1000000] (.pure (.ref (O.addr 3))) [wS L (frm κ τ (fLaS10 S t [(s_text, .str tx tt)])), wS S (lst sv ep), wS (O.addr 0) (lst [.int 3 (O.tok 0), .int 6 (O.tok 1), .int 2 (O.tok 2), .int 5 (O.tok 3), .int 7 (O.tok 4), .int 11 (O.tok 5)] 0), wS (O.addr 1) (slcO .none (.int 3 (O.tok 6))), wS (O.addr 2) (lst (sv.take 3) 0), wS (O.addr 3) (lst ([.int 3 (O.tok 0), .int 6 (O.tok 1), .int 2 (O.tok 2), .int 5 (O.tok 3), .int 7 (O.tok 4), .int 11 (O.tok 5)] ++ sv.take 3) 0)] := sg5 (by kernel_rfl)
noncomputable def la_t0_h (k : Nat) (b : Bool) (n : Int) (tn : Nat) : List Hint := [.slot 3, .sum (hLNext 3 2 (.int n tn)), .slot 0, .slot 0, .slot 0, .call, .slot 4, .slot 4, .slot 4, .sum (hLGetK 4 k), .call, .slot 0, .slot 0, .slot 0, .slot 1, .slot 1, .slot 1, .slot 1, .slot 0, .sum (hLApp 1), .slot 0, .top, .slot 0, .slot 0, .call, .call, .sum (hIEq b), .top, .sum (hWr k b), .sum (hSAdd), .slot 0, .slot 0]
theorem la_t0 (k : Nat) (b : Bool) (hk : k < 5) (O : Orc) : Seg (run (eE prog P b1 b2 O) 99 (la_t0_h k b n tn) (.root (denoteZ (laFor1 P L C it))) ⟨[wS L (frm κ τ (fLaS10 S t [(s_text, .str tx tt)])), wS t (lst bv eb), wS q (lst qv eq), wS it (itL q i)], 0, 0, 0⟩)
    [qv[i]? = some (.int n tn), Z.modQ n 5 = ((k : Nat) : Int), k < 5 ∧ k < 1000000, bv.length < 1000000, decide (Z.modQ (Z.divQ n 5) 2 = 1) = b, B k = B k ∧ k < 5 ∧ b = b, tx.length + (wrS k b).length < 1000000] (.pure (.again (laFor1 P L C it))) [wS L (frm (ext κ 3 [hz prog (mkP P b1 b2) s_x, hz prog (mkP P b1 b2) s_box]) (ext τ 3 [O.tok 0, O.tok 8]) (fLaS10 S t [(s_text, .str (tx ++ wrS k b) (O.tok 15)), (s_x, .int n tn), (s_box, .str (B k) (O.tok (k + 1)))])), wS t (lst (bv ++ [.str (B k) (O.tok (k + 1))]) (eb + 1)), wS q (lst qv eq), wS it (itL q (i + 1)), wS (O.addr 0) (lst [.str (B 0) (O.tok 1), .str (B 1) (O.tok 2), .str (B 2) (O.tok 3), .str (B 3) (O.tok 4), .str (B 4) (O.tok 5)] 0)] := by
  revert k
  refine lt5 ?_ ?_ ?_ ?_ ?_ <;> cases b <;> cases b2 <;> exact sg5 (by kernel_rfl)
noncomputable def la_t1_h (k : Nat) (b : Bool) (n : Int) (tn : Nat) : List Hint := [.slot 3, .sum (hLNext 3 2 (.int n tn)), .slot 0, .slot 0, .slot 0, .call, .slot 4, .slot 4, .slot 4, .sum (hLGetK 4 k), .call, .slot 0, .slot 0, .slot 0, .slot 1, .slot 1, .slot 1, .slot 1, .slot 0, .sum (hLApp 1), .slot 0, .top, .slot 0, .slot 0, .call, .call, .sum (hIEq b), .top, .sum (hWr k b), .sum (hSAdd), .slot 0, .slot 0]
theorem la_t1 (k : Nat) (b : Bool) (hk : k < 5) (O : Orc) : Seg (run (eE prog P b1 b2 O) 99 (la_t1_h k b n tn) (.root (denoteZ (laFor1 P L C it))) ⟨[wS L (frm κ τ (fLaS10 S t [(s_text, .str tx tt), (s_x, wx), (s_box, wb)])), wS t (lst bv eb), wS q (lst qv eq), wS it (itL q i)], 0, 0, 0⟩)
    [qv[i]? = some (.int n tn), Z.modQ n 5 = ((k : Nat) : Int), k < 5 ∧ k < 1000000, bv.length < 1000000, decide (Z.modQ (Z.divQ n 5) 2 = 1) = b, B k = B k ∧ k < 5 ∧ b = b, tx.length + (wrS k b).length < 1000000] (.pure (.again (laFor1 P L C it))) [wS L (frm κ τ (fLaS10 S t [(s_text, .str (tx ++ wrS k b) (O.tok 15)), (s_x, .int n tn), (s_box, .str (B k) (O.tok (k + 1)))])), wS t (lst (bv ++ [.str (B k) (O.tok (k + 1))]) (eb + 1)), wS q (lst qv eq), wS it (itL q (i + 1)), wS (O.addr 0) (lst [.str (B 0) (O.tok 1), .str (B 1) (O.tok 2), .str (B 2) (O.tok 3), .str (B 3) (O.tok 4), .str (B 4) (O.tok 5)] 0)] := by
  revert k
  refine lt5 ?_ ?_ ?_ ?_ ?_ <;> cases b <;> cases b2 <;> exact sg5 (by kernel_rfl)
noncomputable def la_x1_h : List Hint := [.slot 3, .sum (hLStop 3 2), .slot 5]
theorem la_x1 (O : Orc) : Seg (run (eE prog P b1 b2 O) 10 la_x1_h (.root (denoteZ (laFor1 P L C it))) ⟨[wS L (frm κ τ (fLaS10 S t [(s_text, .str tx tt), (s_x, wx), (s_box, wb)])), wS t (lst bv eb), wS q (lst qv eq), wS it (itL q i)], 0, 0, 0⟩)
    [qv[i]? = none] (.pure (.again (Code.block [] (laEnv P L C)))) [wS L (frm κ τ (fLaS10 S t [(s_text, .str tx (tt)), (s_x, wx), (s_box, wb)])), wS t (lst bv eb), wS q (lst qv eq), wS it (itLx i), wS (O.addr 0) tup0, wS (O.addr 1) (stopObj (O.addr 0))] := sg5 (by kernel_rfl)
end
section
variable (prog : Program) (d : Source → Nat → Nat) (P : Params) (b1 b2 : Bool) {T : Tops} (hT : ∀ a o, (topT P).get a = some o → T a o) {lv : Nat}
include hT
variable {L C S t ep tt q it i eb eq tn : Nat} {κ : Nat → Int} {τ : Nat → Nat} {sv bv qv : List Value} {tx : Str} {n : Int} {wx wb : Value} {Φ : Result → List Slot → Prop}
theorem la_a_ok (hl : 1 ≤ lv) : HsOk prog (wd d P b1 b2) T lv la_a_h := trivial
theorem la_i_ok (hl : 1 ≤ lv) : HsOk prog (wd d P b1 b2) T lv la_i_h := ⟨(hLTo_ok _ _ _ _).mono _ _ _ (lw hl), (hLAdd_ok _ _ _ _).mono _ _ _ (lw hl), trivial⟩
theorem la_t0_ok (hl : 3 ≤ lv) {k : Nat} {b : Bool} : HsOk prog (wd d P b1 b2) T lv (la_t0_h k b n tn) := ⟨(hLNext_ok prog _ _ _ _).mono _ _ _ (lw hl), (hLGetK_ok _ _ _ _).mono _ _ _ (lw hl), (hLApp_ok _).mono _ _ _ (lw hl), (hIEq_ok hT _).mono _ _ _ (lw hl), (hWr_ok prog d P b1 b2 hT _ _).mono _ _ _ (lw hl), (hSAdd_ok _ _).mono _ _ _ (lw hl), trivial⟩
theorem la_t1_ok (hl : 3 ≤ lv) {k : Nat} {b : Bool} : HsOk prog (wd d P b1 b2) T lv (la_t1_h k b n tn) := ⟨(hLNext_ok prog _ _ _ _).mono _ _ _ (lw hl), (hLGetK_ok _ _ _ _).mono _ _ _ (lw hl), (hLApp_ok _).mono _ _ _ (lw hl), (hIEq_ok hT _).mono _ _ _ (lw hl), (hWr_ok prog d P b1 b2 hT _ _).mono _ _ _ (lw hl), (hSAdd_ok _ _).mono _ _ _ (lw hl), trivial⟩
theorem la_x1_ok (hl : 1 ≤ lv) : HsOk prog (wd d P b1 b2) T lv la_x1_h := ⟨(hLStop_ok prog _ _ _).mono _ _ _ (lw hl), trivial⟩
end
/-- the box and the way it's written, of a number -/
noncomputable def ibx (n : Int) : Nat := (n % 5).toNat
noncomputable def ibr (n : Int) : Bool := decide ((n / 5) % 2 = 1)
theorem ibx_lt (n : Int) : ibx n < 5 := by unfold ibx; lia
theorem mod5 (n : Int) : Z.modQ n 5 = ((ibx n : Nat) : Int) := by
  rw [← Z.modQ_eq, Int.fmod_eq_emod_of_nonneg _ (by decide)]
  unfold ibx; lia
theorem bare5 (n : Int) : decide (Z.modQ (Z.divQ n 5) 2 = 1) = ibr n := by
  rw [← Z.modQ_eq, ← Z.divQ_eq, Int.fmod_eq_emod_of_nonneg _ (by decide), Int.fdiv_eq_ediv_of_nonneg _ (by decide)]
  rfl
noncomputable def wrL (n : Int) : List Nat := (wrS (ibx n) (ibr n)).cps.toList
theorem wrS_len {k : Nat} (b : Bool) (hk : k < 5) : (wrS k b).length ≤ 4 := by
  rcases (by lia : k = 0 ∨ k = 1 ∨ k = 2 ∨ k = 3 ∨ k = 4) with rfl | rfl | rfl | rfl | rfl <;> cases b <;> decide
noncomputable def laB (S t : Nat) (tx : Str) (tt : Nat) (r : List (Str × Value)) : List (Str × Value) := (s_script, .ref S) :: (s_strip, .ref t) :: (s_text, .str tx tt) :: r
noncomputable def laR (r : List (Str × Value)) : Prop := r = [] ∨ ∃ a b, r = [(s_x, a), (s_box, b)]
section
variable (prog : Program) (d : Source → Nat → Nat) (P : Params) (b1 b2 : Bool) {T : Tops} (hT : ∀ a o, (topT P).get a = some o → T a o)
include hT
theorem la_turn {L C S t q it i eb eq tt tn : Nat} {κ : Nat → Int} {τ : Nat → Nat} {bv qv : List Value} {tx : Str} {n : Int} {r : List (Str × Value)} (hr : laR r) (hx : qv[i]? = some (.int n tn)) (hb : bv.length < 1000) (ht : tx.length < 10000) {Φ : Result → List Slot → Prop}
    (h : ∀ κ τ tt t1 r X, laR r → r ≠ [] → Tri prog (wd d P b1 b2) 4 T (laFor1 P L C it) ([⟨true, L, frm κ τ (laB S t (tx ++ wrS (ibx n) (ibr n)) tt r)⟩, ⟨true, t, lst (bv ++ [.str (B (ibx n)) t1]) (eb + 1)⟩, ⟨true, q, lst qv eq⟩, ⟨true, it, itL q (i + 1)⟩] ++ X) Φ) :
    Tri prog (wd d P b1 b2) 4 T (laFor1 P L C it) [⟨true, L, frm κ τ (laB S t tx tt r)⟩, ⟨true, t, lst bv eb⟩, ⟨true, q, lst qv eq⟩, ⟨true, it, itL q i⟩] Φ := by
  have hk := ibx_lt n
  have e1 := mod5 n
  have e2 := bare5 n
  have hw := wrS_len (ibr n) hk
  have c6 : tx.length + (wrS (ibx n) (ibr n)).length < 1000000 := by lia
  generalize ibx n = k at hk e1 h c6
  generalize ibr n = b at e2 h c6
  have c3 : bv.length < 1000000 := by lia
  rcases hr with rfl | ⟨wx, wb, rfl⟩
  · exact jaA (lv := 3) hT (la_t0 prog P b1 b2 k b hk) (la_t0_ok prog d P b1 b2 hT (by decide)) (fun O => k7 hx e1 ⟨hk, by lia⟩ c3 e2 ⟨rfl, hk, rfl⟩ c6) fun O => h _ _ _ _ _ [_] (.inr ⟨_, _, rfl⟩) (by simp)
  · exact jaA (lv := 3) hT (la_t1 prog P b1 b2 k b hk) (la_t1_ok prog d P b1 b2 hT (by decide)) (fun O => k7 hx e1 ⟨hk, by lia⟩ c3 e2 ⟨rfl, hk, rfl⟩ c6) fun O => h _ _ _ _ _ [_] (.inr ⟨_, _, rfl⟩) (by simp)
theorem la_loop {L C S t q it eq : Nat} {qv : List Value} : ∀ (rest : List Value) (ns : List Int) (i : Nat) (bv : List Value) (ks : List Nat) (eb : Nat) (tx : Str) (tt : Nat) (κ : Nat → Int) (τ : Nat → Nat) (r : List (Str × Value)), IntsAre rest ns → qv.drop i = rest → Bx bv ks → laR r → bv.length + rest.length < 900 → tx.length + 4 * rest.length < 9000 → (r ≠ [] ∨ 0 < rest.length) →
    Tri prog (wd d P b1 b2) 4 T (laFor1 P L C it) [⟨true, L, frm κ τ (laB S t tx tt r)⟩, ⟨true, t, lst bv eb⟩, ⟨true, q, lst qv eq⟩, ⟨true, it, itL q i⟩]
      (okF fun f H' => f = .next ∧ ∃ bv' eb' tx' tt' κ τ wx wb, Bx bv' (ks ++ ns.map ibx) ∧ tx'.cps.toList = tx.cps.toList ++ (ns.map wrL).flatten ∧ H' = [⟨true, L, frm κ τ (laB S t tx' tt' [(s_x, wx), (s_box, wb)])⟩, ⟨true, t, lst bv' eb'⟩])
  | _, _, i, bv, ks, eb, tx, tt, κ, τ, r, .nil, hd, hb, hr, h1, h2, hne => by
    have hx : qv[i]? = none := by
      rw [List.getElem?_eq_none_iff]
      have := congrArg List.length hd
      simp at this; lia
    rcases hr with rfl | ⟨wx, wb, rfl⟩
    · rcases hne with h | h
      · exact absurd rfl h
      · cases h
    · refine Tri.cov (jaA (lv := 3) hT (la_x1 prog P b1 b2) (la_x1_ok prog d P b1 b2 hT (by decide)) (fun O => k1 hx) fun O => tri_block_nil ⟨[⟨true, L, frm κ τ (laB S t tx tt [(s_x, wx), (s_box, wb)])⟩, ⟨true, t, lst bv eb⟩], ⟨[⟨true, q, lst qv eq⟩, ⟨true, it, itLx i⟩, ⟨true, O.addr 0, tup0⟩, ⟨true, O.addr 1, stopObj (O.addr 0)⟩], .refl _⟩, .next, rfl, rfl, bv, eb, tx, tt, κ, τ, wx, wb, by simpa using hb, by simp, rfl⟩)
  | _, _, i, bv, ks, eb, tx, tt, κ, τ, r, .cons n tn (vs := rest) (ns := ns) hi, hd, hb, hr, h1, h2, hne => by
    simp only [List.length_cons] at h1 h2
    have hx : qv[i]? = some (.int n tn) := by
      have : (qv.drop i)[0]? = some (.int n tn) := by rw [hd]; rfl
      rw [List.getElem?_drop] at this
      simpa using this
    have hd' : qv.drop (i + 1) = rest := by
      have := congrArg List.tail hd
      simpa [List.tail_drop] using this
    refine la_turn prog d P b1 b2 hT hr hx (by lia) (by lia) fun κ τ tt t1 r X hr' hne' => ?_
    refine Tri.sub (List.sublist_append_left _ _) ?_
    have hk := ibx_lt n
    have hw := wrS_len (ibr n) hk
    have la : (tx ++ wrS (ibx n) (ibr n)).length = tx.length + (wrS (ibx n) (ibr n)).length := Array.size_append ..
    refine (la_loop rest ns (i + 1) (bv ++ [.str (B (ibx n)) t1]) (ks ++ [ibx n]) (eb + 1) (tx ++ wrS (ibx n) (ibr n)) tt κ τ r hi hd' (hb.append (.cons hk t1 .nil)) hr' (by simp; lia) (by lia) (.inl hne')).mono _ _ (Nat.le_refl _) ?_
    rintro rr H' ⟨f, rfl, rfl, bv', eb', tx', tt', κ, τ, wx, wb, hb', htx, rfl⟩
    refine ⟨.next, rfl, rfl, bv', eb', tx', tt', κ, τ, wx, wb, by simpa using hb', ?_, rfl⟩
    have ea : (tx ++ wrS (ibx n) (ibr n)).cps.toList = tx.cps.toList ++ wrL n := Array.toList_append ..
    rw [htx, ea]
    simp
end
noncomputable def tdC : PySem.Expr := asV (stAt 16 4)
noncomputable def tdC2 : PySem.Expr := cmL (ifT (stAt 16 10))
noncomputable def tdStart (e : PySem.Expr) (P : Params) (L C D it acc : Nat) : Code := .compStart e 0 (.ref it) (.ref acc) (compEnv (laEnv P L C) (lcS e) D)
noncomputable def tdLoop (e : PySem.Expr) (P : Params) (L C D it acc : Nat) : Code := .compLoop e 0 (.ref it) (.ref acc) (compEnv (laEnv P L C) (lcS e) D)
noncomputable def td_st_h : List Hint := []
theorem td_st (prog : Program) (P : Params) (b1 b2 : Bool) (O : Orc) (X : LX) (ln : Int) (tl : Nat) (pb : List Value) (eb : Nat) (sg : List Value) (es : Nat) (C L t it ac D : Nat) (fo : Obj) (tv av : List Value) (et ea i : Nat) (κ : Nat → Int) (τ : Nat → Nat) : Seg (run (eE prog P true b2 O) 7 (td_st_h) (.root (denoteZ (tdStart tdC P L C D it ac))) ⟨lexS X ln tl pb eb sg es ++ [wS C (celO (.ref X.I)), wS L fo, wS t (lst tv et), wS it (itL t i), wS ac (lst av ea), wS D (dct κ τ [])], 0, 0, 0⟩)
    [] (.pure (.again (tdLoop tdC P L C D it ac))) (lexS X ln tl pb eb sg es ++ [wS (C) (celO (.ref X.I)), wS (L) fo, wS (t) (lst (tv) (et)), wS (it) (itL t i), wS (ac) (lst (av) (ea)), wS (D) (dct κ τ [])]) := sg5 (by kernel_rfl)
theorem td_st_ok (prog : Program) (d : Source → Nat → Nat) (P : Params) (b1 b2 : Bool) {T : Tops} (hT : ∀ a o, (topT P).get a = some o → T a o) {lv : Nat} (hl : 1 ≤ lv) : HsOk prog (wd d P true b2) T lv (td_st_h) := trivial
theorem td_st_x (prog : Program) (d : Source → Nat → Nat) (P : Params) (b1 b2 : Bool) {T : Tops} (hT : ∀ a o, (topT P).get a = some o → T a o) {lv : Nat} (hl : 1 ≤ lv) {X : LX} {ln : Int} {tl : Nat} {pb : List Value} {eb : Nat} {sg : List Value} {es : Nat} {C L t it ac D : Nat} {fo : Obj} {tv av : List Value} {et ea i : Nat} {κ : Nat → Int} {τ : Nat → Nat} {Φ : Result → List Slot → Prop} (hn : ∀ O : Orc, Tri prog (wd d P true b2) (lv + 1) T (tdLoop tdC P L C D it ac) (lexS X ln tl pb eb sg es ++ [wS (C) (celO (.ref X.I)), wS (L) fo, wS (t) (lst (tv) (et)), wS (it) (itL t i), wS (ac) (lst (av) (ea)), wS (D) (dct κ τ [])]) Φ) : Tri prog (wd d P true b2) (lv + 1) T (tdStart tdC P L C D it ac) (lexS X ln tl pb eb sg es ++ [wS C (celO (.ref X.I)), wS L fo, wS t (lst tv et), wS it (itL t i), wS ac (lst av ea), wS D (dct κ τ [])]) Φ :=
  tri_again hT (lv := lv) rfl (td_st_ok prog d P b1 b2 hT hl  ) (fun O => td_st prog P b1 b2 O X ln tl pb eb sg es C L t it ac D fo tv av et ea i κ τ) (fun O => mem0) (fun _ => rfl) hn
noncomputable def td_sf_h : List Hint := [.slot 12, .slot 12, .call, .slot 12, .slot 12]
theorem td_sf (prog : Program) (P : Params) (b1 b2 : Bool) (O : Orc) (X : LX) (ln : Int) (tl : Nat) (pb : List Value) (eb : Nat) (sg : List Value) (es : Nat) (C L t it ac D : Nat) (fo : Obj) (tv av : List Value) (et ea i : Nat) (κ : Nat → Int) (τ : Nat → Nat) : Seg (run (eE prog P false b2 O) 17 (td_sf_h) (.root (denoteZ (tdStart tdC P L C D it ac))) ⟨lexS X ln tl pb eb sg es ++ [wS C (celO (.ref X.I)), wS L fo, wS t (lst tv et), wS it (itL t i), wS ac (lst av ea), wS D (dct κ τ [])], 0, 0, 0⟩)
    [] (.pure (.again (tdLoop tdC P L C D it ac))) (lexS X ln tl pb eb sg es ++ [wS (C) (celO (.ref X.I)), wS (L) fo, wS (t) (lst (tv) (et)), wS (it) (itL t i), wS (ac) (lst (av) (ea)), wS (D) (dct κ τ [])]) := by cases b2 <;> exact sg5 (by kernel_rfl)
theorem td_sf_ok (prog : Program) (d : Source → Nat → Nat) (P : Params) (b1 b2 : Bool) {T : Tops} (hT : ∀ a o, (topT P).get a = some o → T a o) {lv : Nat} (hl : 1 ≤ lv) : HsOk prog (wd d P false b2) T lv (td_sf_h) := trivial
theorem td_sf_x (prog : Program) (d : Source → Nat → Nat) (P : Params) (b1 b2 : Bool) {T : Tops} (hT : ∀ a o, (topT P).get a = some o → T a o) {lv : Nat} (hl : 1 ≤ lv) {X : LX} {ln : Int} {tl : Nat} {pb : List Value} {eb : Nat} {sg : List Value} {es : Nat} {C L t it ac D : Nat} {fo : Obj} {tv av : List Value} {et ea i : Nat} {κ : Nat → Int} {τ : Nat → Nat} {Φ : Result → List Slot → Prop} (hn : ∀ O : Orc, Tri prog (wd d P false b2) (lv + 1) T (tdLoop tdC P L C D it ac) (lexS X ln tl pb eb sg es ++ [wS (C) (celO (.ref X.I)), wS (L) fo, wS (t) (lst (tv) (et)), wS (it) (itL t i), wS (ac) (lst (av) (ea)), wS (D) (dct κ τ [])]) Φ) : Tri prog (wd d P false b2) (lv + 1) T (tdStart tdC P L C D it ac) (lexS X ln tl pb eb sg es ++ [wS C (celO (.ref X.I)), wS L fo, wS t (lst tv et), wS it (itL t i), wS ac (lst av ea), wS D (dct κ τ [])]) Φ :=
  tri_again hT (lv := lv) rfl (td_sf_ok prog d P b1 b2 hT hl  ) (fun O => td_sf prog P b1 b2 O X ln tl pb eb sg es C L t it ac D fo tv av et ea i κ τ) (fun O => mem0) (fun _ => rfl) hn
noncomputable def td_t0_h (sx : Str) (tx : Nat) (k : Nat) (bare : Bool) (rest : List Value) (σ : Nat → Nat) (sk : Str) : List Hint := [.slot 12, .sum (hLNext 12 11 (.str sx tx)), .slot 14, .slot 14, .slot 9, .slot 0, .top, .top, .top, .slot 0, .top, .top, .top, .slot 0, .top, .top, .top, .top, .slot 0, .slot 1, .top, .sum (hTokB 0 k bare rest σ sk), .sum (hLApp 13)]
theorem td_t0 (prog : Program) (P : Params) (b1 b2 : Bool) (O : Orc) (X : LX) (ln : Int) (tl : Nat) (pb : List Value) (eb : Nat) (sg : List Value) (es : Nat) (C L t it ac D : Nat) (fo : Obj) (tv av : List Value) (et ea i : Nat) (κ : Nat → Int) (τ : Nat → Nat) (sx : Str) (tx : Nat) (k : Nat) (bare : Bool) (rest : List Value) (σ : Nat → Nat) (sk : Str) : Seg (run (eE prog P b1 b2 O) 40 (td_t0_h sx tx k bare rest σ sk) (.root (denoteZ (tdLoop tdC P L C D it ac))) ⟨lexS X ln tl [] eb (rest ++ (sgn σ 0 (wr k bare)).reverse) es ++ [wS C (celO (.ref X.I)), wS L fo, wS t (lst tv et), wS it (itL t i), wS ac (lst av ea), wS D (dct κ τ [])], 0, 0, 0⟩)
    [tv[i]? = some (.str sx tx), X.ok, k < 5, bare = true → k ≠ 0, rest.length < 90000, sk = B k, av.length < 1000000] (.pure (.again (tdLoop tdC P L C D it ac))) (lexS X (ln + nlB k) (O.tok 2) [] eb rest (es + (wr k bare).length) ++ [wS (C) (celO (.ref X.I)), wS (L) fo, wS (t) (lst (tv) (et)), wS (it) (itL t (i + 1)), wS (ac) (lst (av ++ [Value.str sk (O.2 1)]) (ea + 1)), wS (D) (dct (ext zeroI 0 [hz prog (mkP P b1 b2) s_box]) (ext zeroN 0 [(O.tok 0)]) [(s_box, .str sx (tx))])]) := sg5 (by kernel_rfl)
theorem td_t0_ok (prog : Program) (d : Source → Nat → Nat) (P : Params) (b1 b2 : Bool) {T : Tops} (hT : ∀ a o, (topT P).get a = some o → T a o) {lv : Nat} (hl : 4 ≤ lv) (sx : Str) (tx : Nat) (k : Nat) (bare : Bool) (rest : List Value) (σ : Nat → Nat) (sk : Str) : HsOk prog (wd d P b1 b2) T lv (td_t0_h sx tx k bare rest σ sk) := ⟨(hLNext_ok prog _ _ _ _).mono _ _ _ (lw hl), (hTokB_ok prog d P b1 b2 hT _ _ _ _ _ _).mono _ _ _ (lw hl), (hLApp_ok _).mono _ _ _ (lw hl), trivial⟩
theorem td_t0_x (prog : Program) (d : Source → Nat → Nat) (P : Params) (b1 b2 : Bool) {T : Tops} (hT : ∀ a o, (topT P).get a = some o → T a o) {lv : Nat} (hl : 4 ≤ lv) {X : LX} {ln : Int} {tl : Nat} {pb : List Value} {eb : Nat} {sg : List Value} {es : Nat} {C L t it ac D : Nat} {fo : Obj} {tv av : List Value} {et ea i : Nat} {κ : Nat → Int} {τ : Nat → Nat} {sx : Str} {tx : Nat} {k : Nat} {bare : Bool} {rest : List Value} {σ : Nat → Nat} {sk : Str} (c0 : tv[i]? = some (.str sx tx)) (c1 : X.ok) (c2 : k < 5) (c3 : bare = true → k ≠ 0) (c4 : rest.length < 90000) (c5 : sk = B k) (c6 : av.length < 1000000) {Φ : Result → List Slot → Prop} (hn : ∀ O : Orc, Tri prog (wd d P b1 b2) (lv + 1) T (tdLoop tdC P L C D it ac) (lexS X (ln + nlB k) (O.tok 2) [] eb rest (es + (wr k bare).length) ++ [wS (C) (celO (.ref X.I)), wS (L) fo, wS (t) (lst (tv) (et)), wS (it) (itL t (i + 1)), wS (ac) (lst (av ++ [Value.str sk (O.2 1)]) (ea + 1)), wS (D) (dct (ext zeroI 0 [hz prog (mkP P b1 b2) s_box]) (ext zeroN 0 [(O.tok 0)]) [(s_box, .str sx (tx))])]) Φ) : Tri prog (wd d P b1 b2) (lv + 1) T (tdLoop tdC P L C D it ac) (lexS X ln tl [] eb (rest ++ (sgn σ 0 (wr k bare)).reverse) es ++ [wS C (celO (.ref X.I)), wS L fo, wS t (lst tv et), wS it (itL t i), wS ac (lst av ea), wS D (dct κ τ [])]) Φ :=
  tri_again hT (lv := lv) rfl (td_t0_ok prog d P b1 b2 hT hl sx tx k bare rest σ sk ) (fun O => td_t0 prog P b1 b2 O X ln tl pb eb sg es C L t it ac D fo tv av et ea i κ τ sx tx k bare rest σ sk) (fun O => (k7 c0 c1 c2 c3 c4 c5 c6)) (fun _ => rfl) hn
noncomputable def td_t1_h (sx : Str) (tx : Nat) (k : Nat) (bare : Bool) (rest : List Value) (σ : Nat → Nat) (sk : Str) : List Hint := [.slot 12, .sum (hLNext 12 11 (.str sx tx)), .slot 14, .slot 14, .slot 9, .slot 0, .top, .top, .top, .slot 0, .top, .top, .top, .slot 0, .top, .top, .top, .top, .slot 0, .slot 1, .top, .sum (hTokB 0 k bare rest σ sk), .sum (hLApp 13)]
theorem td_t1 (prog : Program) (P : Params) (b1 b2 : Bool) (O : Orc) (X : LX) (ln : Int) (tl : Nat) (pb : List Value) (eb : Nat) (sg : List Value) (es : Nat) (C L t it ac D : Nat) (fo : Obj) (tv av : List Value) (et ea i : Nat) (κ : Nat → Int) (τ : Nat → Nat) (wb : Value) (sx : Str) (tx : Nat) (k : Nat) (bare : Bool) (rest : List Value) (σ : Nat → Nat) (sk : Str) : Seg (run (eE prog P b1 b2 O) 40 (td_t1_h sx tx k bare rest σ sk) (.root (denoteZ (tdLoop tdC P L C D it ac))) ⟨lexS X ln tl [] eb (rest ++ (sgn σ 0 (wr k bare)).reverse) es ++ [wS C (celO (.ref X.I)), wS L fo, wS t (lst tv et), wS it (itL t i), wS ac (lst av ea), wS D (dct κ τ [(s_box, wb)])], 0, 0, 0⟩)
    [tv[i]? = some (.str sx tx), X.ok, k < 5, bare = true → k ≠ 0, rest.length < 90000, sk = B k, av.length < 1000000] (.pure (.again (tdLoop tdC P L C D it ac))) (lexS X (ln + nlB k) (O.tok 2) [] eb rest (es + (wr k bare).length) ++ [wS (C) (celO (.ref X.I)), wS (L) fo, wS (t) (lst (tv) (et)), wS (it) (itL t (i + 1)), wS (ac) (lst (av ++ [Value.str sk (O.2 1)]) (ea + 1)), wS (D) (dct κ τ [(s_box, .str sx (tx))])]) := sg5 (by kernel_rfl)
theorem td_t1_ok (prog : Program) (d : Source → Nat → Nat) (P : Params) (b1 b2 : Bool) {T : Tops} (hT : ∀ a o, (topT P).get a = some o → T a o) {lv : Nat} (hl : 4 ≤ lv) (sx : Str) (tx : Nat) (k : Nat) (bare : Bool) (rest : List Value) (σ : Nat → Nat) (sk : Str) : HsOk prog (wd d P b1 b2) T lv (td_t1_h sx tx k bare rest σ sk) := ⟨(hLNext_ok prog _ _ _ _).mono _ _ _ (lw hl), (hTokB_ok prog d P b1 b2 hT _ _ _ _ _ _).mono _ _ _ (lw hl), (hLApp_ok _).mono _ _ _ (lw hl), trivial⟩
theorem td_t1_x (prog : Program) (d : Source → Nat → Nat) (P : Params) (b1 b2 : Bool) {T : Tops} (hT : ∀ a o, (topT P).get a = some o → T a o) {lv : Nat} (hl : 4 ≤ lv) {X : LX} {ln : Int} {tl : Nat} {pb : List Value} {eb : Nat} {sg : List Value} {es : Nat} {C L t it ac D : Nat} {fo : Obj} {tv av : List Value} {et ea i : Nat} {κ : Nat → Int} {τ : Nat → Nat} {wb : Value} {sx : Str} {tx : Nat} {k : Nat} {bare : Bool} {rest : List Value} {σ : Nat → Nat} {sk : Str} (c0 : tv[i]? = some (.str sx tx)) (c1 : X.ok) (c2 : k < 5) (c3 : bare = true → k ≠ 0) (c4 : rest.length < 90000) (c5 : sk = B k) (c6 : av.length < 1000000) {Φ : Result → List Slot → Prop} (hn : ∀ O : Orc, Tri prog (wd d P b1 b2) (lv + 1) T (tdLoop tdC P L C D it ac) (lexS X (ln + nlB k) (O.tok 2) [] eb rest (es + (wr k bare).length) ++ [wS (C) (celO (.ref X.I)), wS (L) fo, wS (t) (lst (tv) (et)), wS (it) (itL t (i + 1)), wS (ac) (lst (av ++ [Value.str sk (O.2 1)]) (ea + 1)), wS (D) (dct κ τ [(s_box, .str sx (tx))])]) Φ) : Tri prog (wd d P b1 b2) (lv + 1) T (tdLoop tdC P L C D it ac) (lexS X ln tl [] eb (rest ++ (sgn σ 0 (wr k bare)).reverse) es ++ [wS C (celO (.ref X.I)), wS L fo, wS t (lst tv et), wS it (itL t i), wS ac (lst av ea), wS D (dct κ τ [(s_box, wb)])]) Φ :=
  tri_again hT (lv := lv) rfl (td_t1_ok prog d P b1 b2 hT hl sx tx k bare rest σ sk ) (fun O => td_t1 prog P b1 b2 O X ln tl pb eb sg es C L t it ac D fo tv av et ea i κ τ wb sx tx k bare rest σ sk) (fun O => (k7 c0 c1 c2 c3 c4 c5 c6)) (fun _ => rfl) hn
noncomputable def td_x1_h : List Hint := [.slot 12, .sum (hLStop 12 11), .slot 16]
theorem td_x1 (prog : Program) (P : Params) (b1 b2 : Bool) (O : Orc) (X : LX) (ln : Int) (tl : Nat) (pb : List Value) (eb : Nat) (sg : List Value) (es : Nat) (C L t it ac D : Nat) (fo : Obj) (tv av : List Value) (et ea i : Nat) (κ : Nat → Int) (τ : Nat → Nat) (wb : Value) : Seg (run (eE prog P b1 b2 O) 10 (td_x1_h) (.root (denoteZ (tdLoop tdC P L C D it ac))) ⟨lexS X ln tl pb eb sg es ++ [wS C (celO (.ref X.I)), wS L fo, wS t (lst tv et), wS it (itL t i), wS ac (lst av ea), wS D (dct κ τ [(s_box, wb)])], 0, 0, 0⟩)
    [tv[i]? = none] (.pure (.done .next)) (lexS X ln tl pb eb sg es ++ [wS (C) (celO (.ref X.I)), wS (L) fo, wS (t) (lst (tv) (et)), wS (it) (itLx i), wS (ac) (lst (av) (ea)), wS (D) (dct κ τ [(s_box, wb)]), wS (O.addr 0) tup0, wS (O.addr 1) (stopObj (O.addr 0))]) := sg5 (by kernel_rfl)
theorem td_x1_ok (prog : Program) (d : Source → Nat → Nat) (P : Params) (b1 b2 : Bool) {T : Tops} (hT : ∀ a o, (topT P).get a = some o → T a o) {lv : Nat} (hl : 1 ≤ lv) : HsOk prog (wd d P b1 b2) T lv (td_x1_h) := ⟨(hLStop_ok prog _ _ _).mono _ _ _ (lw hl), trivial⟩
theorem td_x1_x (prog : Program) (d : Source → Nat → Nat) (P : Params) (b1 b2 : Bool) {T : Tops} (hT : ∀ a o, (topT P).get a = some o → T a o) {lv : Nat} (hl : 1 ≤ lv) {X : LX} {ln : Int} {tl : Nat} {pb : List Value} {eb : Nat} {sg : List Value} {es : Nat} {C L t it ac D : Nat} {fo : Obj} {tv av : List Value} {et ea i : Nat} {κ : Nat → Int} {τ : Nat → Nat} {wb : Value} (c0 : tv[i]? = none) {Φ : Result → List Slot → Prop} (hn : ∀ O : Orc, Φ (.ok .next) (lexS X ln tl pb eb sg es ++ [wS (C) (celO (.ref X.I)), wS (L) fo, wS (t) (lst (tv) (et)), wS (it) (itLx i), wS (ac) (lst (av) (ea)), wS (D) (dct κ τ [(s_box, wb)]), wS (O.addr 0) tup0, wS (O.addr 1) (stopObj (O.addr 0))])) : Tri prog (wd d P b1 b2) (lv + 1) T (tdLoop tdC P L C D it ac) (lexS X ln tl pb eb sg es ++ [wS C (celO (.ref X.I)), wS L fo, wS t (lst tv et), wS it (itL t i), wS ac (lst av ea), wS D (dct κ τ [(s_box, wb)])]) Φ :=
  tri_done hT (lv := lv) rfl (td_x1_ok prog d P b1 b2 hT hl  ) (fun O => td_x1 prog P b1 b2 O X ln tl pb eb sg es C L t it ac D fo tv av et ea i κ τ wb) (fun O => (k1 c0)) hn
noncomputable def ue_st_h : List Hint := []
theorem ue_st (prog : Program) (P : Params) (b1 b2 : Bool) (O : Orc) (X : LX) (ln : Int) (tl : Nat) (pb : List Value) (eb : Nat) (sg : List Value) (es : Nat) (C L t it ac D : Nat) (fo : Obj) (tv av : List Value) (et ea i : Nat) (κ : Nat → Int) (τ : Nat → Nat) : Seg (run (eE prog P true b2 O) 7 (ue_st_h) (.root (denoteZ (tdStart tdC2 P L C D it ac))) ⟨lexS X ln tl pb eb sg es ++ [wS C (celO (.ref X.I)), wS L fo, wS t (lst tv et), wS it (itL t i), wS ac (lst av ea), wS D (dct κ τ [])], 0, 0, 0⟩)
    [] (.pure (.again (tdLoop tdC2 P L C D it ac))) (lexS X ln tl pb eb sg es ++ [wS (C) (celO (.ref X.I)), wS (L) fo, wS (t) (lst (tv) (et)), wS (it) (itL t i), wS (ac) (lst (av) (ea)), wS (D) (dct κ τ [])]) := sg5 (by kernel_rfl)
theorem ue_st_ok (prog : Program) (d : Source → Nat → Nat) (P : Params) (b1 b2 : Bool) {T : Tops} (hT : ∀ a o, (topT P).get a = some o → T a o) {lv : Nat} (hl : 1 ≤ lv) : HsOk prog (wd d P true b2) T lv (ue_st_h) := trivial
theorem ue_st_x (prog : Program) (d : Source → Nat → Nat) (P : Params) (b1 b2 : Bool) {T : Tops} (hT : ∀ a o, (topT P).get a = some o → T a o) {lv : Nat} (hl : 1 ≤ lv) {X : LX} {ln : Int} {tl : Nat} {pb : List Value} {eb : Nat} {sg : List Value} {es : Nat} {C L t it ac D : Nat} {fo : Obj} {tv av : List Value} {et ea i : Nat} {κ : Nat → Int} {τ : Nat → Nat} {Φ : Result → List Slot → Prop} (hn : ∀ O : Orc, Tri prog (wd d P true b2) (lv + 1) T (tdLoop tdC2 P L C D it ac) (lexS X ln tl pb eb sg es ++ [wS (C) (celO (.ref X.I)), wS (L) fo, wS (t) (lst (tv) (et)), wS (it) (itL t i), wS (ac) (lst (av) (ea)), wS (D) (dct κ τ [])]) Φ) : Tri prog (wd d P true b2) (lv + 1) T (tdStart tdC2 P L C D it ac) (lexS X ln tl pb eb sg es ++ [wS C (celO (.ref X.I)), wS L fo, wS t (lst tv et), wS it (itL t i), wS ac (lst av ea), wS D (dct κ τ [])]) Φ :=
  tri_again hT (lv := lv) rfl (ue_st_ok prog d P b1 b2 hT hl  ) (fun O => ue_st prog P b1 b2 O X ln tl pb eb sg es C L t it ac D fo tv av et ea i κ τ) (fun O => mem0) (fun _ => rfl) hn
noncomputable def ue_sf_h : List Hint := [.slot 12, .slot 12, .call, .slot 12, .slot 12]
theorem ue_sf (prog : Program) (P : Params) (b1 b2 : Bool) (O : Orc) (X : LX) (ln : Int) (tl : Nat) (pb : List Value) (eb : Nat) (sg : List Value) (es : Nat) (C L t it ac D : Nat) (fo : Obj) (tv av : List Value) (et ea i : Nat) (κ : Nat → Int) (τ : Nat → Nat) : Seg (run (eE prog P false b2 O) 17 (ue_sf_h) (.root (denoteZ (tdStart tdC2 P L C D it ac))) ⟨lexS X ln tl pb eb sg es ++ [wS C (celO (.ref X.I)), wS L fo, wS t (lst tv et), wS it (itL t i), wS ac (lst av ea), wS D (dct κ τ [])], 0, 0, 0⟩)
    [] (.pure (.again (tdLoop tdC2 P L C D it ac))) (lexS X ln tl pb eb sg es ++ [wS (C) (celO (.ref X.I)), wS (L) fo, wS (t) (lst (tv) (et)), wS (it) (itL t i), wS (ac) (lst (av) (ea)), wS (D) (dct κ τ [])]) := by cases b2 <;> exact sg5 (by kernel_rfl)
theorem ue_sf_ok (prog : Program) (d : Source → Nat → Nat) (P : Params) (b1 b2 : Bool) {T : Tops} (hT : ∀ a o, (topT P).get a = some o → T a o) {lv : Nat} (hl : 1 ≤ lv) : HsOk prog (wd d P false b2) T lv (ue_sf_h) := trivial
theorem ue_sf_x (prog : Program) (d : Source → Nat → Nat) (P : Params) (b1 b2 : Bool) {T : Tops} (hT : ∀ a o, (topT P).get a = some o → T a o) {lv : Nat} (hl : 1 ≤ lv) {X : LX} {ln : Int} {tl : Nat} {pb : List Value} {eb : Nat} {sg : List Value} {es : Nat} {C L t it ac D : Nat} {fo : Obj} {tv av : List Value} {et ea i : Nat} {κ : Nat → Int} {τ : Nat → Nat} {Φ : Result → List Slot → Prop} (hn : ∀ O : Orc, Tri prog (wd d P false b2) (lv + 1) T (tdLoop tdC2 P L C D it ac) (lexS X ln tl pb eb sg es ++ [wS (C) (celO (.ref X.I)), wS (L) fo, wS (t) (lst (tv) (et)), wS (it) (itL t i), wS (ac) (lst (av) (ea)), wS (D) (dct κ τ [])]) Φ) : Tri prog (wd d P false b2) (lv + 1) T (tdStart tdC2 P L C D it ac) (lexS X ln tl pb eb sg es ++ [wS C (celO (.ref X.I)), wS L fo, wS t (lst tv et), wS it (itL t i), wS ac (lst av ea), wS D (dct κ τ [])]) Φ :=
  tri_again hT (lv := lv) rfl (ue_sf_ok prog d P b1 b2 hT hl  ) (fun O => ue_sf prog P b1 b2 O X ln tl pb eb sg es C L t it ac D fo tv av et ea i κ τ) (fun O => mem0) (fun _ => rfl) hn
noncomputable def ue_t0_h (sx : Str) (tx : Nat) : List Hint := [.slot 12, .sum (hLNext 12 11 (.str sx tx)), .slot 14, .slot 14, .slot 9, .slot 0, .top, .top, .top, .slot 0, .top, .top, .top, .slot 0, .top, .top, .top, .top, .slot 0, .slot 1, .top, .sum (hTokP 0), .sum (hLApp 13)]
theorem ue_t0 (prog : Program) (P : Params) (b1 b2 : Bool) (O : Orc) (X : LX) (ln : Int) (tl : Nat) (pb : List Value) (eb : Nat) (sg : List Value) (es : Nat) (C L t it ac D : Nat) (fo : Obj) (tv av : List Value) (et ea i : Nat) (κ : Nat → Int) (τ : Nat → Nat) (sx : Str) (tx : Nat) (sv : Str) (tw : Nat) : Seg (run (eE prog P b1 b2 O) 40 (ue_t0_h sx tx) (.root (denoteZ (tdLoop tdC2 P L C D it ac))) ⟨lexS X ln tl (.str sv tw :: pb) eb sg es ++ [wS C (celO (.ref X.I)), wS L fo, wS t (lst tv et), wS it (itL t i), wS ac (lst av ea), wS D (dct κ τ [])], 0, 0, 0⟩)
    [tv[i]? = some (.str sx tx), X.ok, pb.length < 90000, av.length < 1000000] (.pure (.again (tdLoop tdC2 P L C D it ac))) (lexS X ln tl pb (eb + 1) sg es ++ [wS (C) (celO (.ref X.I)), wS (L) fo, wS (t) (lst (tv) (et)), wS (it) (itL t (i + 1)), wS (ac) (lst (av ++ [Value.str sv tw]) (ea + 1)), wS (D) (dct (ext zeroI 0 [hz prog (mkP P b1 b2) s_box]) (ext zeroN 0 [(O.tok 0)]) [(s_box, .str sx (tx))])]) := sg5 (by kernel_rfl)
theorem ue_t0_ok (prog : Program) (d : Source → Nat → Nat) (P : Params) (b1 b2 : Bool) {T : Tops} (hT : ∀ a o, (topT P).get a = some o → T a o) {lv : Nat} (hl : 4 ≤ lv) (sx : Str) (tx : Nat) : HsOk prog (wd d P b1 b2) T lv (ue_t0_h sx tx) := ⟨(hLNext_ok prog _ _ _ _).mono _ _ _ (lw hl), (hTokP_ok prog d P b1 b2 hT _).mono _ _ _ (lw hl), (hLApp_ok _).mono _ _ _ (lw hl), trivial⟩
theorem ue_t0_x (prog : Program) (d : Source → Nat → Nat) (P : Params) (b1 b2 : Bool) {T : Tops} (hT : ∀ a o, (topT P).get a = some o → T a o) {lv : Nat} (hl : 4 ≤ lv) {X : LX} {ln : Int} {tl : Nat} {pb : List Value} {eb : Nat} {sg : List Value} {es : Nat} {C L t it ac D : Nat} {fo : Obj} {tv av : List Value} {et ea i : Nat} {κ : Nat → Int} {τ : Nat → Nat} {sx : Str} {tx : Nat} {sv : Str} {tw : Nat} (c0 : tv[i]? = some (.str sx tx)) (c1 : X.ok) (c2 : pb.length < 90000) (c3 : av.length < 1000000) {Φ : Result → List Slot → Prop} (hn : ∀ O : Orc, Tri prog (wd d P b1 b2) (lv + 1) T (tdLoop tdC2 P L C D it ac) (lexS X ln tl pb (eb + 1) sg es ++ [wS (C) (celO (.ref X.I)), wS (L) fo, wS (t) (lst (tv) (et)), wS (it) (itL t (i + 1)), wS (ac) (lst (av ++ [Value.str sv tw]) (ea + 1)), wS (D) (dct (ext zeroI 0 [hz prog (mkP P b1 b2) s_box]) (ext zeroN 0 [(O.tok 0)]) [(s_box, .str sx (tx))])]) Φ) : Tri prog (wd d P b1 b2) (lv + 1) T (tdLoop tdC2 P L C D it ac) (lexS X ln tl (.str sv tw :: pb) eb sg es ++ [wS C (celO (.ref X.I)), wS L fo, wS t (lst tv et), wS it (itL t i), wS ac (lst av ea), wS D (dct κ τ [])]) Φ :=
  tri_again hT (lv := lv) rfl (ue_t0_ok prog d P b1 b2 hT hl sx tx ) (fun O => ue_t0 prog P b1 b2 O X ln tl pb eb sg es C L t it ac D fo tv av et ea i κ τ sx tx sv tw) (fun O => (k4 c0 c1 c2 c3)) (fun _ => rfl) hn
noncomputable def ue_t1_h (sx : Str) (tx : Nat) : List Hint := [.slot 12, .sum (hLNext 12 11 (.str sx tx)), .slot 14, .slot 14, .slot 9, .slot 0, .top, .top, .top, .slot 0, .top, .top, .top, .slot 0, .top, .top, .top, .top, .slot 0, .slot 1, .top, .sum (hTokP 0), .sum (hLApp 13)]
theorem ue_t1 (prog : Program) (P : Params) (b1 b2 : Bool) (O : Orc) (X : LX) (ln : Int) (tl : Nat) (pb : List Value) (eb : Nat) (sg : List Value) (es : Nat) (C L t it ac D : Nat) (fo : Obj) (tv av : List Value) (et ea i : Nat) (κ : Nat → Int) (τ : Nat → Nat) (wb : Value) (sx : Str) (tx : Nat) (sv : Str) (tw : Nat) : Seg (run (eE prog P b1 b2 O) 40 (ue_t1_h sx tx) (.root (denoteZ (tdLoop tdC2 P L C D it ac))) ⟨lexS X ln tl (.str sv tw :: pb) eb sg es ++ [wS C (celO (.ref X.I)), wS L fo, wS t (lst tv et), wS it (itL t i), wS ac (lst av ea), wS D (dct κ τ [(s_box, wb)])], 0, 0, 0⟩)
    [tv[i]? = some (.str sx tx), X.ok, pb.length < 90000, av.length < 1000000] (.pure (.again (tdLoop tdC2 P L C D it ac))) (lexS X ln tl pb (eb + 1) sg es ++ [wS (C) (celO (.ref X.I)), wS (L) fo, wS (t) (lst (tv) (et)), wS (it) (itL t (i + 1)), wS (ac) (lst (av ++ [Value.str sv tw]) (ea + 1)), wS (D) (dct κ τ [(s_box, .str sx (tx))])]) := sg5 (by kernel_rfl)
theorem ue_t1_ok (prog : Program) (d : Source → Nat → Nat) (P : Params) (b1 b2 : Bool) {T : Tops} (hT : ∀ a o, (topT P).get a = some o → T a o) {lv : Nat} (hl : 4 ≤ lv) (sx : Str) (tx : Nat) : HsOk prog (wd d P b1 b2) T lv (ue_t1_h sx tx) := ⟨(hLNext_ok prog _ _ _ _).mono _ _ _ (lw hl), (hTokP_ok prog d P b1 b2 hT _).mono _ _ _ (lw hl), (hLApp_ok _).mono _ _ _ (lw hl), trivial⟩
theorem ue_t1_x (prog : Program) (d : Source → Nat → Nat) (P : Params) (b1 b2 : Bool) {T : Tops} (hT : ∀ a o, (topT P).get a = some o → T a o) {lv : Nat} (hl : 4 ≤ lv) {X : LX} {ln : Int} {tl : Nat} {pb : List Value} {eb : Nat} {sg : List Value} {es : Nat} {C L t it ac D : Nat} {fo : Obj} {tv av : List Value} {et ea i : Nat} {κ : Nat → Int} {τ : Nat → Nat} {wb : Value} {sx : Str} {tx : Nat} {sv : Str} {tw : Nat} (c0 : tv[i]? = some (.str sx tx)) (c1 : X.ok) (c2 : pb.length < 90000) (c3 : av.length < 1000000) {Φ : Result → List Slot → Prop} (hn : ∀ O : Orc, Tri prog (wd d P b1 b2) (lv + 1) T (tdLoop tdC2 P L C D it ac) (lexS X ln tl pb (eb + 1) sg es ++ [wS (C) (celO (.ref X.I)), wS (L) fo, wS (t) (lst (tv) (et)), wS (it) (itL t (i + 1)), wS (ac) (lst (av ++ [Value.str sv tw]) (ea + 1)), wS (D) (dct κ τ [(s_box, .str sx (tx))])]) Φ) : Tri prog (wd d P b1 b2) (lv + 1) T (tdLoop tdC2 P L C D it ac) (lexS X ln tl (.str sv tw :: pb) eb sg es ++ [wS C (celO (.ref X.I)), wS L fo, wS t (lst tv et), wS it (itL t i), wS ac (lst av ea), wS D (dct κ τ [(s_box, wb)])]) Φ :=
  tri_again hT (lv := lv) rfl (ue_t1_ok prog d P b1 b2 hT hl sx tx ) (fun O => ue_t1 prog P b1 b2 O X ln tl pb eb sg es C L t it ac D fo tv av et ea i κ τ wb sx tx sv tw) (fun O => (k4 c0 c1 c2 c3)) (fun _ => rfl) hn
noncomputable def ue_x1_h : List Hint := [.slot 12, .sum (hLStop 12 11), .slot 16]
theorem ue_x1 (prog : Program) (P : Params) (b1 b2 : Bool) (O : Orc) (X : LX) (ln : Int) (tl : Nat) (pb : List Value) (eb : Nat) (sg : List Value) (es : Nat) (C L t it ac D : Nat) (fo : Obj) (tv av : List Value) (et ea i : Nat) (κ : Nat → Int) (τ : Nat → Nat) (wb : Value) : Seg (run (eE prog P b1 b2 O) 10 (ue_x1_h) (.root (denoteZ (tdLoop tdC2 P L C D it ac))) ⟨lexS X ln tl pb eb sg es ++ [wS C (celO (.ref X.I)), wS L fo, wS t (lst tv et), wS it (itL t i), wS ac (lst av ea), wS D (dct κ τ [(s_box, wb)])], 0, 0, 0⟩)
    [tv[i]? = none] (.pure (.done .next)) (lexS X ln tl pb eb sg es ++ [wS (C) (celO (.ref X.I)), wS (L) fo, wS (t) (lst (tv) (et)), wS (it) (itLx i), wS (ac) (lst (av) (ea)), wS (D) (dct κ τ [(s_box, wb)]), wS (O.addr 0) tup0, wS (O.addr 1) (stopObj (O.addr 0))]) := sg5 (by kernel_rfl)
theorem ue_x1_ok (prog : Program) (d : Source → Nat → Nat) (P : Params) (b1 b2 : Bool) {T : Tops} (hT : ∀ a o, (topT P).get a = some o → T a o) {lv : Nat} (hl : 1 ≤ lv) : HsOk prog (wd d P b1 b2) T lv (ue_x1_h) := ⟨(hLStop_ok prog _ _ _).mono _ _ _ (lw hl), trivial⟩
theorem ue_x1_x (prog : Program) (d : Source → Nat → Nat) (P : Params) (b1 b2 : Bool) {T : Tops} (hT : ∀ a o, (topT P).get a = some o → T a o) {lv : Nat} (hl : 1 ≤ lv) {X : LX} {ln : Int} {tl : Nat} {pb : List Value} {eb : Nat} {sg : List Value} {es : Nat} {C L t it ac D : Nat} {fo : Obj} {tv av : List Value} {et ea i : Nat} {κ : Nat → Int} {τ : Nat → Nat} {wb : Value} (c0 : tv[i]? = none) {Φ : Result → List Slot → Prop} (hn : ∀ O : Orc, Φ (.ok .next) (lexS X ln tl pb eb sg es ++ [wS (C) (celO (.ref X.I)), wS (L) fo, wS (t) (lst (tv) (et)), wS (it) (itLx i), wS (ac) (lst (av) (ea)), wS (D) (dct κ τ [(s_box, wb)]), wS (O.addr 0) tup0, wS (O.addr 1) (stopObj (O.addr 0))])) : Tri prog (wd d P b1 b2) (lv + 1) T (tdLoop tdC2 P L C D it ac) (lexS X ln tl pb eb sg es ++ [wS C (celO (.ref X.I)), wS L fo, wS t (lst tv et), wS it (itL t i), wS ac (lst av ea), wS D (dct κ τ [(s_box, wb)])]) Φ :=
  tri_done hT (lv := lv) rfl (ue_x1_ok prog d P b1 b2 hT hl  ) (fun O => ue_x1 prog P b1 b2 O X ln tl pb eb sg es C L t it ac D fo tv av et ea i κ τ wb) (fun O => (k1 c0)) hn
theorem sgn_app (τ : Nat → Nat) : ∀ (A R : List Nat) (i : Nat), sgn τ i (A ++ R) = sgn τ i A ++ sgn τ (i + A.length) R
  | [], R, i => by simp [sgn]
  | c :: A, R, i => by
    rw [List.cons_append, sgn, sgn, sgn_app τ A R (i + 1), List.cons_append, List.length_cons, show i + 1 + A.length = i + (A.length + 1) by lia]
theorem sgn_shift (τ : Nat → Nat) : ∀ (R : List Nat) (i j : Nat), sgn τ (i + j) R = sgn (fun n => τ (n + j)) i R
  | [], i, j => rfl
  | c :: R, i, j => by
    rw [sgn, sgn, show i + j + 1 = i + 1 + j by lia, sgn_shift τ R (i + 1) j]
theorem sgn_length (τ : Nat → Nat) : ∀ (R : List Nat) (i : Nat), (sgn τ i R).length = R.length
  | [], i => rfl
  | c :: R, i => by rw [sgn, List.length_cons, sgn_length τ R, List.length_cons]
noncomputable def ibr' (n : Int) : Bool := ibr n && decide (ibx n ≠ 0)
theorem wr_wrS {k : Nat} (hk : k < 5) (b : Bool) : wr k (b && decide (k ≠ 0)) = (wrS k b).cps.toList := by
  rcases (by lia : k = 0 ∨ k = 1 ∨ k = 2 ∨ k = 3 ∨ k = 4) with rfl | rfl | rfl | rfl | rfl <;> cases b <;> rfl
theorem wr_len {k : Nat} (hk : k < 5) (b : Bool) : (wrS k b).cps.toList.length ≤ 4 := wrS_len b hk
noncomputable def nls (ns : List Int) : Int := (ns.map fun n => ((nlB (ibx n) : Nat) : Int)).sum
noncomputable def boxStr : Str := s_box
noncomputable def tdH (X : LX) (ln : Int) (tl : Nat) (pb : List Value) (eb : Nat) (sg : List Value) (es C L t it ac D : Nat) (fo io : Obj) (tv av : List Value) (et ea : Nat) (dd : Obj) : List Slot :=
  lexS X ln tl pb eb sg es ++ [⟨true, C, celO (.ref X.I)⟩, ⟨true, L, fo⟩, ⟨true, t, lst tv et⟩, ⟨true, it, io⟩, ⟨true, ac, lst av ea⟩, ⟨true, D, dd⟩]
noncomputable def tdΦ (X : LX) (ln : Int) (eb0 C L t it ac D : Nat) (fo : Obj) (tv av : List Value) (et : Nat) (ks : List Nat) : Result → List Slot → Prop := fun rr H' =>
  rr = .ok .next ∧ ∃ avn ea tl es eb κ τ w, Bx avn ks ∧ H' = tdH X ln tl [] eb [] es C L t it ac D fo (itLx tv.length) tv (av ++ avn) et ea (dct κ τ [(boxStr, w)])
section
variable (prog : Program) (d : Source → Nat → Nat) (P : Params) (b1 b2 : Bool) {T : Tops} (hT : ∀ a o, (topT P).get a = some o → T a o)
include hT
theorem td_loop {X : LX} (hX : X.ok) {C L t it ac D et : Nat} {fo : Obj} {tv : List Value} : ∀ (rest : List Value) (ns : List Int) (i : Nat) (ln : Int) (tl eb es ea : Nat) (σ : Nat → Nat) (av : List Value) (dd : Obj) , Bx rest (ns.map ibx) → tv.drop i = rest → i + rest.length = tv.length → av.length ≤ i → tv.length < 1000 → (dd = dct zeroI zeroN [] ∧ 0 < rest.length ∨ ∃ κ τ w, dd = dct κ τ [(boxStr, w)]) →
    Tri prog (wd d P b1 b2) 5 T (tdLoop tdC P L C D it ac) (tdH X ln tl [] eb (sgn σ 0 (ns.map wrL).flatten).reverse es C L t it ac D fo (itL t i) tv av et ea dd) (tdΦ X (ln + nls ns) eb C L t it ac D fo tv av et (ns.map ibx))
  | [], ns, i, ln, tl, eb, es, ea, σ, av, dd, hb, hd, hi, hav, hl, hdd => by
    have e0 : ns = [] := by
      have := hb.length
      cases ns with
      | nil => rfl
      | cons n ns => simp at this
    subst e0
    rcases hdd with ⟨_, h⟩ | ⟨κ, τ, w, rfl⟩
    · cases h
    · have ei : i = tv.length := by simpa using hi
      have hx : tv[i]? = none := by rw [List.getElem?_eq_none_iff]; lia
      refine Tri.cov (td_x1_x prog d P b1 b2 hT (lv := 4) (by lia) hx fun O => ⟨tdH X ln tl [] eb [] es C L t it ac D fo (itLx i) tv av et ea (dct κ τ [(boxStr, w)]), ⟨[⟨true, O.addr 0, tup0⟩, ⟨true, O.addr 1, stopObj (O.addr 0)⟩], ?_⟩, rfl, [], ea, tl, es, eb, κ, τ, w, .nil, ?_⟩)
      · show (tdH _ _ _ _ _ _ _ _ _ _ _ _ _ _ _ _ _ _ _ _ ++ _).Perm _
        unfold tdH
        rw [List.append_assoc]
        exact .refl _
      · rw [List.append_nil, ei]
        unfold nls
        simp
  | _ :: rest, [], _, _, _, _, _, _, _, _, _, hb, _, _, _, _, _ => by cases hb
  | _ :: rest, n :: ns, i, ln, tl, eb, es, ea, σ, av, dd, .cons hk t0 hb, hd, hi, hav, hl, hdd => by
    simp only [List.length_cons] at hi
    have hx : tv[i]? = some (.str (B (ibx n)) t0) := by
      have : (tv.drop i)[0]? = some (.str (B (ibx n)) t0) := by rw [hd]; rfl
      rw [List.getElem?_drop] at this
      simpa using this
    have hd' : tv.drop (i + 1) = rest := by
      have := congrArg List.tail hd
      simpa [List.tail_drop] using this
    have hw : wrL n = wr (ibx n) (ibr' n) := (wr_wrS hk (ibr n)).symm
    have hlen : ∀ ns : List Int, (ns.map wrL).flatten.length ≤ 4 * ns.length := by
      intro ns
      induction ns with
      | nil => simp
      | cons n ns ih =>
        simp only [List.map_cons, List.flatten_cons, List.length_append, List.length_cons]
        have := wr_len (ibx_lt n) (ibr n)
        unfold wrL at *
        lia
    have hns := hb.length
    rw [List.length_map] at hns
    have esg : (sgn σ 0 ((n :: ns).map wrL).flatten).reverse = (sgn (fun m => σ (m + (wr (ibx n) (ibr' n)).length)) 0 (ns.map wrL).flatten).reverse ++ (sgn σ 0 (wr (ibx n) (ibr' n))).reverse := by
      rw [List.map_cons, List.flatten_cons, hw, sgn_app, List.reverse_append, sgn_shift]
    rw [esg]
    have hr : ((sgn (fun m => σ (m + (wr (ibx n) (ibr' n)).length)) 0 (ns.map wrL).flatten).reverse).length < 90000 := by
      rw [List.length_reverse, sgn_length]
      have := hlen ns
      lia
    have hbare : ibr' n = true → ibx n ≠ 0 := by
      unfold ibr'
      intro h
      simp at h
      exact h.2
    have go : ∀ (κ : Nat → Int) (τ : Nat → Nat) (w : Value) (t1 tl es : Nat), Tri prog (wd d P b1 b2) 5 T (tdLoop tdC P L C D it ac) (tdH X (ln + nlB (ibx n)) tl [] eb (sgn (fun m => σ (m + (wr (ibx n) (ibr' n)).length)) 0 (ns.map wrL).flatten).reverse es C L t it ac D fo (itL t (i + 1)) tv (av ++ [.str (B (ibx n)) t1]) et (ea + 1) (dct κ τ [(boxStr, w)])) (tdΦ X (ln + nls (n :: ns)) eb C L t it ac D fo tv av et ((n :: ns).map ibx)) := fun κ τ w t1 tl es => by
      refine (td_loop hX rest ns (i + 1) (ln + nlB (ibx n)) tl eb es (ea + 1) _ (av ++ [.str (B (ibx n)) t1]) _ hb hd' (by lia) (by simp; lia) hl (.inr ⟨κ, τ, w, rfl⟩)).mono _ _ (Nat.le_refl _) ?_
      rintro rr H' ⟨rfl, avn, ea', tl', es', eb', κ', τ', w', hv, rfl⟩
      refine ⟨rfl, .str (B (ibx n)) t1 :: avn, ea', tl', es', eb', κ', τ', w', .cons hk t1 hv, ?_⟩
      rw [List.append_assoc]
      unfold nls
      rw [List.map_cons, List.sum_cons, Int.add_assoc]; rfl
    rcases hdd with ⟨rfl, _⟩ | ⟨κ, τ, w, rfl⟩
    · exact td_t0_x prog d P b1 b2 hT (lv := 4) (pb := []) (sg := []) (κ := zeroI) (τ := zeroN) (by lia) hx hX hk hbare hr rfl (by lia) fun O => go _ _ _ _ _ _
    · exact td_t1_x prog d P b1 b2 hT (lv := 4) (pb := []) (sg := []) (by lia) hx hX hk hbare hr rfl (by lia) fun O => go _ _ _ _ _ _
theorem ue_loop {X : LX} (hX : X.ok) {C L t it ac D et : Nat} {fo : Obj} {tv : List Value} {ln : Int} {tl es : Nat} : ∀ (rest : List Value) (ms ks : List Nat) (i : Nat) (eb ea : Nat) (pb av : List Value) (dd : Obj) , Bx rest ms → Bx pb ks → ks.length = ms.length → tv.drop i = rest → i + rest.length = tv.length → av.length ≤ i → tv.length < 1000 → (dd = dct zeroI zeroN [] ∧ 0 < rest.length ∨ ∃ κ τ w, dd = dct κ τ [(boxStr, w)]) →
    Tri prog (wd d P b1 b2) 5 T (tdLoop tdC2 P L C D it ac) (tdH X ln tl pb eb [] es C L t it ac D fo (itL t i) tv av et ea dd) (tdΦ X ln eb C L t it ac D fo tv av et ks)
  | [], ms, ks, i, eb, ea, pb, av, dd, hb, hp, hks, hd, hi, hav, hl, hdd => by
    cases hb
    cases hp with
    | cons => cases hks
    | nil =>
    rcases hdd with ⟨_, h⟩ | ⟨κ, τ, w, rfl⟩
    · cases h
    · have ei : i = tv.length := by simpa using hi
      have hx : tv[i]? = none := by rw [List.getElem?_eq_none_iff]; lia
      refine Tri.cov (ue_x1_x prog d P b1 b2 hT (lv := 4) (by lia) hx fun O => ⟨tdH X ln tl [] eb [] es C L t it ac D fo (itLx i) tv av et ea (dct κ τ [(boxStr, w)]), ⟨[⟨true, O.addr 0, tup0⟩, ⟨true, O.addr 1, stopObj (O.addr 0)⟩], ?_⟩, rfl, [], ea, tl, es, eb, κ, τ, w, .nil, ?_⟩)
      · show (tdH _ _ _ _ _ _ _ _ _ _ _ _ _ _ _ _ _ _ _ _ ++ _).Perm _
        unfold tdH
        rw [List.append_assoc]
        exact .refl _
      · rw [List.append_nil, ei]
  | _ :: rest, _, _, i, eb, ea, pb, av, dd, .cons (k := k) hk t0 (ks := ms) hb, hp, hks, hd, hi, hav, hl, hdd => by
    cases hp with
    | nil => cases hks
    | cons hk2 t2 hp =>
    rename_i k2 pb ks
    simp only [List.length_cons] at hi hks
    have hx : tv[i]? = some (.str (B k) t0) := by
      have : (tv.drop i)[0]? = some (.str (B k) t0) := by rw [hd]; rfl
      rw [List.getElem?_drop] at this
      simpa using this
    have hd' : tv.drop (i + 1) = rest := by
      have := congrArg List.tail hd
      simpa [List.tail_drop] using this
    have l1 := hb.length
    have l2 := hp.length
    have go : ∀ (κ : Nat → Int) (τ : Nat → Nat) (w : Value), Tri prog (wd d P b1 b2) 5 T (tdLoop tdC2 P L C D it ac) (tdH X ln tl pb (eb + 1) [] es C L t it ac D fo (itL t (i + 1)) tv (av ++ [.str (B k2) t2]) et (ea + 1) (dct κ τ [(boxStr, w)])) (tdΦ X ln eb C L t it ac D fo tv av et (k2 :: ks)) := fun κ τ w => by
      refine (ue_loop hX rest ms ks (i + 1) (eb + 1) (ea + 1) pb (av ++ [.str (B k2) t2]) _ hb hp (by lia) hd' (by lia) (by simp; lia) hl (.inr ⟨κ, τ, w, rfl⟩)).mono _ _ (Nat.le_refl _) ?_
      rintro rr H' ⟨rfl, avn, ea', tl', es', eb', κ', τ', w', hv, rfl⟩
      refine ⟨rfl, .str (B k2) t2 :: avn, ea', tl', es', eb', κ', τ', w', .cons hk2 t2 hv, ?_⟩
      rw [List.append_assoc]; rfl
    rcases hdd with ⟨rfl, _⟩ | ⟨κ, τ, w, rfl⟩
    · exact ue_t0_x prog d P b1 b2 hT (lv := 4) (κ := zeroI) (τ := zeroN) (by lia) hx hX (by lia) (by lia) fun O => go _ _ _
    · exact ue_t1_x prog d P b1 b2 hT (lv := 4) (by lia) hx hX (by lia) (by lia) fun O => go _ _ _
end
section
variable (prog : Program) (d : Source → Nat → Nat) (P : Params) (b1 b2 : Bool) {T : Tops} (hT : ∀ a o, (topT P).get a = some o → T a o)
include hT
theorem td_start {X : LX} (hX : X.ok) {C L t it ac D et : Nat} {fo : Obj} {tv : List Value} {ns : List Int} {ln : Int} {tl eb es : Nat} {σ : Nat → Nat} (hb : Bx tv (ns.map ibx)) (h0 : 0 < ns.length) (hl : ns.length < 500) :
    Tri prog (wd d P b1 b2) 5 T (tdStart tdC P L C D it ac) (tdH X ln tl [] eb (sgn σ 0 (ns.map wrL).flatten).reverse es C L t it ac D fo (itL t 0) tv [] et 0 (dct zeroI zeroN [])) (tdΦ X (ln + nls ns) eb C L t it ac D fo tv [] et (ns.map ibx)) := by
  have len := hb.length
  rw [List.length_map] at len
  have := td_loop prog d P b1 b2 hT hX (C := C) (L := L) (t := t) (it := it) (ac := ac) (D := D) (et := et) (fo := fo) tv ns 0 ln tl eb es 0 σ [] (dct zeroI zeroN []) hb rfl (by lia) (by simp) (by lia) (.inl ⟨rfl, by lia⟩)
  cases b1
  · exact td_sf_x prog d P true b2 hT (lv := 4) (κ := zeroI) (τ := zeroN) (by lia) fun O => this
  · exact td_st_x prog d P true b2 hT (lv := 4) (κ := zeroI) (τ := zeroN) (by lia) fun O => this
theorem ue_start {X : LX} (hX : X.ok) {C L t it ac D et : Nat} {fo : Obj} {tv pb : List Value} {ms ks : List Nat} {ln : Int} {tl eb es : Nat} (hb : Bx tv ms) (hp : Bx pb ks) (hk : ks.length = ms.length) (h0 : 0 < ks.length) (hl : ks.length < 500) :
    Tri prog (wd d P b1 b2) 5 T (tdStart tdC2 P L C D it ac) (tdH X ln tl pb eb [] es C L t it ac D fo (itL t 0) tv [] et 0 (dct zeroI zeroN [])) (tdΦ X ln eb C L t it ac D fo tv [] et ks) := by
  have len := hb.length
  have := ue_loop prog d P b1 b2 hT hX (C := C) (L := L) (t := t) (it := it) (ac := ac) (D := D) (et := et) (fo := fo) (ln := ln) (tl := tl) (es := es) tv ms ks 0 eb 0 pb [] (dct zeroI zeroN []) hb hp hk rfl (by lia) (by simp) (by lia) (.inl ⟨rfl, by lia⟩)
  cases b1
  · exact ue_sf_x prog d P true b2 hT (lv := 4) (κ := zeroI) (τ := zeroN) (by lia) fun O => this
  · exact ue_st_x prog d P true b2 hT (lv := 4) (κ := zeroI) (τ := zeroN) (by lia) fun O => this
end
noncomputable def tdIn (H : List Slot) (pb sg tv : List Value) (et : Nat) : List Slot :=
  tdH (lxOf H 0) (lxLn H 0) (lxTl H 0) pb (lxEb H 0) sg (lxEs H 0) (slA H 9) (slA H 10) (slA H 11) (slA H 12) (slA H 13) (slA H 14) (slO H 10) (itL (slA H 11) 0) tv [] et 0 (dct zeroI zeroN [])
noncomputable def tdOut (H : List Slot) (ln : Int) (tv : List Value) (et : Nat) (ts : List Nat) (fs : List FrX) : List Slot :=
  tdH (lxOf H 0) ln (ts.getD 0 0) [] (ts.getD 3 0) [] (ts.getD 1 0) (slA H 9) (slA H 10) (slA H 11) (slA H 12) (slA H 13) (slA H 14) (slO H 10) (itLx tv.length) tv (valsOf fs) et (ts.getD 2 0) (dct (fs.getD 1 frx0).κ (fs.getD 1 frx0).τ [(boxStr, ((fs.getD 1 frx0).nv.getD 0 (boxStr, .none)).2)])
noncomputable def hTdO (P : Params) (ns : List Int) (c : Code) (H : List Slot) (tv : List Value) (et : Nat) : HOutP := ⟨⟨[], [(c, tdStart tdC P (slA H 10) (slA H 9) (slA H 14) (slA H 12) (slA H 13))], [(H, tdIn H [] (lxSg H 0) tv et)], [(lxOf H 0).ok, (∃ σ, lxSg H 0 = (sgn σ 0 (ns.map wrL).flatten).reverse) ∧ Bx tv (ns.map ibx) ∧ 0 < ns.length ∧ ns.length < 500], 0, 4, 2, fun _ _ _ => .ok .next,
      fun _ ts fs => tdOut H (lxLn H 0 + nls ns) tv et ts fs⟩, fun _ _ fs => [Bx (valsOf fs) (ns.map ibx)]⟩
noncomputable def hTd (P : Params) (ns : List Int) : HandlerP := fun c H => onLa H 11 fun _ tv et => some (hTdO P ns c H tv et)
noncomputable def hUeO (P : Params) (ks : List Nat) (c : Code) (H : List Slot) (tv : List Value) (et : Nat) : HOutP := ⟨⟨[], [(c, tdStart tdC2 P (slA H 10) (slA H 9) (slA H 14) (slA H 12) (slA H 13))], [(H, tdIn H (lxPb H 0) [] tv et)], [(lxOf H 0).ok, Bx (lxPb H 0) ks ∧ (∃ ms, Bx tv ms ∧ ks.length = ms.length) ∧ 0 < ks.length ∧ ks.length < 500], 0, 4, 2, fun _ _ _ => .ok .next,
      fun _ ts fs => tdOut H (lxLn H 0) tv et ts fs⟩, fun _ _ fs => [Bx (valsOf fs) ks]⟩
noncomputable def hUe (P : Params) (ks : List Nat) : HandlerP := fun c H => onLa H 11 fun _ tv et => some (hUeO P ks c H tv et)
section
variable (prog : Program) (d : Source → Nat → Nat) (P : Params) (b1 b2 : Bool) {T : Tops} (hT : ∀ a o, (topT P).get a = some o → T a o)
include hT
theorem hTd_ok (ns : List Int) : HOkP prog (wd d P b1 b2) T 5 (hTd P ns) := by
  intro c H out e hi A s hA hS
  unfold hTd at e
  refine onLa_elim e fun w' a' tv et hl e1 => ?_
  clear e
  cases e1
  obtain ⟨h1, h2, hh, h3⟩ := hi
  have ec := h2 _ (.head _)
  have eh := hh _ (.head _)
  have hX := h3 _ (.head _)
  obtain ⟨⟨σ, hσ⟩, c1, c2, c3⟩ := h3 _ (.tail _ (.head _))
  dsimp only at ec eh
  rw [hσ] at eh
  unfold tdIn at eh
  have key := td_start prog d P b1 b2 hT hX (C := slA H 9) (L := slA H 10) (t := slA H 11) (it := slA H 12) (ac := slA H 13) (D := slA H 14) (et := et) (fo := slO H 10) (ln := lxLn H 0) (tl := lxTl H 0) (eb := lxEb H 0) (es := lxEs H 0) (σ := σ) c1 c2 c3 _ s hA.mk'
  rw [← eh, ← ec] at key
  refine CallsTo.of_code _ _ (codeAny_mono (key hS) ?_)
  rintro r s' ⟨H', ⟨rfl, avn, ea, tl, es, eb, κ, τ, w, hv, rfl⟩, hp⟩
  have e2 : ∀ f, valsOf [⟨zeroI, zeroN, avn.map fun v => (⟨#[]⟩, v), []⟩, f] = avn := fun f => by
    show List.map _ (List.map _ avn) = avn
    rw [List.map_map]; exact List.map_id avn
  refine ⟨[], [tl, es, ea, eb], [⟨zeroI, zeroN, avn.map fun v => (⟨#[]⟩, v), []⟩, ⟨κ, τ, [(boxStr, w)], []⟩], rfl, rfl, rfl, rfl, all1 ?_, ?_⟩
  · rw [e2]; exact hv
  · show Post T H s (tdOut _ _ _ _ _ _) s'
    unfold tdOut
    rw [e2]
    exact hp
theorem hUe_ok (ks : List Nat) : HOkP prog (wd d P b1 b2) T 5 (hUe P ks) := by
  intro c H out e hi A s hA hS
  unfold hUe at e
  refine onLa_elim e fun w' a' tv et hl e1 => ?_
  clear e
  cases e1
  obtain ⟨h1, h2, hh, h3⟩ := hi
  have ec := h2 _ (.head _)
  have eh := hh _ (.head _)
  have hX := h3 _ (.head _)
  obtain ⟨c0, ⟨ms, c1, cm⟩, c2, c3⟩ := h3 _ (.tail _ (.head _))
  dsimp only at ec eh
  unfold tdIn at eh
  have key := ue_start prog d P b1 b2 hT hX (C := slA H 9) (L := slA H 10) (t := slA H 11) (it := slA H 12) (ac := slA H 13) (D := slA H 14) (et := et) (fo := slO H 10) (ln := lxLn H 0) (tl := lxTl H 0) (eb := lxEb H 0) (es := lxEs H 0) c1 c0 cm c2 c3 _ s hA.mk'
  rw [← eh, ← ec] at key
  refine CallsTo.of_code _ _ (codeAny_mono (key hS) ?_)
  rintro r s' ⟨H', ⟨rfl, avn, ea, tl, es, eb, κ, τ, w, hv, rfl⟩, hp⟩
  have e2 : ∀ f, valsOf [⟨zeroI, zeroN, avn.map fun v => (⟨#[]⟩, v), []⟩, f] = avn := fun f => by
    show List.map _ (List.map _ avn) = avn
    rw [List.map_map]; exact List.map_id avn
  refine ⟨[], [tl, es, ea, eb], [⟨zeroI, zeroN, avn.map fun v => (⟨#[]⟩, v), []⟩, ⟨κ, τ, [(boxStr, w)], []⟩], rfl, rfl, rfl, rfl, all1 ?_, ?_⟩
  · rw [e2]; exact hv
  · show Post T H s (tdOut _ _ _ _ _ _) s'
    unfold tdOut
    rw [e2]
    exact hp
end
theorem setSlot_same {sl : Slot} : ∀ (H : List Slot) (j : Nat), getSlot H j = some sl → setSlot H j sl.o = H
  | [], j, h => by cases h
  | s :: r, 0, h => by have e : s = sl := Option.some.inj h; subst e; rfl
  | s :: r, j + 1, h => by show s :: setSlot r j sl.o = s :: r; rw [setSlot_same r j h]
/-- a call that reads one list and makes new things -/
theorem Post.liftL {T : Tops} {H new : List Slot} {s s' : Shared} {j a : Nat} {o : Obj} (hS : Sat T s H) (hg : getSlot H j = some ⟨true, a, o⟩) (hp : Post T [⟨true, a, o⟩] s (⟨true, a, o⟩ :: new) s') (hw : ∀ x ∈ new, x.w = true) : Post T H s (H ++ new) s' := by
  have p0 := hp.liftW hS hg (by simp) ⟨_, .head _, rfl, rfl⟩ (o' := o)
  rw [setSlot_same H j hg] at p0
  have hap := List.pairwise_cons.mp hp.sat.apart
  have hnew : ∀ x ∈ new, s.heap.objs.size ≤ x.a := fun x hx => by
    rcases hp.grow x (.tail _ hx) (hw x hx) with ⟨s0, h0, w0, e0⟩ | h
    · rw [List.mem_singleton.mp h0] at e0
      exact absurd e0 (hap.1 x hx (.inl rfl))
    · exact h
  refine ⟨⟨p0.sat.top, p0.sat.gens, p0.sat.toks, fun y hy => ?_, List.pairwise_append.mpr ⟨hS.apart, hap.2, fun x hx y hy _ => ?_⟩, fun y hy hyw => ?_⟩, p0.keep, fun y hy hyw => ?_⟩
  · rcases List.mem_append.mp hy with hy | hy
    · exact p0.sat.has y hy
    · exact hp.sat.has y (.tail _ hy)
  · exact Nat.ne_of_lt (Nat.lt_of_lt_of_le (Heap.lt_size (hS.has x hx)) (hnew y hy))
  · rcases List.mem_append.mp hy with hy | hy
    · exact p0.sat.wr y hy hyw
    · exact hp.sat.wr y (.tail _ hy) hyw
  · rcases List.mem_append.mp hy with hy | hy
    · exact .inl ⟨y, hy, hyw, rfl⟩
    · exact .inr (hnew y hy)
noncomputable def hLptO (ks : List Nat) (due : List Nat) (H : List Slot) (f : Nat) (a : Nat) (a' : Nat) (vs : List Value) : HOutP := ⟨⟨[(f, 128), (a, a')], [], [], [Bx vs ks ∧ 0 < ks.length ∧ ks.length < 10000 ∧ lpN ks = some due], 1, 1, 1, fun as _ _ => .ok (.ret (.ref (as.getD 0 0))), fun as ts fs => addSlot H ⟨true, as.getD 0 0, lst (valsOf fs) (ts.getD 0 0)⟩⟩, fun _ _ fs => [Bx (valsOf fs) due]⟩
noncomputable def hLpt (j : Nat) (ks due : List Nat) : HandlerP := fun c H => rR c (fun f a => onL H j fun a' vs ep => some (hLptO ks due H f a a' vs))
noncomputable def hTblO (ks : List Nat) (H : List Slot) (f : Nat) (a : Nat) (a' : Nat) (vs : List Value) : HOutP := ⟨⟨[(f, 135), (a, a')], [], [], [Bx vs ks ∧ 0 < ks.length ∧ ks.length < 10000], 1, 1, 1, fun as _ _ => .ok (.ret (.ref (as.getD 0 0))), fun as ts fs => appS (addSlot H ⟨true, as.getD 0 0, lst (valsOf fs) (ts.getD 0 0)⟩) (fs.getD 0 frx0).sl⟩, fun _ _ fs => [TbRows (valsOf fs) (tbN ks []) (fs.getD 0 frx0).sl]⟩
noncomputable def hTbl (j : Nat) (ks : List Nat) : HandlerP := fun c H => rR c (fun f a => onL H j fun a' vs ep => some (hTblO ks H f a a' vs))
noncomputable def hLedO (pb : List Nat) (bx : List Nat) (H : List Slot) (f : Nat) (i : Nat) (n : Int) : HOutP := ⟨⟨[(f, 123), (i, (lxOf H 0).I)], [], [(blk H 0, lexS (lxOf H 0) (lxLn H 0) (lxTl H 0) (lxPb H 0) (lxEb H 0) [] (lxEs H 0))],
      [(lxOf H 0).ok, n = ((pb.length : Nat) : Int), Bx (lxPb H 0) pb ∧ 0 < pb.length ∧ pb.length < 1000 ∧ 0 < bx.length ∧ bx.length < 1000 ∧ ledGo 60 pb pb.length [] [] = some (bx, [])], 1, 2, 2, fun as _ _ => .ok (.ret (.ref (as.getD 0 0))),
      fun as ts fs => appS (putBlk H 0 (lexS (lxOf H 0) (lxLn H 0) (lxTl H 0) (valsOf fs) (ts.getD 0 0) [] (lxEs H 0))) [⟨true, as.getD 0 0, lst ((fs.getD 1 frx0).nv.map (·.2)) (ts.getD 1 0)⟩]⟩,
      fun _ _ fs => [Bx (valsOf fs) bx ∧ Bx ((fs.getD 1 frx0).nv.map (·.2)) bx]⟩
noncomputable def hLed (pb bx : List Nat) : HandlerP := fun c H => rRI c (fun f i n _ => some (hLedO pb bx H f i n))
section
variable (prog : Program) (d : Source → Nat → Nat) (P : Params) (b1 b2 : Bool) {T : Tops} (hT : ∀ a o, (topT P).get a = some o → T a o)
theorem nvMap (vs : List Value) : (vs.map fun v => ((⟨#[]⟩ : Str), v)).map (·.2) = vs := by rw [List.map_map]; exact List.map_id vs
include hT
theorem hLpt_ok (j : Nat) (ks due : List Nat) : HOkP prog (wd d P b1 b2) T 8 (hLpt j ks due) := by
  intro c H out e hi A s hA hS
  unfold hLpt at e
  refine rR_elim (P := fun c => CallsTo _ _ A c s _) e fun f a e1 => ?_
  refine onL_elim e1 fun a' vs ep hl e2 => ?_
  clear e e1
  cases e2
  obtain ⟨h1, h2, hh, h3⟩ := hi
  have e1 : f = 128 := h1 (f, 128) (.head _)
  have e2 : a = a' := h1 (a, a') (.tail _ (.head _))
  obtain ⟨c1, c2, c3, c4⟩ := h3 _ (.head _)
  clear h1 h2 hh h3
  subst e1 e2
  have hg := lstAt_eq hl
  refine CallsTo.of_code _ _ (codeAny_mono (lp_call prog d P b1 b2 hT c1 c2 c3 c4 _ s hA.mk' (hS.sub1 hg (w' := true) (fun _ => rfl))) ?_)
  rintro r s' ⟨H', ⟨x, rfl, xv, ex, s1, s2, hx, w1, w2, rfl⟩, hp⟩
  refine ⟨[x], [ex], [⟨zeroI, zeroN, xv.map fun v => (⟨#[]⟩, v), []⟩], rfl, rfl, rfl, rfl, all1 ?_, ?_⟩
  · rw [valsOf_mk]; exact hx
  · have q := hp.liftL hS hg (by
      intro y hy
      simp only [List.mem_cons, List.not_mem_nil, or_false] at hy
      rcases hy with rfl | rfl | rfl
      · exact w1
      · exact w2
      · rfl)
    show Post T H s (addSlot H ⟨true, x, lst (valsOf _) ex⟩) s'
    rw [valsOf_mk, addSlot_eq]
    exact q.drop (List.Sublist.append (List.Sublist.refl _) (.cons _ (.cons _ (.cons_cons _ (List.nil_sublist _)))))
theorem hTbl_ok (j : Nat) (ks : List Nat) : HOkP prog (wd d P b1 b2) T 7 (hTbl j ks) := by
  intro c H out e hi A s hA hS
  unfold hTbl at e
  refine rR_elim (P := fun c => CallsTo _ _ A c s _) e fun f a e1 => ?_
  refine onL_elim e1 fun a' vs ep hl e2 => ?_
  clear e e1
  cases e2
  obtain ⟨h1, h2, hh, h3⟩ := hi
  have e1 : f = 135 := h1 (f, 135) (.head _)
  have e2 : a = a' := h1 (a, a') (.tail _ (.head _))
  obtain ⟨c1, c2, c3⟩ := h3 _ (.head _)
  clear h1 h2 hh h3
  subst e1 e2
  have hg := lstAt_eq hl
  refine CallsTo.of_code _ _ (codeAny_mono (tb_call prog d P b1 b2 hT c1 c2 c3 _ s hA.mk' (hS.sub1 hg (w' := true) (fun _ => rfl))) ?_)
  rintro r s' ⟨H', ⟨t, rfl, et, tv, R, hrows, rfl⟩, hp⟩
  refine ⟨[t], [et], [⟨zeroI, zeroN, tv.map fun v => (⟨#[]⟩, v), R⟩], rfl, rfl, rfl, rfl, all1 ?_, ?_⟩
  · show TbRows (List.map _ (List.map _ tv)) _ _
    rw [nvMap]; exact hrows
  · have q := hp.liftL hS hg (by
      intro y hy
      rcases List.mem_cons.mp hy with rfl | hy
      · rfl
      · exact hrows.wr y hy)
    show Post T H s (appS (addSlot H ⟨true, t, lst (List.map _ (List.map _ tv)) et⟩) R) s'
    rw [nvMap, addSlot_eq, appS_eq, List.append_assoc]
    exact q
theorem hLed_ok (pb bx : List Nat) : HOkP prog (wd d P b1 b2) T 7 (hLed pb bx) := by
  intro c H out e hi A s hA hS
  unfold hLed at e
  refine rRI_elim (P := fun c => CallsTo _ _ A c s _) e fun f i n tn e1 => ?_
  clear e
  cases e1
  obtain ⟨h1, h2, hh, h3⟩ := hi
  unfold hLedO at h1 h2 hh h3 ⊢
  have e1 : f = 123 := h1 (f, 123) (.head _)
  have e2 : i = (lxOf H 0).I := h1 (i, _) (.tail _ (.head _))
  have eh := hh _ (.head _)
  have hX := h3 _ (.head _)
  have en := h3 _ (.tail _ (.head _))
  obtain ⟨c1, c2, c3, c4, c5, c6⟩ := h3 _ (.tail _ (.tail _ (.head _)))
  dsimp only at eh
  clear h1 h2 hh h3
  subst e1 e2 en
  have split := blk_split H 0
  rw [eh] at split
  have hput : ∀ b, putBlk H 0 b = b ++ dropS 9 (dropS 0 H) := fun b => by rw [putBlk_eq]; rfl
  have ht0 : takeS 0 H = [] := rfl
  rw [ht0, List.nil_append] at split
  have hS2 : Sat T s (lexS (lxOf H 0) (lxLn H 0) (lxTl H 0) (lxPb H 0) (lxEb H 0) [] (lxEs H 0) ++ dropS 9 (dropS 0 H)) := split ▸ hS
  refine CallsTo.of_code _ _ (codeAny_mono (led_call prog d P b1 b2 hT hX (ln := lxLn H 0) (tl := lxTl H 0) (es := lxEs H 0) (tz := tn) 59 c1 c2 c2 c3 (by lia) c4 (by simp; lia) c6 _ s hA.mk' (hS2.part (List.sublist_append_left _ _))) ?_)
  rintro r s' ⟨H', ⟨bo, pbv, eb, bv, e2, hpb, hbv, rfl, rfl⟩, hp⟩
  have q := hp.frame hS2 (by
    intro x hx hw
    have := lexS_ro (ln' := lxLn H 0) (tl' := lxTl H 0) (eb' := lxEb H 0) (es' := lxEs H 0) (pb' := lxPb H 0) (sg' := []) (B' := []) (A := [⟨true, bo, lst bv e2⟩]) (by simp) x hx hw
    rwa [List.append_nil] at this)
  rw [← split] at q
  have q2 := q.perm (.refl _) (H3 := (lexS (lxOf H 0) (lxLn H 0) (lxTl H 0) pbv eb [] (lxEs H 0) ++ dropS 9 (dropS 0 H)) ++ [⟨true, bo, lst bv e2⟩]) (by
    rw [List.append_assoc, List.append_assoc]
    exact List.Perm.append_left _ List.perm_append_comm)
  refine ⟨[bo], [eb, e2], [⟨zeroI, zeroN, pbv.map fun v => (⟨#[]⟩, v), []⟩, ⟨zeroI, zeroN, bv.map fun v => (⟨#[]⟩, v), []⟩], rfl, rfl, rfl, rfl, all1 ⟨?_, ?_⟩, ?_⟩
  · show Bx (List.map _ (List.map _ pbv)) _
    rw [nvMap]
    simpa using hpb
  · show Bx (List.map _ (List.map _ bv)) _
    rw [nvMap]; exact hbv
  · show Post T H s (appS (putBlk H 0 (lexS _ _ _ (List.map _ (List.map _ pbv)) _ _ _)) [⟨true, bo, lst (List.map _ (List.map _ bv)) e2⟩]) s'
    rw [nvMap, nvMap, hput, appS_eq]
    exact q2
end
noncomputable def lbF : Stmt := stAt 16 6
noncomputable def lbFor (P : Params) (L C it : Nat) : Code := .forLoop (forT lbF) (.ref it) (forB lbF) [] (laEnv P L C)
noncomputable def lbT : Stmt := stAt 16 8
noncomputable def lbTFor (P : Params) (L C it : Nat) : Code := .forLoop (forT lbT) (.ref it) (forB lbT) [] (laEnv P L C)
noncomputable def lbI : Stmt := (forB lbT).getD 2 default
noncomputable abbrev fLbS0 (S : Nat) (t : Nat) (tx : Str) (tt : Nat) (wx : Value) (wb : Value) (q : Nat) (r : List (Str × Value)) : List (Str × Value) := (s_script, .ref S) :: (s_strip, .ref t) :: (s_text, .str tx tt) :: (s_x, wx) :: (s_box, wb) :: (s_told, .ref q) :: r
noncomputable abbrev fLbS1 (S : Nat) (t : Nat) (tx : Str) (tt : Nat) (wx : Value) (wb : Value) (q : Nat) (r : List (Str × Value)) : List (Str × Value) := (s_script, .ref S) :: (s_strip, .ref t) :: (s_text, .str tx (tt)) :: (s_x, wx) :: (s_box, wb) :: (s_told, .ref q) :: r
noncomputable abbrev fLbS2 (z : Nat) (wn : Value) (y : Nat) (r : List (Str × Value)) : List (Str × Value) := (s_boxes, .ref z) :: (s_turn, wn) :: (s_due, .ref y) :: r
section
variable (prog : Program) (P : Params) (b1 b2 : Bool)
variable {L C S t tt tl eb es et q z y it i eq ts g a b c tn ez ey : Nat} {κ : Nat → Int} {τ : Nat → Nat} {tx sx : Str} {wx wb wn : Value} {X : LX} {ln k m n : Int} {pb sg tv qv zv yv : List Value} {ns : List Int} {ks due bx : List Nat}
noncomputable def lb_a_h (T : Tops) : List Hint := [.top, .slot 0, .top, .sump (hLx T 2), .slot 1, .slot 1]
theorem lb_a {T : Tops} (O : Orc) : SegP (run (eE prog P b1 b2 O) 20 (lb_a_h T) (.root (execsZ [stAt 16 3] (laEnv P L C))) ⟨[wS L (frm κ τ [(s_script, .ref S), (s_strip, .ref t), (s_text, .str tx tt), (s_x, wx), (s_box, wb)]), wS C ⟨.type "cell", none, .cell none, #[]⟩, wS 104 ⟨.none, none, .fields ⟨[]⟩, #[]⟩], 0, 0, 0⟩)
    [tx.cps.toList.length < 100000] [∃ X tl es τ m, X.ok ∧ O.addr 0 = X.I ∧ (O.fr 0).sl = tbS m :: lexS X 1 tl [] 0 (sgn τ 0 tx.cps.toList).reverse es] (.pure .next) ([wS L (frm κ τ [(s_script, .ref S), (s_strip, .ref t), (s_text, .str tx tt), (s_x, wx), (s_box, wb)]), wS C (celO (.ref (O.addr 0)))] ++ (O.fr 0).sl) := ⟨sg5 (by kernel_rfl), by kernel_rfl⟩
noncomputable def lb_b_h (P : Params) (ns : List Int) : List Hint := [.slot 10, .slot 11, .slot 11, .call, .slot 11, .slot 12, .sump (hTd P ns), .slot 10, .slot 10, .slot 14, .slot 14, .slot 14]
theorem lb_b (O : Orc) : SegP (run (eE prog P b1 b2 O) 36 (lb_b_h P ns) (.root (execsZ [stAt 16 4] (laEnv P L C))) ⟨lexS X ln tl [] eb sg es ++ [wS C (celO (.ref X.I)), wS L (frm κ τ [(s_script, .ref S), (s_strip, .ref t), (s_text, .str tx tt), (s_x, wx), (s_box, wb)]), wS t (lst tv et)], 0, 0, 0⟩)
    [X.ok, (∃ σ, sg = (sgn σ 0 (ns.map wrL).flatten).reverse) ∧ Bx tv (ns.map ibx) ∧ 0 < ns.length ∧ ns.length < 500] [Bx (valsOf [O.fr 0, O.fr 1]) (ns.map ibx)] (.pure .next) (lexS X (ln + nls ns) (O.tok 0) [] (O.tok 3) [] (O.tok 1) ++ [wS C (celO (.ref X.I)), wS L (frm (ext κ 5 [hz prog (mkP P b1 b2) s_told]) (ext τ 5 [O.tok 4]) [(s_script, .ref S), (s_strip, .ref t), (s_text, .str tx tt), (s_x, wx), (s_box, wb), (s_told, .ref (O.addr 1))]), wS t (lst tv et), wS (O.addr 0) (itLx tv.length), wS (O.addr 1) (lst (valsOf [O.fr 0, O.fr 1]) (O.tok 2)), wS (O.addr 2) ⟨.type "dict", none, .dict #[] 2, #[]⟩]) := by cases b2 <;> exact ⟨sg5 (by kernel_rfl), by kernel_rfl⟩
noncomputable def lb_c1_h : List Hint := [.slot 0]
theorem lb_c1 (O : Orc) : Seg (run (eE prog P b1 b2 O) 8 lb_c1_h (.root (evalZ (cmL (ifT (stAt 16 5))) (laEnv P L C))) ⟨[wS L (frm κ τ (fLbS0 S t tx tt wx wb q []))], 0, 0, 0⟩)
    [] (.pure (.ref q)) [wS L (frm κ τ (fLbS1 S t tx tt wx wb q []))] := sg5 (by kernel_rfl)
noncomputable def lb_c2_h : List Hint := [.slot 0]
theorem lb_c2 (O : Orc) : Seg (run (eE prog P b1 b2 O) 8 lb_c2_h (.root (evalZ (cmR (ifT (stAt 16 5))) (laEnv P L C))) ⟨[wS L (frm κ τ (fLbS0 S t tx tt wx wb q []))], 0, 0, 0⟩)
    [] (.pure (.ref t)) [wS L (frm κ τ (fLbS1 S t tx tt wx wb q []))] := sg5 (by kernel_rfl)
noncomputable def lb_fi_h : List Hint := [.slot 0]
theorem lb_fi (O : Orc) : Seg (run (eE prog P b1 b2 O) 8 lb_fi_h (.root (evalZ (forI lbF) (laEnv P L C))) ⟨[wS L (frm κ τ (fLbS0 S t tx tt wx wb q []))], 0, 0, 0⟩)
    [] (.pure (.ref q)) [wS L (frm κ τ (fLbS1 S t tx tt wx wb q []))] := sg5 (by kernel_rfl)
noncomputable def lb_r1_h : List Hint := [.slot 0]
theorem lb_r1 (O : Orc) : Seg (run (eE prog P b1 b2 O) 8 lb_r1_h (.root (evalZ (cmR (boL (ifT lbI))) (laEnv P L C))) ⟨[wS L (frm κ τ (fLbS0 S t tx tt wx wb q (fLbS2 z wn y [])))], 0, 0, 0⟩)
    [] (.pure (.ref z)) [wS L (frm κ τ (fLbS1 S t tx tt wx wb q (fLbS2 z wn y [])))] := sg5 (by kernel_rfl)
noncomputable def lb_r2_h : List Hint := []
theorem lb_r2 (O : Orc) : Seg (run (eE prog P b1 b2 O) 7 lb_r2_h (.root (evalZ (cmR (boR (ifT lbI))) (laEnv P L C))) ⟨[wS L (frm κ τ (fLbS0 S t tx tt wx wb q (fLbS2 z wn y [])))], 0, 0, 0⟩)
    [] (.pure (.str ⟨#[]⟩ (O.tok 0))) [wS L (frm κ τ (fLbS1 S t tx tt wx wb q (fLbS2 z wn y [])))] := sg5 (by kernel_rfl)
noncomputable def lb_u2_h : List Hint := [.slot 0]
theorem lb_u2 (O : Orc) : Seg (run (eE prog P b1 b2 O) 8 lb_u2_h (.root (evalZ (cmR (ifT (stAt 16 10))) (laEnv P L C))) ⟨[wS L (frm κ τ (fLbS0 S t tx tt wx wb q (fLbS2 z wn y [])))], 0, 0, 0⟩)
    [] (.pure (.ref z)) [wS L (frm κ τ (fLbS1 S t tx tt wx wb q (fLbS2 z wn y [])))] := sg5 (by kernel_rfl)
noncomputable def lb_ft_h (sx : Str) (ts : Nat) : List Hint := [.slot 12, .sum (hLNext 12 11 (.str sx ts)), .slot 10, .slot 10, .slot 9, .slot 0, .top, .top, .top, .slot 0, .top, .top, .top, .slot 0, .top, .top, .top, .top, .slot 0, .slot 1, .slot 10, .top, .sum (hPush 0)]
theorem lb_ft (O : Orc) : Seg (run (eE prog P b1 b2 O) 42 (lb_ft_h sx ts) (.root (denoteZ (lbFor P L C it))) ⟨lexS X ln tl pb eb sg es ++ [wS C (celO (.ref X.I)), wS L (frm κ τ (fLbS0 S t tx tt wx wb q [])), wS q (lst qv eq), wS it (itL q i)], 0, 0, 0⟩)
    [qv[i]? = some (.str sx ts), X.ok, pb.length < 90000] (.pure (.again (lbFor P L C it))) (lexS X ln tl (pb ++ [.str sx ts]) (eb + 1) sg es ++ [wS C (celO (.ref X.I)), wS L (frm κ τ [(s_script, .ref S), (s_strip, .ref t), (s_text, .str tx tt), (s_x, wx), (s_box, .str sx ts), (s_told, .ref q)]), wS q (lst qv eq), wS it (itL q (i + 1))]) := sg5 (by kernel_rfl)
noncomputable def lb_fx_h : List Hint := [.slot 12, .sum (hLStop 12 11), .slot 14]
theorem lb_fx (O : Orc) : Seg (run (eE prog P b1 b2 O) 10 lb_fx_h (.root (denoteZ (lbFor P L C it))) ⟨lexS X ln tl pb eb sg es ++ [wS C (celO (.ref X.I)), wS L (frm κ τ (fLbS0 S t tx tt wx wb q [])), wS q (lst qv eq), wS it (itL q i)], 0, 0, 0⟩)
    [qv[i]? = none] (.pure (.again (Code.block [] (laEnv P L C)))) (lexS X ln tl pb eb sg es ++ [wS C (celO (.ref X.I)), wS L (frm κ τ (fLbS0 S t tx tt wx wb q [])), wS q (lst qv eq), wS it (itLx i), wS (O.addr 0) tup0, wS (O.addr 1) (stopObj (O.addr 0))]) := sg5 (by kernel_rfl)
noncomputable def lb_g_h : List Hint := [.slot 0, .slot 0, .slot 0]
theorem lb_g (O : Orc) : Seg (run (eE prog P b1 b2 O) 16 lb_g_h (.root (execsZ [stAt 16 7] (laEnv P L C))) ⟨[wS L (frm κ τ (fLbS0 S t tx tt wx wb q []))], 0, 0, 0⟩)
    [] (.pure (Flow.next)) [wS L (frm (ext κ 6 [hz prog (mkP P b1 b2) s_boxes]) (ext τ 6 [O.tok 0]) (fLbS1 S t tx tt wx wb q [(s_boxes, .ref q)]))] := sg5 (by kernel_rfl)
noncomputable def lb_hi_h : List Hint := [.top, .top, .call, .call, .slot 1, .slot 1, .call, .slot 1, .slot 1]
theorem lb_hi (O : Orc) : Seg (run (eE prog P b1 b2 O) 29 lb_hi_h (.root (evalZ (forI lbT) (laEnv P L C))) ⟨[wS L (frm κ τ (fLbS0 S t tx tt wx wb q [(s_boxes, .ref z)]))], 0, 0, 0⟩)
    [] (.pure (.ref (O.addr 0))) [wS L (frm κ τ (fLbS1 S t tx tt wx wb q [(s_boxes, .ref z)])), wS (O.addr 0) (rgO 2 (O.tok 1) (O.tok 0) (O.tok 2))] := sg5 (by kernel_rfl)
noncomputable def lb_hp_h : List Hint := [.slot 0, .slot 0, .sum (hRIter 0), .slot 1]
theorem lb_hp (O : Orc) : Seg (run (eE prog P b1 b2 O) 11 lb_hp_h (.root (pyIterZ (.ref g))) ⟨[wS g (rgO 2 a b c)], 0, 0, 0⟩)
    [(0 : Int) ≤ 2 ∧ (2 : Int) < 1000000] (.pure (.ref (O.addr 0))) [wS g (rgO 2 a b c), wS (O.addr 0) (ritO 0 2 1)] := by cases b2 <;> exact sg5 (by kernel_rfl)
noncomputable def lb_hn_h : List Hint := [.slot 0, .sum (hRNext 0)]
theorem lb_hn (O : Orc) : Seg (run (eE prog P b1 b2 O) 8 lb_hn_h (.root (pyNextZ (.ref it))) ⟨[wS it (ritO k m 1)], 0, 0, 0⟩)
    [0 < m] (.pure (some (.int k (O.tok 0)))) [wS it (ritO (k + 1) (m - 1) 1)] := sg5 (by kernel_rfl)
noncomputable def lb_hx_h : List Hint := [.slot 0, .sum (hRStop 0), .slot 2]
theorem lb_hx (O : Orc) : Seg (run (eE prog P b1 b2 O) 9 lb_hx_h (.root (pyNextZ (.ref it))) ⟨[wS it (ritO k m 1)], 0, 0, 0⟩)
    [m ≤ 0] (.pure none) [wS it (ritO k m 1), wS (O.addr 0) tup0, wS (O.addr 1) (stopObj (O.addr 0))] := sg5 (by kernel_rfl)
noncomputable def lb_ha0_h : List Hint := [.slot 0, .slot 0]
theorem lb_ha0 (O : Orc) : Seg (run (eE prog P b1 b2 O) 13 lb_ha0_h (.root (assignZ (forT lbT) (laEnv P L C) (.int n tn))) ⟨[wS L (frm κ τ (fLbS0 S t tx tt wx wb q [(s_boxes, .ref z)]))], 0, 0, 0⟩)
    [] (.pure ()) [wS L (frm (ext κ 7 [hz prog (mkP P b1 b2) s_turn]) (ext τ 7 [O.tok 0]) (fLbS1 S t tx tt wx wb q [(s_boxes, .ref z), (s_turn, .int (n) (tn))]))] := sg5 (by kernel_rfl)
noncomputable def lb_ha1_h : List Hint := [.slot 0, .slot 0]
theorem lb_ha1 (O : Orc) : Seg (run (eE prog P b1 b2 O) 13 lb_ha1_h (.root (assignZ (forT lbT) (laEnv P L C) (.int n tn))) ⟨[wS L (frm κ τ (fLbS0 S t tx tt wx wb q (fLbS2 z wn y [])))], 0, 0, 0⟩)
    [] (.pure ()) [wS L (frm κ τ (fLbS1 S t tx tt wx wb q [(s_boxes, .ref z), (s_turn, .int (n) (tn)), (s_due, .ref y)]))] := sg5 (by kernel_rfl)
noncomputable def lb_d0_h (ks due : List Nat) : List Hint := [.top, .slot 0, .top, .sump (hLpt 1 ks due), .slot 0, .slot 0]
theorem lb_d0 (O : Orc) : SegP (run (eE prog P b1 b2 O) 22 (lb_d0_h ks due) (.root (execsZ [(forB lbT).getD 0 default] (laEnv P L C))) ⟨[wS L (frm κ τ (fLbS0 S t tx tt wx wb q [(s_boxes, .ref z), (s_turn, wn)])), wS z (lst zv ez)], 0, 0, 0⟩)
    [Bx zv ks ∧ 0 < ks.length ∧ ks.length < 10000 ∧ lpN ks = some due] [Bx (valsOf [O.fr 0]) due] (.pure (Flow.next)) [wS L (frm (ext κ 8 [hz prog (mkP P b1 b2) s_due]) (ext τ 8 [O.tok 1]) (fLbS1 S t tx tt wx wb q [(s_boxes, .ref z), (s_turn, wn), (s_due, .ref (O.addr 0))])), wS z (lst zv ez), wS (O.addr 0) (lst (valsOf [O.fr 0]) ([O.tok 0].getD 0 0))] := ⟨sg5 (by kernel_rfl), by kernel_rfl⟩
noncomputable def lb_d1_h (ks due : List Nat) : List Hint := [.top, .slot 0, .top, .sump (hLpt 1 ks due), .slot 0, .slot 0]
theorem lb_d1 (O : Orc) : SegP (run (eE prog P b1 b2 O) 22 (lb_d1_h ks due) (.root (execsZ [(forB lbT).getD 0 default] (laEnv P L C))) ⟨[wS L (frm κ τ (fLbS0 S t tx tt wx wb q (fLbS2 z wn y []))), wS z (lst zv ez)], 0, 0, 0⟩)
    [Bx zv ks ∧ 0 < ks.length ∧ ks.length < 10000 ∧ lpN ks = some due] [Bx (valsOf [O.fr 0]) due] (.pure (Flow.next)) [wS L (frm κ τ (fLbS1 S t tx tt wx wb q [(s_boxes, .ref z), (s_turn, wn), (s_due, .ref (O.addr 0))])), wS z (lst zv ez), wS (O.addr 0) (lst (valsOf [O.fr 0]) ([O.tok 0].getD 0 0))] := ⟨sg5 (by kernel_rfl), by kernel_rfl⟩
noncomputable def lb_e_h (ks bx : List Nat) : List Hint := [.top, .slot 9, .top, .top, .slot 10, .sum (hLen 11), .top, .sump (hLed ks bx), .slot 10, .slot 10]
theorem lb_e (O : Orc) : SegP (run (eE prog P b1 b2 O) 30 (lb_e_h ks bx) (.root (execsZ [(forB lbT).getD 1 default] (laEnv P L C))) ⟨lexS X ln tl pb eb [] es ++ [wS C (celO (.ref X.I)), wS L (frm κ τ (fLbS0 S t tx tt wx wb q (fLbS2 z wn y []))), wS z (lst zv ez)], 0, 0, 0⟩)
    [zv.length < 1000000, X.ok, (zv.length : Int) = ((ks.length : Nat) : Int), Bx pb ks ∧ 0 < ks.length ∧ ks.length < 1000 ∧ 0 < bx.length ∧ bx.length < 1000 ∧ ledGo 60 ks ks.length [] [] = some (bx, [])] [Bx (valsOf [O.fr 0, O.fr 1]) bx ∧ Bx ((O.fr 1).nv.map (·.2)) bx] (.pure .next) (lexS X ln tl (valsOf [O.fr 0, O.fr 1]) (O.tok 1) [] es ++ [wS C (celO (.ref X.I)), wS L (frm κ τ (fLbS0 S t tx tt wx wb q [(s_boxes, .ref (O.addr 0)), (s_turn, wn), (s_due, .ref y)])), wS z (lst zv ez), wS (O.addr 0) (lst ((O.fr 1).nv.map (·.2)) (O.tok 2))]) := ⟨sg5 (by kernel_rfl), by kernel_rfl⟩
noncomputable def lb_l1_h : List Hint := [.slot 0, .top, .top, .slot 0, .sum (hLen 2), .slot 1, .slot 1, .slot 1, .sum (hLTo 1 3)]
theorem lb_l1 (O : Orc) : Seg (run (eE prog P b1 b2 O) 23 lb_l1_h (.root (evalZ (cmL (boL (ifT lbI))) (laEnv P L C))) ⟨[wS L (frm κ τ (fLbS0 S t tx tt wx wb q (fLbS2 z wn y []))), wS y (lst yv ey), wS z (lst zv ez)], 0, 0, 0⟩)
    [zv.length < 1000000, (.int zv.length (O.tok 0) : Value) = .int zv.length (O.tok 0) ∧ (0 : Int) ≤ zv.length, yv.length < 1000000] (.pure (.ref (O.addr 1))) [wS L (frm κ τ (fLbS0 S t tx tt wx wb q (fLbS2 z wn y []))), wS y (lst yv ey), wS z (lst zv ez), wS (O.addr 0) (slcO .none (.int zv.length (O.tok 0))), wS (O.addr 1) (lst (yv.take zv.length) 0)] := sg5 (by kernel_rfl)
noncomputable def lb_l2_h : List Hint := [.slot 0, .top, .top, .slot 0, .sum (hLen 2), .slot 1, .slot 1, .slot 1, .sum (hLFrom 1 3), .sum (hJoin0 4)]
theorem lb_l2 (O : Orc) : Seg (run (eE prog P b1 b2 O) 29 lb_l2_h (.root (evalZ (cmL (boR (ifT lbI))) (laEnv P L C))) ⟨[wS L (frm κ τ (fLbS0 S t tx tt wx wb q (fLbS2 z wn y []))), wS y (lst yv ey), wS z (lst zv ez)], 0, 0, 0⟩)
    [zv.length < 1000000, (.int zv.length (O.tok 1) : Value) = .int zv.length (O.tok 1) ∧ (0 : Int) ≤ zv.length, yv.length < 1000000, (⟨#[]⟩ : Str) = ⟨#[]⟩, Bx (yv.drop zv.length) (List.replicate (yv.drop zv.length).length 0)] (.pure (.str ⟨#[]⟩ (O.tok 2))) [wS L (frm κ τ (fLbS0 S t tx tt wx wb q (fLbS2 z wn y []))), wS y (lst yv ey), wS z (lst zv ez), wS (O.addr 0) (slcO (.int zv.length (O.tok 1)) .none), wS (O.addr 1) (lst (yv.drop zv.length) 0)] := sg5 (by kernel_rfl)
noncomputable def lb_ne_h : List Hint := [.sum (hSNe false)]
theorem lb_ne (O : Orc) : Seg (run (eE prog P b1 b2 O) 8 lb_ne_h (.root (compareZ .NotEq (.str ⟨#[]⟩ a) (.str ⟨#[]⟩ b))) ⟨[], 0, 0, 0⟩)
    [(!(⟨#[]⟩ : Str).cps.toList == (⟨#[]⟩ : Str).cps.toList) = false] (.pure (.bool false)) [] := by cases b2 <;> exact sg5 (by kernel_rfl)
noncomputable def lb_t1_h (ks : List Nat) : List Hint := [.top, .slot 0, .top, .sump (hTbl 1 ks)]
theorem lb_t1 (O : Orc) : SegP (run (eE prog P b1 b2 O) 14 (lb_t1_h ks) (.root (evalZ (cmL (ifT (stAt 16 9))) (laEnv P L C))) ⟨[wS L (frm κ τ (fLbS0 S t tx tt wx wb q (fLbS2 z wn y []))), wS z (lst zv ez)], 0, 0, 0⟩)
    [Bx zv ks ∧ 0 < ks.length ∧ ks.length < 10000] [TbRows (valsOf [O.fr 0]) (tbN ks []) (O.fr 0).sl] (.pure (.ref (O.addr 0))) ([wS L (frm κ τ (fLbS0 S t tx tt wx wb q (fLbS2 z wn y []))), wS z (lst zv ez), wS (O.addr 0) (lst (valsOf [O.fr 0]) (O.tok 0))] ++ (O.fr 0).sl) := ⟨sg5 (by kernel_rfl), by kernel_rfl⟩
noncomputable def lb_t3_h (ks : List Nat) : List Hint := [.top, .slot 0, .top, .sump (hTbl 1 ks)]
theorem lb_t3 (O : Orc) : SegP (run (eE prog P b1 b2 O) 14 (lb_t3_h ks) (.root (evalZ (cmR (ifT (stAt 16 9))) (laEnv P L C))) ⟨[wS L (frm κ τ (fLbS0 S t tx tt wx wb q (fLbS2 z wn y []))), wS t (lst tv et)], 0, 0, 0⟩)
    [Bx tv ks ∧ 0 < ks.length ∧ ks.length < 10000] [TbRows (valsOf [O.fr 0]) (tbN ks []) (O.fr 0).sl] (.pure (.ref (O.addr 0))) ([wS L (frm κ τ (fLbS0 S t tx tt wx wb q (fLbS2 z wn y []))), wS t (lst tv et), wS (O.addr 0) (lst (valsOf [O.fr 0]) (O.tok 0))] ++ (O.fr 0).sl) := ⟨sg5 (by kernel_rfl), by kernel_rfl⟩
noncomputable def lb_u1_h (P : Params) (ks : List Nat) : List Hint := [.slot 10, .slot 11, .slot 11, .call, .slot 11, .slot 12, .sump (hUe P ks), .slot 14, .slot 14, .slot 14]
theorem lb_u1 (O : Orc) : SegP (run (eE prog P b1 b2 O) 26 (lb_u1_h P ks) (.root (evalZ (cmL (ifT (stAt 16 10))) (laEnv P L C))) ⟨lexS X ln tl pb eb [] es ++ [wS C (celO (.ref X.I)), wS L (frm κ τ (fLbS0 S t tx tt wx wb q (fLbS2 z wn y []))), wS z (lst zv ez)], 0, 0, 0⟩)
    [X.ok, Bx pb ks ∧ (∃ ms, Bx zv ms ∧ ks.length = ms.length) ∧ 0 < ks.length ∧ ks.length < 500] [Bx (valsOf [O.fr 0, O.fr 1]) ks] (.pure (.ref (O.addr 1))) (lexS X ln (O.tok 0) [] (O.tok 3) [] (O.tok 1) ++ [wS C (celO (.ref X.I)), wS L (frm κ τ (fLbS0 S t tx tt wx wb q (fLbS2 z wn y []))), wS z (lst zv ez), wS (O.addr 0) (itLx zv.length), wS (O.addr 1) (lst (valsOf [O.fr 0, O.fr 1]) (O.tok 2)), wS (O.addr 2) ⟨.type "dict", none, .dict #[] 2, #[]⟩]) := by cases b2 <;> exact ⟨sg5 (by kernel_rfl), by kernel_rfl⟩
noncomputable def lb_v_h : List Hint := [.slot 9, .slot 0, .top, .top, .top, .call, .slot 0, .top, .top, .top, .slot 0, .slot 0, .top, .slot 1, .slot 10, .sum (hCount), .call, .sum (hIEq true)]
theorem lb_v (O : Orc) : Seg (run (eE prog P b1 b2 O) 43 lb_v_h (.root (execsZ [stAt 16 11] (laEnv P L C))) ⟨lexS X ln tl pb eb sg es ++ [wS C (celO (.ref X.I)), wS L (frm κ τ (fLbS0 S t tx tt wx wb q (fLbS2 z wn y [])))], 0, 0, 0⟩)
    [decide (ln = Txt.count tx sx4 + 1) = true] (.pure (.ret (.bool true))) (lexS X ln tl pb eb sg es ++ [wS C (celO (.ref X.I)), wS L (frm κ τ (fLbS0 S t tx tt wx wb q (fLbS2 z wn y [])))]) := by cases b2 <;> exact sg5 (by kernel_rfl)
end
section
variable (prog : Program) (d : Source → Nat → Nat) (P : Params) (b1 b2 : Bool) {T : Tops} (hT : ∀ a o, (topT P).get a = some o → T a o) {lv : Nat}
include hT
variable {L C S t tt tl eb es et q z y it i eq ts g a b c tn ez ey : Nat} {κ : Nat → Int} {τ : Nat → Nat} {tx sx : Str} {wx wb wn : Value} {X : LX} {ln k m n : Int} {pb sg tv qv zv yv : List Value} {ns : List Int} {ks due bx : List Nat}
theorem lb_a_ok (hl : 3 ≤ lv) : HsOk prog (wd d P b1 b2) T lv (lb_a_h T) := ⟨(hLx_ok prog d P b1 b2 hT _).mono _ _ _ (lw hl), trivial⟩
theorem lb_b_ok (hl : 5 ≤ lv) : HsOk prog (wd d P b1 b2) T lv (lb_b_h P ns) := ⟨(hTd_ok prog d P b1 b2 hT _).mono _ _ _ (lw hl), trivial⟩
theorem lb_c1_ok (hl : 1 ≤ lv) : HsOk prog (wd d P b1 b2) T lv lb_c1_h := trivial
theorem lb_c2_ok (hl : 1 ≤ lv) : HsOk prog (wd d P b1 b2) T lv lb_c2_h := trivial
theorem lb_fi_ok (hl : 1 ≤ lv) : HsOk prog (wd d P b1 b2) T lv lb_fi_h := trivial
theorem lb_r1_ok (hl : 1 ≤ lv) : HsOk prog (wd d P b1 b2) T lv lb_r1_h := trivial
theorem lb_r2_ok (hl : 1 ≤ lv) : HsOk prog (wd d P b1 b2) T lv lb_r2_h := trivial
theorem lb_u2_ok (hl : 1 ≤ lv) : HsOk prog (wd d P b1 b2) T lv lb_u2_h := trivial
theorem lb_ft_ok (hl : 3 ≤ lv) : HsOk prog (wd d P b1 b2) T lv (lb_ft_h sx ts) := ⟨(hLNext_ok prog _ _ _ _).mono _ _ _ (lw hl), (hPush_ok prog d P b1 b2 hT _).mono _ _ _ (lw hl), trivial⟩
theorem lb_fx_ok (hl : 1 ≤ lv) : HsOk prog (wd d P b1 b2) T lv lb_fx_h := ⟨(hLStop_ok prog _ _ _).mono _ _ _ (lw hl), trivial⟩
theorem lb_g_ok (hl : 1 ≤ lv) : HsOk prog (wd d P b1 b2) T lv lb_g_h := trivial
theorem lb_hi_ok (hl : 1 ≤ lv) : HsOk prog (wd d P b1 b2) T lv lb_hi_h := trivial
theorem lb_hp_ok (hl : 1 ≤ lv) : HsOk prog (wd d P b1 b2) T lv lb_hp_h := ⟨(hRIter_ok _ _ _).mono _ _ _ (lw hl), trivial⟩
theorem lb_hn_ok (hl : 1 ≤ lv) : HsOk prog (wd d P b1 b2) T lv lb_hn_h := ⟨(hRNext_ok _ _ _).mono _ _ _ (lw hl), trivial⟩
theorem lb_hx_ok (hl : 1 ≤ lv) : HsOk prog (wd d P b1 b2) T lv lb_hx_h := ⟨(hRStop_ok _ _ _).mono _ _ _ (lw hl), trivial⟩
theorem lb_ha0_ok (hl : 1 ≤ lv) : HsOk prog (wd d P b1 b2) T lv lb_ha0_h := trivial
theorem lb_ha1_ok (hl : 1 ≤ lv) : HsOk prog (wd d P b1 b2) T lv lb_ha1_h := trivial
theorem lb_d0_ok (hl : 8 ≤ lv) : HsOk prog (wd d P b1 b2) T lv (lb_d0_h ks due) := ⟨(hLpt_ok prog d P b1 b2 hT _ _ _).mono _ _ _ (lw hl), trivial⟩
theorem lb_d1_ok (hl : 8 ≤ lv) : HsOk prog (wd d P b1 b2) T lv (lb_d1_h ks due) := ⟨(hLpt_ok prog d P b1 b2 hT _ _ _).mono _ _ _ (lw hl), trivial⟩
theorem lb_e_ok (hl : 7 ≤ lv) : HsOk prog (wd d P b1 b2) T lv (lb_e_h ks bx) := ⟨(hLen_ok _).mono _ _ _ (lw hl), (hLed_ok prog d P b1 b2 hT _ _).mono _ _ _ (lw hl), trivial⟩
theorem lb_l1_ok (hl : 1 ≤ lv) : HsOk prog (wd d P b1 b2) T lv lb_l1_h := ⟨(hLen_ok _).mono _ _ _ (lw hl), (hLTo_ok _ _ _ _).mono _ _ _ (lw hl), trivial⟩
theorem lb_l2_ok (hl : 1 ≤ lv) : HsOk prog (wd d P b1 b2) T lv lb_l2_h := ⟨(hLen_ok _).mono _ _ _ (lw hl), (hLFrom_ok _ _ _ _).mono _ _ _ (lw hl), (hJoin0_ok _ _ _).mono _ _ _ (lw hl), trivial⟩
theorem lb_ne_ok (hl : 1 ≤ lv) : HsOk prog (wd d P b1 b2) T lv lb_ne_h := ⟨(hSNe_ok hT _).mono _ _ _ (lw hl), trivial⟩
theorem lb_t1_ok (hl : 7 ≤ lv) : HsOk prog (wd d P b1 b2) T lv (lb_t1_h ks) := ⟨(hTbl_ok prog d P b1 b2 hT _ _).mono _ _ _ (lw hl), trivial⟩
theorem lb_t3_ok (hl : 7 ≤ lv) : HsOk prog (wd d P b1 b2) T lv (lb_t3_h ks) := ⟨(hTbl_ok prog d P b1 b2 hT _ _).mono _ _ _ (lw hl), trivial⟩
theorem lb_u1_ok (hl : 5 ≤ lv) : HsOk prog (wd d P b1 b2) T lv (lb_u1_h P ks) := ⟨(hUe_ok prog d P b1 b2 hT _).mono _ _ _ (lw hl), trivial⟩
theorem lb_v_ok (hl : 1 ≤ lv) : HsOk prog (wd d P b1 b2) T lv lb_v_h := ⟨(hCount_ok _ _).mono _ _ _ (lw hl), (hIEq_ok hT _).mono _ _ _ (lw hl), trivial⟩
end
end Mine
namespace Mine
open PySem PySem.W PySem.W.X PyProof.Rows PySem.Spec
noncomputable def bD (k : Nat) : Dat := .str (B k)
noncomputable def rD (ks : List Nat) : Dat := .list (ks.map bD)
theorem bD_str : ∀ k : Fin 5, PyData.strOk (B k.val) = true := by decide +kernel
theorem bD_ok : ∀ k, k < 5 → ∀ n, kqdOk n (bD k) = true := fun k hk n => by
  unfold bD
  cases n <;> simp only [kqdOk] <;> exact bD_str ⟨k, hk⟩
theorem Bx.lt5 {vs : List Value} {ks : List Nat} (h : Bx vs ks) : ∀ k ∈ ks, k < 5 := by
  induction h with
  | nil => intro k hk; cases hk
  | cons hk t h ih =>
    intro k hm
    rcases List.mem_cons.mp hm with rfl | hm
    · exact hk
    · exact ih k hm
theorem rD_ok {ks : List Nat} (h : ∀ k ∈ ks, k < 5) (n : Nat) : kqdOk (n + 1) (rD ks) = true := by
  unfold rD kqdOk
  rw [List.all_eq_true]
  intro d hd
  obtain ⟨k, hk, rfl⟩ := List.mem_map.mp hd
  exact bD_ok k (h k hk) n
theorem bx_reads {h : Heap} {vs : List Value} {ks : List Nat} (hb : Bx vs ks) : ∃ as, ReadsAll h vs (kqdPs (ks.map bD)) as := by
  induction hb with
  | nil => exact ⟨_, ReadsAll.nil⟩
  | cons hk t _ ih =>
    obtain ⟨as, q⟩ := ih
    exact ⟨_, ReadsAll.cons (Reads.str _ _) q⟩
theorem lst_reads {h : Heap} {a : Nat} {vs : List Value} {ks : List Nat} {e : Nat} (hg : h.get? a = some (lst vs e)) (hb : Bx vs ks) : ∃ as, Reads h (.ref a) (kqdP (rD ks)) as := by
  obtain ⟨as, q⟩ := bx_reads (h := h) hb
  unfold rD
  rw [kqdP]
  exact ⟨_, reads_list_at hg rfl rfl (by simpa using q)⟩
theorem rows_reads {h : Heap} {tv : List Value} {rows : List (List Nat)} {R : List Slot} (hr : TbRows tv rows R) (hh : ∀ x ∈ R, h.get? x.a = some x.o) : ∃ as, ReadsAll h tv (kqdPs (rows.map rD)) as := by
  induction hr with
  | nil => exact ⟨_, ReadsAll.nil⟩
  | cons hb _ ih =>
    obtain ⟨as, q⟩ := ih fun x hx => hh x (.tail _ hx)
    obtain ⟨bs, p⟩ := lst_reads (hh _ (.head _)) hb
    exact ⟨_, ReadsAll.cons p q⟩
theorem rows_lt5 {tv : List Value} {rows : List (List Nat)} {R : List Slot} (hr : TbRows tv rows R) : ∀ ks ∈ rows, ∀ k ∈ ks, k < 5 := by
  induction hr with
  | nil => intro k hk; cases hk
  | cons hb _ ih =>
    intro ks hk
    rcases List.mem_cons.mp hk with rfl | hk
    · exact hb.lt5
    · exact ih ks hk
theorem tab_reads {h : Heap} {a e : Nat} {tv : List Value} {rows : List (List Nat)} {R : List Slot} (hg : h.get? a = some (lst tv e)) (hr : TbRows tv rows R) (hh : ∀ x ∈ R, h.get? x.a = some x.o) : ∃ as, Reads h (.ref a) (kqdP (.list (rows.map rD))) as := by
  obtain ⟨as, q⟩ := rows_reads hr hh
  rw [kqdP]
  exact ⟨_, reads_list_at hg rfl rfl (by simpa using q)⟩
theorem tab_ok {rows : List (List Nat)} (h : ∀ ks ∈ rows, ∀ k ∈ ks, k < 5) (n : Nat) : kqdOk (n + 2) (.list (rows.map rD)) = true := by
  unfold kqdOk
  rw [List.all_eq_true]
  intro d hd
  obtain ⟨k, hk, rfl⟩ := List.mem_map.mp hd
  exact rD_ok (h k hk) n
section
variable {prog : Program} {w : World} {T : Tops} {lv : Nat} {H : List Slot}
theorem tx_ne_dat {a b : Nat} {d : Dat} (hok : kqdOk 9 d = true) (ha : ∀ s, Sat T s H → ∃ as, Reads s.heap (.ref a) (kqdP d) as) (hb : ∀ s, Sat T s H → ∃ as, Reads s.heap (.ref b) (kqdP d) as) :
    Tx prog w lv T (compareOp .NotEq (.ref a) (.ref b)) H (fun r H' => r = .bool false ∧ H' = H) := fun A s hA hS => by
  obtain ⟨as, ra⟩ := ha s hS
  obtain ⟨bs, rb⟩ := hb s hS
  have la := kqd_lay 9 d hok
  have e : PyData.eqv (kqdP d) (kqdP d) = true := (kqd_eqv 9 d d 9 hok hok).mpr rfl
  refine ne_dataH ra rb ?_ ?_ (by have := hA.units; unfold cLine; lia) ?_
  · unfold SeqAt.shaped; rw [la.1, Bool.true_and]; exact decide_eq_true (Nat.le_trans la.2 (by decide))
  · unfold SeqAt.shaped; rw [la.1, Bool.true_and]; exact decide_eq_true (Nat.le_trans la.2 (by decide))
  · rw [e]; exact ⟨H, ⟨rfl, rfl⟩, Post.refl hS⟩
theorem tx_ne_list {a b ea eb : Nat} {wa wb : Bool} {vs us : List Value} {ks : List Nat} (ha : Bx vs ks) (hb : Bx us ks) (ma : ⟨wa, a, lst vs ea⟩ ∈ H) (mb : ⟨wb, b, lst us eb⟩ ∈ H) :
    Tx prog w lv T (compareOp .NotEq (.ref a) (.ref b)) H (fun r H' => r = .bool false ∧ H' = H) :=
  tx_ne_dat (rD_ok ha.lt5 8) (fun s hS => lst_reads (hS.has _ ma) ha) (fun s hS => lst_reads (hS.has _ mb) hb)
theorem tx_ne_tab {a b ea eb : Nat} {vs us : List Value} {rows : List (List Nat)} {R1 R2 : List Slot} (ha : TbRows vs rows R1) (hb : TbRows us rows R2) (ma : ⟨true, a, lst vs ea⟩ ∈ H) (mb : ⟨true, b, lst us eb⟩ ∈ H) (h1 : ∀ x ∈ R1, x ∈ H) (h2 : ∀ x ∈ R2, x ∈ H) :
    Tx prog w lv T (compareOp .NotEq (.ref a) (.ref b)) H (fun r H' => r = .bool false ∧ H' = H) :=
  tx_ne_dat (tab_ok (rows_lt5 ha) 7) (fun s hS => tab_reads (hS.has _ ma) ha fun x hx => hS.has _ (h1 x hx)) (fun s hS => tab_reads (hS.has _ mb) hb fun x hx => hS.has _ (h2 x hx))
end
end Mine
namespace Mine
open PySem PySem.W PySem.W.X PyProof.Rows
section
variable {prog : Program} {w : World} {T : Tops} {lv : Nat} {H H0 R : List Slot}
theorem Tx.on {α : Type} {t : Sem α} {Ψ0 Ψ : α → List Slot → Prop} (h : Tx prog w lv T t H0 Ψ0) (c : Cov H (H0 ++ R)) (ro : ∀ a H1, Ψ0 a H1 → ∀ x ∈ H1, x.w = false → x ∈ H0) (k : ∀ a H1, Ψ0 a H1 → Ψ a (H1 ++ R)) : Tx prog w lv T t H Ψ :=
  Tx.ofcov c ((Tx.frame (R := R) h ro).mono fun a H' ⟨H1, h1, e⟩ => by subst e; exact k a H1 h1)
theorem Tri.on {c : Code} {Φ0 Φ : Result → List Slot → Prop} (h : Tri prog w lv T c H0 Φ0) (e : Cov H (H0 ++ R)) (ro : ∀ a H1, Φ0 a H1 → ∀ x ∈ H1, x.w = false → x ∈ H0) (k : ∀ a H1, Φ0 a H1 → Φ a (H1 ++ R)) : Tri prog w lv T c H Φ :=
  Tri.ofcov e ((Tri.frame (R := R) h ro).mono _ _ (Nat.le_refl _) fun a H' ⟨H1, h1, e⟩ => by subst e; exact k a H1 h1)
open Classical in
theorem cov_of {G : List Slot} (X : List Slot) (h : ∀ x, (G ++ X).count x = H.count x) : Cov H G := ⟨X, perm_of h⟩
/-- runs of slots, by place and length -/
noncomputable def pkR : List (Nat × Nat) → List Slot → List Slot
  | [], _ => []
  | (i, n) :: r, H => (H.drop i).take n ++ pkR r (H.take i ++ (H.drop i).drop n)
theorem pkR_cov : ∀ (r : List (Nat × Nat)) (H : List Slot), Cov H (pkR r H)
  | [], H => ⟨H, .refl _⟩
  | (i, n) :: r, H => by
    obtain ⟨X, p⟩ := pkR_cov r (H.take i ++ (H.drop i).drop n)
    refine ⟨X, ?_⟩
    unfold pkR
    rw [List.append_assoc]
    refine (p.append_left _).trans ?_
    refine (List.perm_append_comm_assoc _ _ _).trans ?_
    rw [List.take_append_drop, List.take_append_drop]
theorem cov_r (r : List (Nat × Nat)) {H G : List Slot} (h : pkR r H = G) : Cov H G := h ▸ pkR_cov r H
end
theorem wr_ro {A B' : List Slot} (hA : ∀ x ∈ A, x.w = true) : ∀ x ∈ A, x.w = false → x ∈ B' := fun x hx hw => by rw [hA x hx] at hw; cases hw
noncomputable def laIf (j : Nat) : Stmt := .If (.Compare (cmL (ifT (stAt 16 j))) [.NotEq] [cmR (ifT (stAt 16 j))] (ifT (stAt 16 j)).pos) (ifB (stAt 16 j)) [] (stAt 16 j).pos
theorem la_body : fnB (st 16) = (fnB (st 16)).take 2 ++ (.For (forT laF1) (forI laF1) (forB laF1) [] laF1.pos :: ([stAt 16 3] ++ ([stAt 16 4] ++ (laIf 5 :: .For (forT lbF) (forI lbF) (forB lbF) [] lbF.pos :: ([stAt 16 7] ++ (.For (forT lbT) (forI lbT) (forB lbT) [] lbT.pos :: laIf 9 :: laIf 10 :: [stAt 16 11])))))) := by kernel_rfl
theorem lb_body : forB lbT = [(forB lbT).getD 0 default] ++ ([(forB lbT).getD 1 default] ++ [.If (.BoolOp .Or [.Compare (cmL (boL (ifT lbI))) [.NotEq] [cmR (boL (ifT lbI))] (boL (ifT lbI)).pos, .Compare (cmL (boR (ifT lbI))) [.NotEq] [cmR (boR (ifT lbI))] (boR (ifT lbI)).pos] (ifT lbI).pos) (ifB lbI) [] lbI.pos]) := by kernel_rfl
theorem la_m5 : behindInMarks .NotEq (cmR (ifT (stAt 16 5))) = false := by kernel_rfl
theorem la_m9 : behindInMarks .NotEq (cmR (ifT (stAt 16 9))) = false := by kernel_rfl
theorem la_m10 : behindInMarks .NotEq (cmR (ifT (stAt 16 10))) = false := by kernel_rfl
theorem lb_m1 : behindInMarks .NotEq (cmR (boL (ifT lbI))) = false := by kernel_rfl
theorem lb_m2 : behindInMarks .NotEq (cmR (boR (ifT lbI))) = false := by kernel_rfl
noncomputable abbrev lB5 (S t : Nat) (tx : Str) (tt : Nat) (wx wb : Value) (r : List (Str × Value)) : List (Str × Value) :=
  (s_script, .ref S) :: (s_strip, .ref t) :: (s_text, .str tx tt) :: (s_x, wx) :: (s_box, wb) :: r
noncomputable abbrev lR6 (q : Nat) (r : List (Str × Value)) : List (Str × Value) := (s_told, .ref q) :: r
noncomputable abbrev lR7 (q z : Nat) (r : List (Str × Value)) : List (Str × Value) := lR6 q ((s_boxes, .ref z) :: r)
noncomputable abbrev lR9 (q z y : Nat) (wn : Value) : List (Str × Value) := lR7 q z [(s_turn, wn), (s_due, .ref y)]
section
variable (prog : Program) (d : Source → Nat → Nat) (P : Params) (b1 b2 : Bool) {T : Tops} (hT : ∀ a o, (topT P).get a = some o → T a o)
include hT
theorem la_tail {X : LX} (hX : X.ok) {ln : Int} {tl eb es L C S t q z y ez et tt : Nat} {κ : Nat → Int} {τ : Nat → Nat} {tx : Str} {wx wb wn : Value} {pb zv tv : List Value} {bs ks : List Nat}
    (hp : Bx pb bs) (hz : Bx zv bs) (ht : Bx tv ks) (h1 : 0 < bs.length) (h2 : bs.length < 500) (h3 : 0 < ks.length) (h4 : ks.length < 10000) (htb : tbN bs [] = tbN ks []) (hln : decide (ln = Txt.count tx sx4 + 1) = true) :
    Tx prog (wd d P b1 b2) 9 T (execs (laIf 9 :: laIf 10 :: [stAt 16 11]) (laEnv P L C)) (lexS X ln tl pb eb [] es ++ [⟨true, C, celO (.ref X.I)⟩, ⟨true, L, frm κ τ (lB5 S t tx tt wx wb (lR9 q z y wn))⟩, ⟨true, z, lst zv ez⟩, ⟨true, t, lst tv et⟩]) (fun f _ => f = .ret (.bool true)) := by
  generalize hfo : frm κ τ (lB5 S t tx tt wx wb (lR9 q z y wn)) = fo
  refine tx_execs_cons (tx_If (tx_isTrue_cmp la_m9 ?_))
  refine Tx.on (H0 := [⟨true, L, fo⟩, ⟨true, z, lst zv ez⟩]) (R := lexS X ln tl pb eb [] es ++ [⟨true, C, celO (.ref X.I)⟩, ⟨true, t, lst tv et⟩]) (Ψ0 := fun r H1 => ∃ a e av R1, r = .ref a ∧ TbRows av (tbN bs []) R1 ∧ H1 = [⟨true, L, fo⟩, ⟨true, z, lst zv ez⟩, ⟨true, a, lst av e⟩] ++ R1) (by subst hfo; exact jaVP hT (lb_t1 prog P b1 b2) (lb_t1_ok prog d P b1 b2 hT (by decide)) (fun O => k1 ⟨hz, h1, by lia⟩) fun O hq => ⟨_, _, _, _, rfl, hq, rfl⟩) (cov_r [(10, 2), (0, 11)] (by kernel_rfl)) ?_ ?_
  · rintro _ _ ⟨a, e, av, R1, rfl, hr, rfl⟩
    refine wr_ro ?_
    have := hr.wr
    simpa using this
  rintro _ _ ⟨a, e, av, R1, rfl, hr1, rfl⟩
  refine Tx.on (H0 := [⟨true, L, fo⟩, ⟨true, t, lst tv et⟩]) (R := lexS X ln tl pb eb [] es ++ ([⟨true, C, celO (.ref X.I)⟩, ⟨true, z, lst zv ez⟩, ⟨true, a, lst av e⟩] ++ R1)) (Ψ0 := fun r H1 => ∃ a e av R1, r = .ref a ∧ TbRows av (tbN ks []) R1 ∧ H1 = [⟨true, L, fo⟩, ⟨true, t, lst tv et⟩, ⟨true, a, lst av e⟩] ++ R1) (by subst hfo; exact jaVP hT (lb_t3 prog P b1 b2) (lb_t3_ok prog d P b1 b2 hT (by decide)) (fun O => k1 ⟨ht, h3, h4⟩) fun O hq => ⟨_, _, _, _, rfl, hq, rfl⟩) (cov_of [] fun x => ?_) ?_ ?_
  · simp only [List.cons_append, List.nil_append, List.append_nil, List.count_append, List.count_cons, List.count_nil]; lia
  · rintro _ _ ⟨a, e, av, R1, rfl, hr, rfl⟩
    refine wr_ro ?_
    have := hr.wr
    simpa using this
  rintro _ _ ⟨a2, e2, av2, R2, rfl, hr2, rfl⟩
  rw [← htb] at hr2
  refine (tx_ne_tab (ea := e) (eb := e2) hr1 hr2 (by simp) (by simp) (fun x hx => by simp [hx]) (fun x hx => by simp [hx])).mono ?_
  rintro _ _ ⟨rfl, rfl⟩
  refine ⟨false, rfl, ?_⟩
  refine it_f ?_
  refine tx_execs_nil ?_
  show Tx _ _ _ _ (execs (laIf 10 :: [stAt 16 11]) _) _ _
  refine Tx.ofcov (G := lexS X ln tl pb eb [] es ++ [⟨true, C, celO (.ref X.I)⟩, ⟨true, L, fo⟩, ⟨true, z, lst zv ez⟩]) (cov_of ([⟨true, t, lst tv et⟩, ⟨true, a, lst av e⟩, ⟨true, a2, lst av2 e2⟩] ++ (R1 ++ R2)) fun x => ?_) ?_
  · simp only [List.cons_append, List.nil_append, List.append_nil, List.count_append, List.count_cons, List.count_nil]; lia
  refine tx_execs_cons (tx_If (tx_isTrue_cmp la_m10 ?_))
  refine Tx.mono (Ψ := fun r H1 => ∃ a e av tl eb es X1 X2, r = .ref a ∧ Bx av bs ∧ H1 = lexS X ln tl [] eb [] es ++ [⟨true, C, celO (.ref X.I)⟩, ⟨true, L, fo⟩, ⟨true, z, lst zv ez⟩, X1, ⟨true, a, lst av e⟩, X2]) (by subst hfo; exact jaVP hT (lb_u1 prog P b1 b2) (lb_u1_ok prog d P b1 b2 hT (by decide)) (fun O => k2 hX ⟨hp, ⟨bs, hz, rfl⟩, h1, h2⟩) fun O hq => ⟨_, _, _, _, _, _, _, _, rfl, hq, rfl⟩) ?_
  rintro _ _ ⟨a3, e3, av3, tl3, eb3, es3, X1, X2, rfl, hb3, rfl⟩
  refine Tx.on (H0 := [⟨true, L, fo⟩]) (R := lexS X ln tl3 [] eb3 [] es3 ++ [⟨true, C, celO (.ref X.I)⟩, ⟨true, z, lst zv ez⟩, ⟨true, a3, lst av3 e3⟩]) (Ψ0 := fun r H1 => r = .ref z ∧ H1 = [⟨true, L, fo⟩]) (by subst hfo; exact jaV hT (lb_u2 prog P b1 b2) (lb_u2_ok prog d P b1 b2 hT (by decide)) k0 fun O => ⟨rfl, rfl⟩) (cov_r [(10, 1), (0, 11), (1, 1)] (by kernel_rfl)) ?_ ?_
  · rintro _ _ ⟨rfl, rfl⟩
    exact wr_ro (allW_mem rfl)
  rintro _ _ ⟨rfl, rfl⟩
  refine (tx_ne_list (ea := e3) (eb := ez) (wa := true) (wb := true) hb3 hz (by simp) (by simp)).mono ?_
  rintro _ _ ⟨rfl, rfl⟩
  refine ⟨false, rfl, ?_⟩
  refine it_f ?_
  refine tx_execs_nil ?_
  show Tx _ _ _ _ (execs [stAt 16 11] _) _ _
  refine Tx.ofcov (G := lexS X ln tl3 [] eb3 [] es3 ++ [⟨true, C, celO (.ref X.I)⟩, ⟨true, L, fo⟩]) (cov_r [(1, 10), (0, 1)] (by kernel_rfl)) ?_
  subst hfo
  exact jaE hT (lb_v prog P b1 b2) (lb_v_ok prog d P b1 b2 hT (by decide)) (fun O => k1 hln) fun O => rfl
end
/-- what a round does, in numbers -/
noncomputable def RF (ks bx : List Nat) : Prop := ∃ due, lpN ks = some due ∧ ledGo 60 ks ks.length [] [] = some (bx, []) ∧ due.take bx.length = bx ∧ (∀ k ∈ due.drop bx.length, k = 0) ∧ ks.length < 400 ∧ 0 < bx.length ∧ bx.length < 400
noncomputable abbrev lR8 (q z : Nat) (wn : Value) (r : List (Str × Value)) : List (Str × Value) := lR7 q z ((s_turn, wn) :: r)
noncomputable def lrR (r : List (Str × Value)) : Prop := r = [] ∨ ∃ y : Nat, r = [(s_due, .ref y)]
section
variable (prog : Program) (d : Source → Nat → Nat) (P : Params) (b1 b2 : Bool) {T : Tops} (hT : ∀ a o, (topT P).get a = some o → T a o)
include hT
theorem la_round {X : LX} (hX : X.ok) {ln : Int} {tl eb es L C S t q z ez tt : Nat} {κ : Nat → Int} {τ : Nat → Nat} {tx : Str} {wx wb wn : Value} {pb zv : List Value} {ks bx : List Nat} {r : List (Str × Value)} (hr : lrR r)
    (hp : Bx pb ks) (hz : Bx zv ks) (h0 : 0 < ks.length) (hf : RF ks bx) {Ψ : Flow → List Slot → Prop}
    (k : ∀ κ τ z' ez' y eb pb' zv', Bx pb' bx → Bx zv' bx → Ψ .next (lexS X ln tl pb' eb [] es ++ [⟨true, C, celO (.ref X.I)⟩, ⟨true, L, frm κ τ (lB5 S t tx tt wx wb (lR9 q z' y wn))⟩, ⟨true, z', lst zv' ez'⟩])) :
    Tx prog (wd d P b1 b2) 8 T (execs (forB lbT) (laEnv P L C)) (lexS X ln tl pb eb [] es ++ [⟨true, C, celO (.ref X.I)⟩, ⟨true, L, frm κ τ (lB5 S t tx tt wx wb (lR8 q z wn r))⟩, ⟨true, z, lst zv ez⟩]) Ψ := by
  obtain ⟨due, f1, f2, f3, f4, f5, f6, f7⟩ := hf
  have hzl := hz.length
  rw [lb_body]
  refine tx_app ?_
  -- due
  have hd : Tx prog (wd d P b1 b2) 8 T (execs [(forB lbT).getD 0 default] (laEnv P L C)) [⟨true, L, frm κ τ (lB5 S t tx tt wx wb (lR8 q z wn r))⟩, ⟨true, z, lst zv ez⟩] (fun f H1 => f = .next ∧ ∃ κ τ y yv ey, Bx yv due ∧ H1 = [⟨true, L, frm κ τ (lB5 S t tx tt wx wb (lR9 q z y wn))⟩, ⟨true, z, lst zv ez⟩, ⟨true, y, lst yv ey⟩]) := by
    rcases hr with rfl | ⟨y, rfl⟩
    · exact jaEP hT (lb_d0 prog P b1 b2) (lb_d0_ok prog d P b1 b2 hT (by decide)) (fun O => k1 ⟨hz, h0, by lia, f1⟩) fun O hq => ⟨rfl, _, _, _, _, _, hq, rfl⟩
    · exact jaEP hT (lb_d1 prog P b1 b2) (lb_d1_ok prog d P b1 b2 hT (by decide)) (fun O => k1 ⟨hz, h0, by lia, f1⟩) fun O hq => ⟨rfl, _, _, _, _, _, hq, rfl⟩
  refine Tx.on hd (R := lexS X ln tl pb eb [] es ++ [⟨true, C, celO (.ref X.I)⟩]) (cov_r [(10, 2), (0, 10)] (by kernel_rfl)) ?_ ?_
  · rintro _ _ ⟨rfl, κ, τ, y, yv, ey, hy, rfl⟩
    exact wr_ro (allW_mem rfl)
  rintro _ _ ⟨rfl, κ, τ, y, yv, ey, hy, rfl⟩
  refine ⟨rfl, tx_app ?_⟩
  -- boxes
  refine Tx.on (H0 := lexS X ln tl pb eb [] es ++ [⟨true, C, celO (.ref X.I)⟩, ⟨true, L, frm κ τ (lB5 S t tx tt wx wb (lR9 q z y wn))⟩, ⟨true, z, lst zv ez⟩]) (R := [⟨true, y, lst yv ey⟩])
    (Ψ0 := fun f H1 => f = .next ∧ ∃ pb' eb z' zv' ez', Bx pb' bx ∧ Bx zv' bx ∧ H1 = lexS X ln tl pb' eb [] es ++ [⟨true, C, celO (.ref X.I)⟩, ⟨true, L, frm κ τ (lB5 S t tx tt wx wb (lR9 q z' y wn))⟩, ⟨true, z, lst zv ez⟩, ⟨true, z', lst zv' ez'⟩])
    (jaEP hT (lb_e prog P b1 b2) (lb_e_ok prog d P b1 b2 hT (by decide)) (fun O => k4 (by lia) hX (by lia) ⟨hp, h0, by lia, f6, by lia, f2⟩) fun O hq => ⟨rfl, _, _, _, _, _, hq.1, hq.2, rfl⟩) (cov_r [(3, 10), (0, 3)] (by kernel_rfl)) ?_ ?_
  · rintro _ _ ⟨rfl, pb', eb, z', zv', ez', hp', hz', rfl⟩
    exact lexS_ro (allW_mem rfl)
  rintro _ _ ⟨rfl, pb', eb, z', zv', ez', hp', hz', rfl⟩
  refine ⟨rfl, ?_⟩
  have hzl' := hz'.length
  have hyl := hy.length
  have hdl : due.length < 100000 := by
    have h1 := congrArg List.length (List.take_append_drop bx.length due)
    have : ∀ (n : Nat) (bl : List Bl) (b c : List Nat), lpGo n bl b = some c → c.length = b.length := by
      intro n
      induction n with
      | zero => intro bl b c h; cases h
      | succ n ih =>
        intro bl b c h
        unfold lpGo at h
        split at h
        · cases h; rfl
        · split at h
          · cases h
          · rw [ih _ _ _ h]; simp
    have h2 := this _ _ _ _ f1
    have h3 := ballsFrom_len ks 0
    rw [h2]; simp; lia
  generalize hfo : frm κ τ (lB5 S t tx tt wx wb (lR9 q z' y wn)) = fo
  refine tx_execs_cons (tx_If (tx_isTrue_or2 (tx_isTrue_cmp lb_m1 ?_)))
  refine Tx.on (H0 := [⟨true, L, fo⟩, ⟨true, y, lst yv ey⟩, ⟨true, z', lst zv' ez'⟩]) (R := lexS X ln tl pb' eb [] es ++ [⟨true, C, celO (.ref X.I)⟩])
    (Ψ0 := fun r H1 => ∃ a x1, r = .ref a ∧ x1.w = true ∧ H1 = [⟨true, L, fo⟩, ⟨true, y, lst yv ey⟩, ⟨true, z', lst zv' ez'⟩, x1, ⟨true, a, lst (yv.take zv'.length) 0⟩])
    (by subst hfo; exact jaV hT (lb_l1 prog P b1 b2) (lb_l1_ok prog d P b1 b2 hT (by decide)) (fun O => k3 (by lia) ⟨rfl, by lia⟩ (by lia)) fun O => ⟨_, _, rfl, by exact rfl, rfl⟩) (cov_r [(10, 1), (12, 1), (11, 1), (0, 10)] (by kernel_rfl)) ?_ ?_
  · rintro _ _ ⟨a, x1, rfl, hw, rfl⟩
    exact wr_ro (by simp [hw])
  rintro _ _ ⟨a, x1, rfl, hw, rfl⟩
  refine Tx.on (H0 := [⟨true, L, fo⟩]) (R := lexS X ln tl pb' eb [] es ++ [⟨true, C, celO (.ref X.I)⟩, ⟨true, z', lst zv' ez'⟩, ⟨true, y, lst yv ey⟩, ⟨true, a, lst (yv.take zv'.length) 0⟩]) (Ψ0 := fun r H1 => r = .ref z' ∧ H1 = [⟨true, L, fo⟩])
    (by subst hfo; exact jaV hT (lb_r1 prog P b1 b2) (lb_r1_ok prog d P b1 b2 hT (by decide)) k0 fun O => ⟨rfl, rfl⟩) (cov_r [(0, 1), (4, 10), (1, 1), (0, 1), (1, 1)] (by kernel_rfl)) ?_ ?_
  · rintro _ _ ⟨rfl, rfl⟩
    exact wr_ro (allW_mem rfl)
  rintro _ _ ⟨rfl, rfl⟩
  have ht : Bx (yv.take zv'.length) bx := by
    have := hy.take zv'.length
    rw [hzl', f3] at this
    rw [hzl']; exact this
  refine (tx_ne_list (ea := 0) (eb := ez') (wa := true) (wb := true) ht hz' (by simp) (by simp)).mono ?_
  rintro _ _ ⟨rfl, rfl⟩
  refine ⟨false, rfl, ?_⟩
  refine it_f ?_
  refine tx_isTrue_cmp lb_m2 ?_
  have hdr : Bx (yv.drop zv'.length) (List.replicate (yv.drop zv'.length).length 0) := by
    have h := hy.drop zv'.length
    have hl := h.length
    have e : due.drop zv'.length = List.replicate (due.drop zv'.length).length 0 := List.eq_replicate_iff.mpr ⟨rfl, by rw [hzl']; exact f4⟩
    rw [hl, ← e]; exact h
  refine Tx.on (H0 := [⟨true, L, fo⟩, ⟨true, y, lst yv ey⟩, ⟨true, z', lst zv' ez'⟩]) (R := lexS X ln tl pb' eb [] es ++ [⟨true, C, celO (.ref X.I)⟩])
    (Ψ0 := fun r H1 => ∃ a x1 x2, r = .str ⟨#[]⟩ a ∧ x1.w = true ∧ x2.w = true ∧ H1 = [⟨true, L, fo⟩, ⟨true, y, lst yv ey⟩, ⟨true, z', lst zv' ez'⟩, x1, x2])
    (by subst hfo; exact jaV hT (lb_l2 prog P b1 b2) (lb_l2_ok prog d P b1 b2 hT (by decide)) (fun O => k5 (by lia) ⟨rfl, by lia⟩ (by lia) rfl hdr) fun O => ⟨_, _, _, rfl, by exact rfl, by exact rfl, rfl⟩) (cov_r [(0, 1), (11, 1), (10, 1), (0, 10)] (by kernel_rfl)) ?_ ?_
  · rintro _ _ ⟨a, x1, x2, rfl, hw, hw2, rfl⟩
    exact wr_ro (by simp [hw, hw2])
  rintro _ _ ⟨a1, x1, x2, rfl, hw, hw2, rfl⟩
  refine Tx.on (H0 := [⟨true, L, fo⟩]) (R := lexS X ln tl pb' eb [] es ++ [⟨true, C, celO (.ref X.I)⟩, ⟨true, z', lst zv' ez'⟩]) (Ψ0 := fun r H1 => (∃ a, r = .str ⟨#[]⟩ a) ∧ H1 = [⟨true, L, fo⟩])
    (by subst hfo; exact jaV hT (lb_r2 prog P b1 b2) (lb_r2_ok prog d P b1 b2 hT (by decide)) k0 fun O => ⟨⟨_, rfl⟩, rfl⟩) (cov_r [(0, 1), (4, 10), (1, 1)] (by kernel_rfl)) ?_ ?_
  · rintro _ _ ⟨⟨a, rfl⟩, rfl⟩
    exact wr_ro (allW_mem rfl)
  rintro _ _ ⟨⟨a2, rfl⟩, rfl⟩
  refine Tx.on (H0 := []) (R := lexS X ln tl pb' eb [] es ++ [⟨true, C, celO (.ref X.I)⟩, ⟨true, L, fo⟩, ⟨true, z', lst zv' ez'⟩]) (Ψ0 := fun r H1 => r = .bool false ∧ H1 = [])
    (jaC hT (lb_ne prog P b1 b2) (lb_ne_ok prog d P b1 b2 hT (by decide)) (fun O => k1 rfl) fun O => ⟨rfl, rfl⟩) (cov_r [(1, 10), (0, 2)] (by kernel_rfl)) ?_ ?_
  · rintro _ _ ⟨rfl, rfl⟩
    exact wr_ro (allW_mem rfl)
  rintro _ _ ⟨rfl, rfl⟩
  refine ⟨false, rfl, ?_⟩
  refine it_f ?_
  refine tx_execs_nil (tx_execs_nil ?_)
  subst hfo
  exact k κ τ z' ez' y eb pb' zv' hp' hz'
end
noncomputable def ltR (r : List (Str × Value)) : Prop := r = [] ∨ ∃ (wn : Value) (y : Nat), r = [(s_turn, wn), (s_due, .ref y)]
theorem tri_block_nil_cov {prog : Program} {w : World} {T : Tops} {lv : Nat} {H : List Slot} {env : Env} {Φ : Result → List Slot → Prop} (h : ∃ G, Cov H G ∧ Φ (.ok .next) G) : Tri prog w lv T (.block [] env) H Φ := Tri.cov (tri_block_nil h)
section
variable (prog : Program) (d : Source → Nat → Nat) (P : Params) (b1 b2 : Bool) {T : Tops} (hT : ∀ a o, (topT P).get a = some o → T a o)
include hT
theorem la_turnT {X : LX} (hX : X.ok) {ln : Int} {tl eb es L C S t q z ez tt it : Nat} {κ : Nat → Int} {τ : Nat → Nat} {tx : Str} {wx wb : Value} {pb zv : List Value} {ks bx : List Nat} {r : List (Str × Value)} {kk m : Int} (hm : 0 < m) (hr : ltR r)
    (hp : Bx pb ks) (hz : Bx zv ks) (h0 : 0 < ks.length) (hf : RF ks bx) {Φ : Result → List Slot → Prop}
    (k : ∀ κ τ z' ez' y wn eb pb' zv', Bx pb' bx → Bx zv' bx → Tri prog (wd d P b1 b2) 9 T (lbTFor P L C it) (lexS X ln tl pb' eb [] es ++ [⟨true, C, celO (.ref X.I)⟩, ⟨true, L, frm κ τ (lB5 S t tx tt wx wb (lR9 q z' y wn))⟩, ⟨true, z', lst zv' ez'⟩, ⟨true, it, ritO (kk + 1) (m - 1) 1⟩]) Φ) :
    Tri prog (wd d P b1 b2) 9 T (lbTFor P L C it) (lexS X ln tl pb eb [] es ++ [⟨true, C, celO (.ref X.I)⟩, ⟨true, L, frm κ τ (lB5 S t tx tt wx wb (lR7 q z r))⟩, ⟨true, z, lst zv ez⟩, ⟨true, it, ritO kk m 1⟩]) Φ := by
  refine tri_for (lv := 8) (fun _ => rfl) ?_
  refine Tx.on (H0 := [⟨true, it, ritO kk m 1⟩]) (R := lexS X ln tl pb eb [] es ++ [⟨true, C, celO (.ref X.I)⟩, ⟨true, L, frm κ τ (lB5 S t tx tt wx wb (lR7 q z r))⟩, ⟨true, z, lst zv ez⟩])
    (Ψ0 := fun r H1 => ∃ tn, r = some (.int kk tn) ∧ H1 = [⟨true, it, ritO (kk + 1) (m - 1) 1⟩]) (jaN hT (lb_hn prog P b1 b2) (lb_hn_ok prog d P b1 b2 hT (by decide)) (fun O => k1 hm) fun O => ⟨_, rfl, rfl⟩) (cov_r [(12, 1), (0, 12)] (by kernel_rfl)) ?_ ?_
  · rintro _ _ ⟨tn, rfl, rfl⟩
    exact wr_ro (allW_mem rfl)
  rintro _ _ ⟨tn, rfl, rfl⟩
  have asg : Tx prog (wd d P b1 b2) 8 T (assign (forT lbT) (laEnv P L C) (.int kk tn)) [⟨true, L, frm κ τ (lB5 S t tx tt wx wb (lR7 q z r))⟩] (fun _ H1 => ∃ κ τ r', lrR r' ∧ H1 = [⟨true, L, frm κ τ (lB5 S t tx tt wx wb (lR8 q z (.int kk tn) r'))⟩]) := by
    rcases hr with rfl | ⟨wn, y, rfl⟩
    · exact jaS hT (lb_ha0 prog P b1 b2) (lb_ha0_ok prog d P b1 b2 hT (by decide)) k0 fun O => ⟨_, _, _, .inl rfl, rfl⟩
    · exact jaS hT (lb_ha1 prog P b1 b2) (lb_ha1_ok prog d P b1 b2 hT (by decide)) k0 fun O => ⟨_, _, _, .inr ⟨_, rfl⟩, rfl⟩
  refine Tx.on asg (R := lexS X ln tl pb eb [] es ++ [⟨true, C, celO (.ref X.I)⟩, ⟨true, z, lst zv ez⟩, ⟨true, it, ritO (kk + 1) (m - 1) 1⟩]) (cov_r [(11, 1), (1, 11), (0, 1)] (by kernel_rfl)) ?_ ?_
  · rintro _ _ ⟨κ, τ, r', hr', rfl⟩
    exact wr_ro (allW_mem rfl)
  rintro _ _ ⟨κ, τ, r', hr', rfl⟩
  refine Tx.on (H0 := lexS X ln tl pb eb [] es ++ [⟨true, C, celO (.ref X.I)⟩, ⟨true, L, frm κ τ (lB5 S t tx tt wx wb (lR8 q z (.int kk tn) r'))⟩, ⟨true, z, lst zv ez⟩]) (R := [⟨true, it, ritO (kk + 1) (m - 1) 1⟩])
    (Ψ0 := fun f H1 => f = .next ∧ ∃ κ τ z' ez' y eb pb' zv', Bx pb' bx ∧ Bx zv' bx ∧ H1 = lexS X ln tl pb' eb [] es ++ [⟨true, C, celO (.ref X.I)⟩, ⟨true, L, frm κ τ (lB5 S t tx tt wx wb (lR9 q z' y (.int kk tn)))⟩, ⟨true, z', lst zv' ez'⟩])
    (la_round prog d P b1 b2 hT hX hr' hp hz h0 hf fun κ τ z' ez' y eb pb' zv' h1 h2 => ⟨rfl, κ, τ, z', ez', y, eb, pb', zv', h1, h2, rfl⟩) (cov_r [(1, 10), (0, 3)] (by kernel_rfl)) ?_ ?_
  · rintro _ _ ⟨rfl, κ, τ, z', ez', y, eb, pb', zv', h1, h2, rfl⟩
    exact lexS_ro (allW_mem rfl)
  rintro _ _ ⟨rfl, κ, τ, z', ez', y, eb, pb', zv', h1, h2, rfl⟩
  have := k κ τ z' ez' y (.int kk tn) eb pb' zv' h1 h2
  rw [List.append_assoc]
  exact this
theorem la_rounds {X : LX} (hX : X.ok) {ln : Int} {tl eb es L C S t q z ez tt it : Nat} {κ : Nat → Int} {τ : Nat → Nat} {tx : Str} {wx wb : Value} {pb zv : List Value} {ks bs cs : List Nat}
    (hp : Bx pb ks) (hz : Bx zv ks) (h0 : 0 < ks.length) (hf : RF ks bs) (hg : RF bs cs) :
    Tri prog (wd d P b1 b2) 9 T (lbTFor P L C it) (lexS X ln tl pb eb [] es ++ [⟨true, C, celO (.ref X.I)⟩, ⟨true, L, frm κ τ (lB5 S t tx tt wx wb (lR7 q z []))⟩, ⟨true, z, lst zv ez⟩, ⟨true, it, ritO 0 2 1⟩])
      (okF fun f H' => f = .next ∧ ∃ κ τ z' ez' y wn eb pb' zv', Bx pb' cs ∧ Bx zv' cs ∧ H' = lexS X ln tl pb' eb [] es ++ [⟨true, C, celO (.ref X.I)⟩, ⟨true, L, frm κ τ (lB5 S t tx tt wx wb (lR9 q z' y wn))⟩, ⟨true, z', lst zv' ez'⟩]) := by
  refine la_turnT prog d P b1 b2 hT hX (by decide) (.inl rfl) hp hz h0 hf fun κ τ z ez y wn eb pb zv hp hz => ?_
  have h1 : 0 < bs.length := by obtain ⟨_, _, _, _, _, _, h, _⟩ := hf; exact h
  refine la_turnT prog d P b1 b2 hT hX (by decide) (.inr ⟨wn, y, rfl⟩) hp hz h1 hg fun κ τ z ez y wn eb pb zv hp hz => ?_
  show Tri _ _ _ _ _ (lexS X ln tl pb eb [] es ++ [⟨true, C, celO (.ref X.I)⟩, ⟨true, L, frm κ τ (lB5 S t tx tt wx wb (lR9 q z y wn))⟩, ⟨true, z, lst zv ez⟩, ⟨true, it, ritO 2 0 1⟩]) _
  refine tri_for (lv := 8) (fun _ => rfl) ?_
  refine Tx.on (H0 := [⟨true, it, ritO 2 0 1⟩]) (R := lexS X ln tl pb eb [] es ++ [⟨true, C, celO (.ref X.I)⟩, ⟨true, L, frm κ τ (lB5 S t tx tt wx wb (lR9 q z y wn))⟩, ⟨true, z, lst zv ez⟩])
    (Ψ0 := fun r H1 => r = none ∧ ∃ x1 x2 x3 : Slot, x1.w = true ∧ x2.w = true ∧ x3.w = true ∧ H1 = [x1, x2, x3]) (jaN hT (lb_hx prog P b1 b2) (lb_hx_ok prog d P b1 b2 hT (by decide)) (fun O => k1 (by decide)) fun O => ⟨rfl, _, _, _, by exact rfl, by exact rfl, by exact rfl, rfl⟩) (cov_r [(12, 1), (0, 12)] (by kernel_rfl)) ?_ ?_
  · rintro _ _ ⟨rfl, x1, x2, x3, w1, w2, w3, rfl⟩
    exact wr_ro (by simp [w1, w2, w3])
  rintro _ _ ⟨rfl, x1, x2, x3, w1, w2, w3, rfl⟩
  refine Tx.ofcov (G := lexS X ln tl pb eb [] es ++ [⟨true, C, celO (.ref X.I)⟩, ⟨true, L, frm κ τ (lB5 S t tx tt wx wb (lR9 q z y wn))⟩, ⟨true, z, lst zv ez⟩]) (cov_r [(3, 12)] (by kernel_rfl)) ?_
  exact tx_execs_nil ⟨.next, rfl, rfl, κ, τ, z, ez, y, wn, eb, pb, zv, hp, hz, rfl⟩
theorem la_push {X : LX} (hX : X.ok) {ln : Int} {tl es L C S t q tt it eq : Nat} {κ : Nat → Int} {τ : Nat → Nat} {tx : Str} {wx : Value} {qv : List Value} : ∀ (rest : List Value) (ks : List Nat) (i : Nat) (pb : List Value) (kp : List Nat) (eb : Nat) (wb : Value), Bx rest ks → qv.drop i = rest → Bx pb kp → pb.length + rest.length < 80000 →
    Tri prog (wd d P b1 b2) 4 T (lbFor P L C it) (lexS X ln tl pb eb [] es ++ [⟨true, C, celO (.ref X.I)⟩, ⟨true, L, frm κ τ (lB5 S t tx tt wx wb (lR6 q []))⟩, ⟨true, q, lst qv eq⟩, ⟨true, it, itL q i⟩])
      (okF fun f H' => f = .next ∧ ∃ wb eb pb', Bx pb' (kp ++ ks) ∧ H' = lexS X ln tl pb' eb [] es ++ [⟨true, C, celO (.ref X.I)⟩, ⟨true, L, frm κ τ (lB5 S t tx tt wx wb (lR6 q []))⟩, ⟨true, q, lst qv eq⟩])
  | [], ks, i, pb, kp, eb, wb, hb, hd, hp, hl => by
    cases hb
    have hx : qv[i]? = none := by
      rw [List.getElem?_eq_none_iff]
      have := congrArg List.length hd
      simp at this; lia
    refine jaA (lv := 3) hT (lb_fx prog P b1 b2 (sg := [])) (lb_fx_ok prog d P b1 b2 hT (by decide)) (fun O => k1 hx) fun O => tri_block_nil_cov ⟨_, cov_r [(0, 12)] (by kernel_rfl), .next, rfl, rfl, wb, eb, pb, by simpa using hp, rfl⟩
  | _ :: rest, _, i, pb, kp, eb, wb, .cons (k := k) hk t0 (ks := ks) hb, hd, hp, hl => by
    simp only [List.length_cons] at hl
    have hx : qv[i]? = some (.str (B k) t0) := by
      have : (qv.drop i)[0]? = some (.str (B k) t0) := by rw [hd]; rfl
      rw [List.getElem?_drop] at this
      simpa using this
    have hd' : qv.drop (i + 1) = rest := by
      have := congrArg List.tail hd
      simpa [List.tail_drop] using this
    refine jaA (lv := 3) hT (lb_ft prog P b1 b2 (sg := [])) (lb_ft_ok prog d P b1 b2 hT (by decide)) (fun O => k3 hx hX (by lia)) fun O => ?_
    refine (la_push hX rest ks (i + 1) (pb ++ [.str (B k) t0]) (kp ++ [k]) (eb + 1) (.str (B k) t0) hb hd' (hp.append (.cons hk t0 .nil)) (by simp; lia)).mono _ _ (Nat.le_refl _) ?_
    rintro rr H' ⟨f, rfl, rfl, wb, eb, pb', hb', rfl⟩
    exact ⟨.next, rfl, rfl, wb, eb, pb', by simpa using hb', rfl⟩
end
section
variable (prog : Program) (P : Params) (b1 b2 : Bool)
variable {S ep : Nat} {sv : List Value} {Φ : Result → List Slot → Prop}
noncomputable def la_q_h : List Hint := [.slot 2, .slot 2]
theorem la_q (O : Orc) (S : Nat) (sv : List Value) (ep : Nat) : Seg (run (eE prog P b1 b2 O) 12 la_q_h (.root (preZ 140 (fdOf (to140 P)) ⟨[.ref S], []⟩)) ⟨[wS S (lst sv ep), wS 104 ⟨.none, none, .fields ⟨[]⟩, #[]⟩], 0, 0, 0⟩)
    [] (.pure (laEnv P (O.addr 0) (O.addr 1))) [wS S (lst sv ep), wS 104 ⟨.none, none, .fields ⟨[]⟩, #[]⟩, wS (O.addr 0) (frm (ext zeroI 0 [hz prog (mkP P b1 b2) s_script]) (ext zeroN 0 [O.tok 0]) [(s_script, .ref S)]), wS (O.addr 1) ⟨.type "cell", none, .cell none, #[]⟩] := sg5 (by kernel_rfl)
end
section
variable (prog : Program) (d : Source → Nat → Nat) (P : Params) (b1 b2 : Bool) {T : Tops} (hT : ∀ a o, (topT P).get a = some o → T a o) {lv : Nat}
include hT
variable {S ep : Nat} {sv : List Value} {Φ : Result → List Slot → Prop}
theorem la_q_ok (hl : 0 ≤ lv) : HsOk prog (wd d P b1 b2) T lv la_q_h := trivial
theorem la_q_x (hl : 0 ≤ lv) (hn : ∀ O : Orc, Tri prog (wd d P b1 b2) (lv + 1) T (.func (fnB (st 16)) (laEnv P (O.addr 0) (O.addr 1))) [wS S (lst sv ep), wS 104 ⟨.none, none, .fields ⟨[]⟩, #[]⟩, wS (O.addr 0) (frm (ext zeroI 0 [hz prog (mkP P b1 b2) s_script]) (ext zeroN 0 [O.tok 0]) [(s_script, .ref S)]), wS (O.addr 1) ⟨.type "cell", none, .cell none, #[]⟩] Φ) : Tri prog (wd d P b1 b2) (lv + 1) T (.call (.ref 140) ⟨[.ref S], []⟩) [wS S (lst sv ep), wS 104 ⟨.none, none, .fields ⟨[]⟩, #[]⟩] Φ :=
  tri_def hT (lv := lv) (hT 140 (to140 P) rfl) rfl rfl rfl rfl rfl (hT 139 (to139 P) rfl) rfl rfl (hT 2 (to2 P) rfl) rfl (la_q_ok prog d P b1 b2 hT hl) (fun O => la_q prog P b1 b2 O S sv ep) (fun O => mem0) hn
end
end Mine
namespace Mine
noncomputable def tl : Nat → List (List Nat)
  | 0 => tails
  | n + 1 => (tl n).drop 12
noncomputable def okT (t : List Nat) : Prop := chk ([3, 1, 2, 0, 2, 1] ++ t) = true
theorem ck (i : Nat) (h1 : ((tl i).take 12).all (fun t => chk ([3, 1, 2, 0, 2, 1] ++ t)) = true) (h2 : ∀ t ∈ tl (i + 1), okT t) : ∀ t ∈ tl i, okT t := by
  intro t ht
  rw [← List.take_append_drop 12 (tl i)] at ht
  exact (List.mem_append.mp ht).elim (List.all_eq_true.mp h1 t) (h2 t)
theorem ck0 : ((tl 0).take 12).all (fun t => chk ([3, 1, 2, 0, 2, 1] ++ t)) = true := by kernel_rfl
theorem ck1 : ((tl 1).take 12).all (fun t => chk ([3, 1, 2, 0, 2, 1] ++ t)) = true := by kernel_rfl
theorem ck2 : ((tl 2).take 12).all (fun t => chk ([3, 1, 2, 0, 2, 1] ++ t)) = true := by kernel_rfl
theorem ck3 : ((tl 3).take 12).all (fun t => chk ([3, 1, 2, 0, 2, 1] ++ t)) = true := by kernel_rfl
theorem ck4 : ((tl 4).take 12).all (fun t => chk ([3, 1, 2, 0, 2, 1] ++ t)) = true := by kernel_rfl
theorem ck5 : ((tl 5).take 12).all (fun t => chk ([3, 1, 2, 0, 2, 1] ++ t)) = true := by kernel_rfl
theorem ck6 : ((tl 6).take 12).all (fun t => chk ([3, 1, 2, 0, 2, 1] ++ t)) = true := by kernel_rfl
theorem ck7 : ((tl 7).take 12).all (fun t => chk ([3, 1, 2, 0, 2, 1] ++ t)) = true := by kernel_rfl
theorem ck8 : ((tl 8).take 12).all (fun t => chk ([3, 1, 2, 0, 2, 1] ++ t)) = true := by kernel_rfl
theorem ck9 : ((tl 9).take 12).all (fun t => chk ([3, 1, 2, 0, 2, 1] ++ t)) = true := by kernel_rfl
theorem ck10 : ((tl 10).take 12).all (fun t => chk ([3, 1, 2, 0, 2, 1] ++ t)) = true := by kernel_rfl
theorem ck11 : ((tl 11).take 12).all (fun t => chk ([3, 1, 2, 0, 2, 1] ++ t)) = true := by kernel_rfl
theorem ck12 : ((tl 12).take 12).all (fun t => chk ([3, 1, 2, 0, 2, 1] ++ t)) = true := by kernel_rfl
theorem ckz : tl 13 = [] := by kernel_rfl
theorem chk_all : ∀ t ∈ tails, chk ([3, 1, 2, 0, 2, 1] ++ t) = true := ck 0 ck0 (ck 1 ck1 (ck 2 ck2 (ck 3 ck3 (ck 4 ck4 (ck 5 ck5 (ck 6 ck6 (ck 7 ck7 (ck 8 ck8 (ck 9 ck9 (ck 10 ck10 (ck 11 ck11 (ck 12 ck12 (fun t ht => by rw [ckz] at ht; cases ht)))))))))))))
end Mine
namespace Mine
open PySem PySem.W PySem.W.X PyProof.Rows
theorem blt_lt {a b : Nat} (h : Nat.blt a b = true) : a < b := Nat.le_of_ble_eq_true h
theorem rnd_RF {ks bx : List Nat} (h : rnd ks = some bx) : RF ks bx := by
  unfold rnd at h
  split at h
  · rename_i bx' due e1 e2
    split at h
    · rename_i c
      cases h
      simp only [Bool.and_eq_true] at c
      obtain ⟨⟨⟨⟨c1, c2⟩, c3⟩, c4⟩, c5⟩ := c
      refine ⟨due, e2, e1, eq_of_beq c1, fun k hk => ?_, by have := blt_lt c3; lia, blt_lt c4, by have := blt_lt c5; lia⟩
      exact eq_of_beq (List.all_eq_true.mp c2 k hk)
    · cases h
  · cases h
theorem chk_RF {ks : List Nat} (h : chk ks = true) : ∃ bs cs, RF ks bs ∧ RF bs cs ∧ tbN cs [] = tbN ks [] := by
  unfold chk at h
  split at h
  · rename_i b1 e1
    split at h
    · rename_i b2 e2
      simp only [Bool.and_eq_true] at h
      exact ⟨b1, b2, rnd_RF e1, rnd_RF e2, eq_of_beq h.1.1⟩
    · cases h
  · cases h
theorem tails_mem : ∀ l : List Nat, l.length ≤ 3 → (∀ k ∈ l, k < 5) → l ∈ tails
  | [], _, _ => by decide
  | [a], _, h => by
    have ha := h a (by simp)
    simp only [tails, List.mem_append, List.mem_map, List.mem_flatMap, List.mem_range]
    exact .inl (.inl (.inr ⟨a, ha, rfl⟩))
  | [a, b], _, h => by
    have ha := h a (by simp)
    have hb := h b (by simp)
    simp only [tails, List.mem_append, List.mem_map, List.mem_flatMap, List.mem_range]
    exact .inl (.inr ⟨a, ha, b, hb, rfl⟩)
  | [a, b, c], _, h => by
    have ha := h a (by simp)
    have hb := h b (by simp)
    have hc := h c (by simp)
    simp only [tails, List.mem_append, List.mem_map, List.mem_flatMap, List.mem_range]
    exact .inr ⟨a, ha, b, hb, c, hc, rfl⟩
  | a :: b :: c :: e :: l, h, _ => by simp at h
theorem ia_take {vs : List Value} {ns : List Int} (h : IntsAre vs ns) : ∀ n, IntsAre (vs.take n) (ns.take n) := by
  induction h with
  | nil => intro n; simp; exact .nil
  | cons k t h ih =>
    intro n
    cases n with
    | zero => exact .nil
    | succ n => exact .cons k t (ih n)
theorem wrL_len (ns : List Int) : (ns.map wrL).flatten.length ≤ 4 * ns.length := by
  induction ns with
  | nil => simp
  | cons n ns ih =>
    simp only [List.map_cons, List.flatten_cons, List.length_append, List.length_cons]
    have := wr_len (ibx_lt n) (ibr n)
    unfold wrL at *
    lia
theorem cnt_wrL (n : Int) : PyProof.Rows.cnt 10 (wrL n) = nlB (ibx n) := by
  unfold wrL
  have hk := ibx_lt n
  generalize ibx n = k at hk
  generalize ibr n = b
  rcases (by lia : k = 0 ∨ k = 1 ∨ k = 2 ∨ k = 3 ∨ k = 4) with rfl | rfl | rfl | rfl | rfl <;> cases b <;> simp [wrS, nlB, cnt_cons, cnt_nil]
theorem cnt_text : ∀ ns : List Int, PyProof.Rows.cnt 10 (ns.map wrL).flatten = nls ns
  | [] => rfl
  | n :: ns => by
    rw [List.map_cons, List.flatten_cons, cnt_append, cnt_wrL, cnt_text ns]
    unfold nls
    rw [List.map_cons, List.sum_cons]
theorem line_ok {ns : List Int} {tx : Str} (h : tx.cps.toList = (ns.map wrL).flatten) : decide ((1 : Int) + nls ns = Txt.count tx sx4 + 1) = true := by
  rw [count_cnt, h]
  have := cnt_text ns
  refine decide_eq_true ?_
  rw [this]; lia
noncomputable abbrev K0 : Obj := ⟨.none, none, .fields ⟨[]⟩, #[]⟩
noncomputable abbrev CN : Obj := ⟨.type "cell", none, .cell none, #[]⟩
section
variable (prog : Program) (d : Source → Nat → Nat) (P : Params) (b1 b2 : Bool) {T : Tops} (hT : ∀ a o, (topT P).get a = some o → T a o)
include hT
/-- from the pushing back on -/
theorem la_mid {X : LX} (hX : X.ok) {ln : Int} {tl eb es L C S t q eq et tt : Nat} {κ : Nat → Int} {τ : Nat → Nat} {tx : Str} {wx wb : Value} {qv tv : List Value} {ks bs cs : List Nat}
    (hq : Bx qv ks) (ht : Bx tv ks) (h0 : 0 < ks.length) (hf : RF ks bs) (hg : RF bs cs) (htb : tbN cs [] = tbN ks []) (hln : decide (ln = Txt.count tx sx4 + 1) = true) :
    Tx prog (wd d P b1 b2) 9 T (execs (laIf 5 :: .For (forT lbF) (forI lbF) (forB lbF) [] lbF.pos :: ([stAt 16 7] ++ (.For (forT lbT) (forI lbT) (forB lbT) [] lbT.pos :: laIf 9 :: laIf 10 :: [stAt 16 11]))) (laEnv P L C))
      (lexS X ln tl [] eb [] es ++ [⟨true, C, celO (.ref X.I)⟩, ⟨true, L, frm κ τ (lB5 S t tx tt wx wb (lR6 q []))⟩, ⟨true, q, lst qv eq⟩, ⟨true, t, lst tv et⟩]) (fun f _ => f = .ret (.bool true)) := by
  have hql := hq.length
  obtain ⟨due, f1, f2, f3, f4, f5, f6, f7⟩ := id hf
  obtain ⟨due', g1, g2, g3, g4, g5, g6, g7⟩ := id hg
  generalize hfo : frm κ τ (lB5 S t tx tt wx wb (lR6 q [])) = fo
  refine tx_execs_cons (tx_If (tx_isTrue_cmp la_m5 ?_))
  refine Tx.on (H0 := [⟨true, L, fo⟩]) (R := lexS X ln tl [] eb [] es ++ [⟨true, C, celO (.ref X.I)⟩, ⟨true, q, lst qv eq⟩, ⟨true, t, lst tv et⟩]) (Ψ0 := fun r H1 => r = .ref q ∧ H1 = [⟨true, L, fo⟩])
    (by subst hfo; exact jaV hT (lb_c1 prog P b1 b2) (lb_c1_ok prog d P b1 b2 hT (by decide)) k0 fun O => ⟨rfl, rfl⟩) (cov_r [(10, 1), (0, 12)] (by kernel_rfl)) ?_ ?_
  · rintro _ _ ⟨rfl, rfl⟩
    exact wr_ro (allW_mem rfl)
  rintro _ _ ⟨rfl, rfl⟩
  refine Tx.on (H0 := [⟨true, L, fo⟩]) (R := lexS X ln tl [] eb [] es ++ [⟨true, C, celO (.ref X.I)⟩, ⟨true, q, lst qv eq⟩, ⟨true, t, lst tv et⟩]) (Ψ0 := fun r H1 => r = .ref t ∧ H1 = [⟨true, L, fo⟩])
    (by subst hfo; exact jaV hT (lb_c2 prog P b1 b2) (lb_c2_ok prog d P b1 b2 hT (by decide)) k0 fun O => ⟨rfl, rfl⟩) (cov_r [(0, 13)] (by kernel_rfl)) ?_ ?_
  · rintro _ _ ⟨rfl, rfl⟩
    exact wr_ro (allW_mem rfl)
  rintro _ _ ⟨rfl, rfl⟩
  refine (tx_ne_list (ea := eq) (eb := et) (wa := true) (wb := true) hq ht (by simp) (by simp)).mono ?_
  rintro _ _ ⟨rfl, rfl⟩
  refine ⟨false, rfl, ?_⟩
  refine it_f ?_
  refine tx_execs_nil ?_
  refine tx_execs_cons (tx_For (fun _ => rfl) ?_)
  refine Tx.on (H0 := [⟨true, L, fo⟩]) (R := lexS X ln tl [] eb [] es ++ [⟨true, C, celO (.ref X.I)⟩, ⟨true, q, lst qv eq⟩, ⟨true, t, lst tv et⟩]) (Ψ0 := fun r H1 => r = .ref q ∧ H1 = [⟨true, L, fo⟩])
    (by subst hfo; exact jaV hT (lb_fi prog P b1 b2) (lb_fi_ok prog d P b1 b2 hT (by decide)) k0 fun O => ⟨rfl, rfl⟩) (cov_r [(0, 13)] (by kernel_rfl)) ?_ ?_
  · rintro _ _ ⟨rfl, rfl⟩
    exact wr_ro (allW_mem rfl)
  rintro _ _ ⟨rfl, rfl⟩
  refine Tx.on (H0 := [⟨true, q, lst qv eq⟩]) (R := lexS X ln tl [] eb [] es ++ [⟨true, C, celO (.ref X.I)⟩, ⟨true, L, fo⟩, ⟨true, t, lst tv et⟩]) (Ψ0 := fun r H1 => ∃ it, r = .ref it ∧ H1 = [⟨true, q, lst qv eq⟩, ⟨true, it, itL q 0⟩])
    (jaI hT (tb_it prog P b1 b2) (tb_it_ok prog d P b1 b2 hT (by decide)) k0 fun O => ⟨_, rfl, rfl⟩) (cov_r [(11, 1), (1, 10), (0, 2)] (by kernel_rfl)) ?_ ?_
  · rintro _ _ ⟨it, rfl, rfl⟩
    exact wr_ro (allW_mem rfl)
  rintro _ _ ⟨it, rfl, rfl⟩
  have push := (la_push prog d P b1 b2 hT hX (ln := ln) (tl := tl) (es := es) (L := L) (C := C) (S := S) (t := t) (q := q) (tt := tt) (it := it) (eq := eq) (κ := κ) (τ := τ) (tx := tx) (wx := wx) qv ks 0 [] [] eb wb hq rfl .nil (by simp; lia)).mono prog _ (show 4 ≤ 9 by lia) (fun _ _ h => h)
  rw [hfo] at push
  refine Tri.on push (R := [⟨true, t, lst tv et⟩]) (cov_r [(2, 11), (0, 3)] (by kernel_rfl)) ?_ ?_
  · rintro _ _ ⟨f, rfl, rfl, wb, eb, pb, hp, rfl⟩
    exact lexS_ro (allW_mem rfl)
  rintro _ _ ⟨f, rfl, rfl, wb, eb, pb, hp, rfl⟩
  rw [List.nil_append] at hp
  refine ⟨.next, rfl, ?_⟩
  clear push hfo
  refine tx_app ?_
  refine Tx.on (H0 := [⟨true, L, frm κ τ (lB5 S t tx tt wx wb (lR6 q []))⟩]) (R := lexS X ln tl pb eb [] es ++ [⟨true, C, celO (.ref X.I)⟩, ⟨true, q, lst qv eq⟩, ⟨true, t, lst tv et⟩]) (Ψ0 := fun r H1 => r = .next ∧ ∃ κ τ, H1 = [⟨true, L, frm κ τ (lB5 S t tx tt wx wb (lR7 q q []))⟩])
    (jaE hT (lb_g prog P b1 b2) (lb_g_ok prog d P b1 b2 hT (by decide)) k0 fun O => ⟨rfl, _, _, rfl⟩) (cov_r [(10, 1), (0, 12)] (by kernel_rfl)) ?_ ?_
  · rintro _ _ ⟨rfl, κ, τ, rfl⟩
    exact wr_ro (allW_mem rfl)
  rintro _ _ ⟨rfl, κ, τ, rfl⟩
  refine ⟨rfl, tx_execs_cons (tx_For (fun _ => rfl) ?_)⟩
  refine Tx.on (H0 := [⟨true, L, frm κ τ (lB5 S t tx tt wx wb (lR7 q q []))⟩]) (R := lexS X ln tl pb eb [] es ++ [⟨true, C, celO (.ref X.I)⟩, ⟨true, q, lst qv eq⟩, ⟨true, t, lst tv et⟩]) (Ψ0 := fun r H1 => ∃ g a b c, r = .ref g ∧ H1 = [⟨true, L, frm κ τ (lB5 S t tx tt wx wb (lR7 q q []))⟩, ⟨true, g, rgO 2 a b c⟩])
    (jaV hT (lb_hi prog P b1 b2) (lb_hi_ok prog d P b1 b2 hT (by decide)) k0 fun O => ⟨_, _, _, _, rfl, rfl⟩) (cov_r [(0, 13)] (by kernel_rfl)) ?_ ?_
  · rintro _ _ ⟨g, a, b, c, rfl, rfl⟩
    exact wr_ro (allW_mem rfl)
  rintro _ _ ⟨g, a, b, c, rfl, rfl⟩
  refine Tx.on (H0 := [⟨true, g, rgO 2 a b c⟩]) (R := lexS X ln tl pb eb [] es ++ [⟨true, C, celO (.ref X.I)⟩, ⟨true, L, frm κ τ (lB5 S t tx tt wx wb (lR7 q q []))⟩, ⟨true, q, lst qv eq⟩, ⟨true, t, lst tv et⟩]) (Ψ0 := fun r H1 => ∃ it, r = .ref it ∧ H1 = [⟨true, g, rgO 2 a b c⟩, ⟨true, it, ritO 0 2 1⟩])
    (jaI hT (lb_hp prog P b1 b2) (lb_hp_ok prog d P b1 b2 hT (by decide)) (fun O => k1 (by decide)) fun O => ⟨_, rfl, rfl⟩) (cov_r [(1, 11), (0, 3)] (by kernel_rfl)) ?_ ?_
  · rintro _ _ ⟨it, rfl, rfl⟩
    exact wr_ro (allW_mem rfl)
  rintro _ _ ⟨it, rfl, rfl⟩
  have rounds := la_rounds prog d P b1 b2 hT hX (ln := ln) (tl := tl) (eb := eb) (es := es) (L := L) (C := C) (S := S) (t := t) (q := q) (z := q) (ez := eq) (tt := tt) (it := it) (κ := κ) (τ := τ) (tx := tx) (wx := wx) (wb := wb) hp hq h0 hf hg
  refine Tri.on rounds (R := [⟨true, t, lst tv et⟩]) (cov_r [(2, 12), (1, 2)] (by kernel_rfl)) ?_ ?_
  · rintro _ _ ⟨f, rfl, rfl, κ, τ, z', ez', y, wn, eb, pb, zv, h1, h2, rfl⟩
    exact lexS_ro (allW_mem rfl)
  rintro _ _ ⟨f, rfl, rfl, κ, τ, z', ez', y, wn, eb, pb, zv, h1, h2, rfl⟩
  refine ⟨.next, rfl, ?_⟩
  rw [List.append_assoc]
  exact la_tail prog d P b1 b2 hT hX h1 h2 ht g6 (by lia) h0 (by lia) htb hln
end
section
variable {prog : Program} {w : World} {T : Tops} {lv : Nat} {H H0 R : List Slot}
theorem Post.frameN {H1 : List Slot} {s s' : Shared} (hS : Sat T s (H ++ R)) (hP : Post T H s H1 s') (hro : ∀ x ∈ H1, x.w = false → x ∈ H ∨ ∀ y ∈ R, x.o ≠ y.o) : Post T (H ++ R) s (H1 ++ R) s' := by
  have hap := List.pairwise_append.mp hS.apart
  refine hP.lift hS (fun x hx hw => ⟨x, List.mem_append_left _ hx, hw, rfl⟩) (fun y hy => ?_) (List.pairwise_append.mpr ⟨hP.sat.apart, hap.2.1, fun x hx y hy hw => ?_⟩)
  · rcases List.mem_append.mp hy with hy | hy
    · exact .inl ⟨y, hy, rfl, rfl, fun h => .inl h⟩
    · exact .inr ⟨List.mem_append_right _ hy, fun x hx hw => hap.2.2 x hx y hy (.inl hw)⟩
  · cases hxw : x.w with
    | false =>
      rcases hro x hx hxw with h | h
      · exact hap.2.2 x h y hy hw
      · intro e
        have h1 := hP.sat.has x hx
        have h2 := hP.keep.keep y.a y.o (hS.has y (List.mem_append_right _ hy)) fun sl hsl hsw => hap.2.2 sl hsl y hy (.inl hsw)
        rw [e, h2] at h1
        exact h y hy (Option.some.inj h1).symm
    | true =>
      rcases hP.grow x hx hxw with ⟨s0, h0, w0, e0⟩ | hle
      · rw [← e0]; exact hap.2.2 s0 h0 y hy (.inl w0)
      · have := Heap.lt_size (hS.has y (List.mem_append_right _ hy))
        exact Nat.ne_of_gt (Nat.lt_of_lt_of_le this hle)
theorem Tx.onN {α : Type} {t : Sem α} {Ψ0 Ψ : α → List Slot → Prop} (h : Tx prog w lv T t H0 Ψ0) (c : Cov H (H0 ++ R)) (ro : ∀ a H1, Ψ0 a H1 → ∀ x ∈ H1, x.w = false → x ∈ H0 ∨ ∀ y ∈ R, x.o ≠ y.o) (k : ∀ a H1, Ψ0 a H1 → Ψ a (H1 ++ R)) : Tx prog w lv T t H Ψ :=
  Tx.ofcov c fun A s hA hS => wpAny_mono (h A s hA (hS.part (List.sublist_append_left _ _))) (fun r s' ⟨H1, p, q⟩ => ⟨H1 ++ R, k r H1 p, q.frameN hS (ro r H1 p)⟩) fun _ _ x => x
end
section
variable (prog : Program) (d : Source → Nat → Nat) (P : Params) (b1 b2 : Bool) {T : Tops} (hT : ∀ a o, (topT P).get a = some o → T a o)
include hT
/-- from the lexer on -/
theorem la_low {L C S t et tt : Nat} {κ : Nat → Int} {τ : Nat → Nat} {tx : Str} {wx wb : Value} {tv : List Value} {ns : List Int} {bs cs : List Nat}
    (ht : Bx tv (ns.map ibx)) (h0 : 0 < ns.length) (h9 : ns.length < 100) (htx : tx.cps.toList = (ns.map wrL).flatten) (hf : RF (ns.map ibx) bs) (hg : RF bs cs) (htb : tbN cs [] = tbN (ns.map ibx) []) :
    Tx prog (wd d P b1 b2) 9 T (execs ([stAt 16 3] ++ ([stAt 16 4] ++ (laIf 5 :: .For (forT lbF) (forI lbF) (forB lbF) [] lbF.pos :: ([stAt 16 7] ++ (.For (forT lbT) (forI lbT) (forB lbT) [] lbT.pos :: laIf 9 :: laIf 10 :: [stAt 16 11]))))) (laEnv P L C))
      [⟨true, L, frm κ τ (lB5 S t tx tt wx wb [])⟩, ⟨true, C, CN⟩, ⟨true, 104, K0⟩, ⟨true, t, lst tv et⟩] (fun f H' => f = .ret (.bool true) ∧ ∃ m, H' = [tbS m]) := by
  have hwl := wrL_len ns
  refine tx_app ?_
  refine Tx.onN (H0 := [⟨true, L, frm κ τ (lB5 S t tx tt wx wb [])⟩, ⟨true, C, CN⟩, ⟨true, 104, K0⟩]) (R := [⟨true, t, lst tv et⟩])
    (Ψ0 := fun r H1 => r = .next ∧ ∃ X tl es σ m, LX.ok X ∧ H1 = [⟨true, L, frm κ τ (lB5 S t tx tt wx wb [])⟩, ⟨true, C, celO (.ref X.I)⟩] ++ tbS m :: lexS X 1 tl [] 0 (sgn σ 0 (ns.map wrL).flatten).reverse es)
    (jaEP hT (lb_a prog P b1 b2) (lb_a_ok prog d P b1 b2 hT (by decide)) (fun O => k1 (by rw [htx]; lia)) fun O ⟨X, tl, es, σ, m, hX, ea, esl⟩ => ⟨rfl, X, tl, es, σ, m, hX, by rw [ea, esl, htx]⟩) (cov_r [(0, 4)] (by kernel_rfl)) ?_ ?_
  · rintro _ _ ⟨rfl, X, tl, es, σ, m, hX, rfl⟩ x hx hw
    refine .inr fun y hy e => ?_
    rw [List.mem_singleton.mp hy] at e
    rcases List.mem_append.mp hx with hx | hx
    · simp only [List.mem_cons, List.not_mem_nil, or_false] at hx
      rcases hx with rfl | rfl <;> cases hw
    rcases List.mem_cons.mp hx with rfl | hx
    · cases hw
    · simp only [lexS, List.mem_cons, List.not_mem_nil, or_false] at hx
      rcases hx with rfl | rfl | rfl | rfl | rfl | rfl | rfl | rfl | rfl
      · exact absurd (congrArg Obj.data e) (by intro h; cases h)
      · cases hw
      · cases hw
      · exact absurd (congrArg Obj.data e) (by intro h; cases h)
      · exact absurd (congrArg Obj.data e) (by intro h; cases h)
      · exact absurd (congrArg Obj.data e) (by intro h; cases h)
      · have e2 : X.oc = lst tv et := e
        obtain ⟨vs, tq, h1, h2⟩ := hX
        rw [e2] at h1; cases h1
      · exact absurd (congrArg Obj.data e) (by intro h; cases h)
      · cases hw
  rintro _ _ ⟨rfl, X, tl, es, σ, m, hX, rfl⟩
  refine ⟨rfl, ?_⟩
  refine Tx.on (H0 := lexS X 1 tl [] 0 (sgn σ 0 (ns.map wrL).flatten).reverse es ++ [⟨true, C, celO (.ref X.I)⟩, ⟨true, L, frm κ τ (lB5 S t tx tt wx wb [])⟩, ⟨true, t, lst tv et⟩]) (R := [tbS m])
    (Ψ0 := fun f H1 => f = .ret (.bool true) ∧ H1 = []) (Tx.cov (Tx.mono (Ψ := fun f _ => f = .ret (.bool true)) ?_ fun f H1 h => ⟨[], ⟨H1, .refl _⟩, h, rfl⟩)) (cov_r [(3, 9), (1, 1), (0, 1), (1, 1), (0, 1)] (by kernel_rfl)) ?_ ?_
  rotate_left
  · rintro _ _ ⟨rfl, rfl⟩ x hx
    cases hx
  · rintro _ _ ⟨rfl, rfl⟩
    exact ⟨rfl, m, rfl⟩
  refine tx_app ?_
  refine Tx.on (H0 := lexS X 1 tl [] 0 (sgn σ 0 (ns.map wrL).flatten).reverse es ++ [⟨true, C, celO (.ref X.I)⟩, ⟨true, L, frm κ τ (lB5 S t tx tt wx wb [])⟩, ⟨true, t, lst tv et⟩]) (R := [])
    (Ψ0 := fun r H1 => r = .next ∧ ∃ tl eb es κ τ q qv eq, ∃ x1 x2 : Slot, x1.w = true ∧ x2.w = true ∧ Bx qv (ns.map ibx) ∧ H1 = lexS X (1 + nls ns) tl [] eb [] es ++ [⟨true, C, celO (.ref X.I)⟩, ⟨true, L, frm κ τ (lB5 S t tx tt wx wb (lR6 q []))⟩, ⟨true, t, lst tv et⟩, x1, ⟨true, q, lst qv eq⟩, x2])
    (jaEP hT (lb_b prog P b1 b2) (lb_b_ok prog d P b1 b2 hT (by decide)) (fun O => k2 hX ⟨⟨σ, rfl⟩, ht, h0, by lia⟩) fun O hq => ⟨rfl, _, _, _, _, _, _, _, _, _, _, by exact rfl, by exact rfl, hq, rfl⟩) (cov_r [(0, 12)] (by kernel_rfl)) ?_ ?_
  · rintro _ _ ⟨rfl, tl, eb, es, κ, τ, q, qv, eq, x1, x2, w1, w2, hq, rfl⟩
    exact lexS_ro (by simp [w1, w2])
  rintro _ _ ⟨rfl, tl, eb, es, κ, τ, q, qv, eq, x1, x2, w1, w2, hq, rfl⟩
  refine ⟨rfl, ?_⟩
  refine Tx.ofcov (G := lexS X (1 + nls ns) tl [] eb [] es ++ [⟨true, C, celO (.ref X.I)⟩, ⟨true, L, frm κ τ (lB5 S t tx tt wx wb (lR6 q []))⟩, ⟨true, q, lst qv eq⟩, ⟨true, t, lst tv et⟩]) (cov_r [(0, 11), (2, 1), (0, 1)] (by kernel_rfl)) ?_
  exact la_mid prog d P b1 b2 hT hX hq ht (by simpa using h0) hf hg htb (line_ok htx)
theorem la_call {S ep : Nat} {sv : List Value} {scr : List Int} (hs : IntsAre sv scr) (hl : sv.length < 1000000) :
    Tri prog (wd d P b1 b2) 10 T (.call (.ref 140) ⟨[.ref S], []⟩) [⟨true, S, lst sv ep⟩, ⟨true, 104, K0⟩] (fun r H' => r = .ok (.ret (.bool true)) ∧ ∃ m, H' = [tbS m, ⟨true, S, lst sv ep⟩]) := by
  have t1 : IntsAre (sv.take 3) (scr.take 3) := ia_take hs 3
  obtain ⟨bs, cs, hf, hg, htb⟩ := chk_RF (chk_all ((scr.take 3).map ibx) (tails_mem _ (by simp; lia) (by
    intro k hk
    obtain ⟨n, _, rfl⟩ := List.mem_map.mp hk
    exact ibx_lt n)))
  have e3 : [3, 1, 2, 0, 2, 1] ++ (scr.take 3).map ibx = (([3, 6, 2, 5, 7, 11] : List Int) ++ scr.take 3).map ibx := by
    rw [List.map_append]; rfl
  rw [e3] at hf htb
  have hsl : (sv.take 3).length ≤ 3 := by simp; lia
  have hcl : (scr.take 3).length ≤ 3 := by simp; lia
  refine la_q_x prog d P b1 b2 hT (lv := 9) (by lia) fun O => ?_
  generalize O.addr 0 = L, O.addr 1 = C
  rw [la_body]
  refine tri_func (lv := 9) (tx_app ?_)
  generalize ext zeroI 0 [hz prog (mkP P b1 b2) s_script] = κ0, ext zeroN 0 [O.tok 0] = τ0
  refine Tx.on (H0 := [⟨true, L, frm κ0 τ0 [(s_script, .ref S)]⟩]) (R := [⟨true, S, lst sv ep⟩, ⟨true, 104, K0⟩, ⟨true, C, CN⟩])
    (Ψ0 := fun r H1 => r = .next ∧ ∃ κ τ t tt, H1 = [⟨true, L, frm κ τ (laB S t ⟨#[]⟩ tt [])⟩, ⟨true, t, lst [] 0⟩]) (jaE hT (la_a prog P b1 b2) (la_a_ok prog d P b1 b2 hT (by decide)) k0 fun O => ⟨rfl, _, _, _, _, rfl⟩) (cov_r [(2, 1), (0, 3)] (by kernel_rfl)) ?_ ?_
  · rintro _ _ ⟨rfl, κ, τ, t, tt, rfl⟩
    exact wr_ro (allW_mem rfl)
  rintro _ _ ⟨rfl, κ, τ, t, tt, rfl⟩
  refine ⟨rfl, tx_execs_cons (tx_For (fun _ => rfl) ?_)⟩
  refine Tx.on (H0 := [⟨true, L, frm κ τ (laB S t ⟨#[]⟩ tt [])⟩, ⟨true, S, lst sv ep⟩]) (R := [⟨true, t, lst [] 0⟩, ⟨true, 104, K0⟩, ⟨true, C, CN⟩])
    (Ψ0 := fun r H1 => ∃ q qv, ∃ x1 x2 x3 : Slot, r = .ref q ∧ IntsAre qv (([3, 6, 2, 5, 7, 11] : List Int) ++ scr.take 3) ∧ qv.length ≤ 9 ∧ x1.w = true ∧ x2.w = true ∧ x3.w = true ∧ H1 = [⟨true, L, frm κ τ (laB S t ⟨#[]⟩ tt [])⟩, ⟨true, S, lst sv ep⟩, x1, x2, x3, ⟨true, q, lst qv 0⟩])
    (jaV hT (la_i prog P b1 b2) (la_i_ok prog d P b1 b2 hT (by decide)) (fun O => k3 ⟨rfl, by decide⟩ hl ⟨by decide, by lia⟩) fun O => ⟨_, _, _, _, _, rfl, .cons _ _ (.cons _ _ (.cons _ _ (.cons _ _ (.cons _ _ (.cons _ _ t1))))), by simp; lia, by exact rfl, by exact rfl, by exact rfl, rfl⟩) (cov_r [(0, 1), (1, 1), (0, 3)] (by kernel_rfl)) ?_ ?_
  · rintro _ _ ⟨q, qv, x1, x2, x3, rfl, hi, hn, w1, w2, w3, rfl⟩
    exact wr_ro (by simp [w1, w2, w3])
  rintro _ _ ⟨q, qv, x1, x2, x3, rfl, hi, hn, w1, w2, w3, rfl⟩
  refine Tx.on (H0 := [⟨true, q, lst qv 0⟩]) (R := [⟨true, L, frm κ τ (laB S t ⟨#[]⟩ tt [])⟩, ⟨true, t, lst [] 0⟩, ⟨true, 104, K0⟩, ⟨true, C, CN⟩, ⟨true, S, lst sv ep⟩]) (Ψ0 := fun r H1 => ∃ it, r = .ref it ∧ H1 = [⟨true, q, lst qv 0⟩, ⟨true, it, itL q 0⟩])
    (jaI hT (tb_it prog P b1 b2) (tb_it_ok prog d P b1 b2 hT (by decide)) k0 fun O => ⟨_, rfl, rfl⟩) (cov_r [(5, 1), (0, 1), (4, 3), (0, 1)] (by kernel_rfl)) ?_ ?_
  · rintro _ _ ⟨it, rfl, rfl⟩
    exact wr_ro (allW_mem rfl)
  rintro _ _ ⟨it, rfl, rfl⟩
  have loop := (la_loop prog d P b1 b2 hT (L := L) (C := C) (S := S) (t := t) (q := q) (it := it) (eq := 0) qv _ 0 [] [] 0 ⟨#[]⟩ tt κ τ [] hi rfl .nil (.inl rfl) (by simp; lia) (by show 0 + _ < _; lia) (.inr (by have := hi.length; simp at this; lia))).mono prog _ (show 4 ≤ 9 by lia) (fun _ _ h => h)
  refine Tri.on loop (R := [⟨true, 104, K0⟩, ⟨true, C, CN⟩, ⟨true, S, lst sv ep⟩]) (cov_r [(2, 2), (0, 5)] (by kernel_rfl)) ?_ ?_
  · rintro _ _ ⟨f, rfl, rfl, bv, eb, tx, tt, κ, τ, wx, wb, hb, htx, rfl⟩
    exact wr_ro (allW_mem rfl)
  rintro _ _ ⟨f, rfl, rfl, bv, eb, tx, tt, κ, τ, wx, wb, hb, htx, rfl⟩
  refine ⟨.next, rfl, ?_⟩
  refine Tx.on (H0 := [⟨true, L, frm κ τ (lB5 S t tx tt wx wb [])⟩, ⟨true, C, CN⟩, ⟨true, 104, K0⟩, ⟨true, t, lst bv eb⟩]) (R := [⟨true, S, lst sv ep⟩]) (Ψ0 := fun f H1 => f = .ret (.bool true) ∧ ∃ m, H1 = [tbS m])
    (la_low prog d P b1 b2 hT (ns := ([3, 6, 2, 5, 7, 11] : List Int) ++ scr.take 3) hb (by simp) (by simp; lia) htx hf hg htb) (cov_r [(0, 1), (2, 1), (1, 1), (0, 2)] (by kernel_rfl)) ?_ ?_
  · rintro _ _ ⟨rfl, m, rfl⟩
    exact wr_ro (by simp [tbS])
  rintro _ _ ⟨rfl, m, rfl⟩
  exact ⟨rfl, m, rfl⟩
end
theorem row1 : PySem.code "comprehension-iter-twice" = 2510650655181157320538776789020469319833841985448949215332 := by kernel_rfl
theorem row2 : PySem.code "special-get-raises" = 10139888712337904147300001983332972444938612 := by kernel_rfl
theorem mkP_self (P : Params) : mkP P (P.followText "comprehension-iter-twice") (P.followText "special-get-raises") = P := by
  have : (mkP P (P.followText "comprehension-iter-twice") (P.followText "special-get-raises")).followText = P.followText := by
    funext s
    show (match S.eqLit _ s with | true => _ | false => _) = _
    split
    · rename_i h
      rw [eqLit_iff row1 h]
    · split
      · rename_i h
        rw [eqLit_iff row2 h]
      · rfl
  exact congrArg (fun f => ({ P with followText := f } : Params)) this
theorem wd_self (w : World) : ∃ d b1 b2, w = wd d w.params b1 b2 := by
  obtain ⟨d, P⟩ := w
  exact ⟨d, _, _, by unfold wd; rw [mkP_self]⟩
theorem caller_ok : OkA 10 callerA := ⟨rfl, by decide, by decide⟩
theorem no141 (P : Params) : (topT P).get 141 = none := by kernel_rfl
theorem no104 (P : Params) : (topT P).get 104 = none := by kernel_rfl
theorem la_code {prog : Program} {d : Source → Nat → Nat} {P : Params} {b1 b2 : Bool} {s : Shared} {sv : List Value} {ep : Nat} {scr : List Int}
    (hT : ∀ a o, (topT P).get a = some o → s.heap.get? a = some o) (hK : s.heap.get? 104 = some K0) (hS : s.heap.get? 141 = some (lst sv ep)) (hi : IntsAre sv scr) (hl : sv.length < 1000000) (hg : s.gens = #[]) (ht : 0 < s.toks)
    {A : Around} (hA : OkA 10 A) : codeAny (model prog (wd d P b1 b2)) A (.call (.ref 140) ⟨[.ref 141], []⟩) (fun r s' => r = .ok (.ret (.bool true)) ∧ OldK s.heap s'.heap ∧ s'.os = s.os ∧ s'.gens = #[]) s := by
  have hSat : Sat (fun a o => (topT P).get a = some o) s [⟨true, 141, lst sv ep⟩, ⟨true, 104, K0⟩] := by
    refine ⟨hT, hg, ht, ?_, ?_, ?_⟩
    · intro sl h
      simp only [List.mem_cons, List.not_mem_nil, or_false] at h
      rcases h with rfl | rfl
      · exact hS
      · exact hK
    · simp
    · intro sl h _ o
      simp only [List.mem_cons, List.not_mem_nil, or_false] at h
      rcases h with rfl | rfl
      · rw [no141]; nofun
      · rw [no104]; nofun
  refine codeAny_mono (la_call prog d P b1 b2 (T := fun a o => (topT P).get a = some o) (fun _ _ h => h) hi hl A s hA hSat) ?_
  rintro r s' ⟨H', ⟨rfl, m, rfl⟩, hp⟩
  have h104 : s'.heap.get? 104 = some ⟨.none, none, .fields m, #[]⟩ := hp.sat.has _ (.head _)
  have keep : ∀ a o, s.heap.get? a = some o → a ≠ 104 → s'.heap.get? a = some o := fun a o ho hne => by
    by_cases e : a = 141
    · subst e
      rw [hS] at ho
      rw [← ho]
      exact hp.sat.has _ (.tail _ (.head _))
    · refine hp.keep.keep a o ho fun sl h _ => ?_
      simp only [List.mem_cons, List.not_mem_nil, or_false] at h
      rcases h with rfl | rfl
      · exact fun x => e x.symm
      · exact fun x => hne x.symm
  have tab : isCodeTable s.heap 104 := ⟨108, to108 P, _, hT 108 (to108 P) rfl, rfl, rfl, rfl⟩
  refine ⟨rfl, ⟨fun a o ho => ?_, fun a o ho => ?_⟩, hp.keep.os, hp.sat.gens⟩
  · by_cases e : a = 104
    · subst e
      rw [hK] at ho
      cases ho
      exact .inr (.inl ⟨tab, rfl, _, m, rfl, by
        show s'.heap.get? 104 = some ⟨.none, none, .fields (#[] ++ m), #[]⟩
        rw [h104, Array.empty_append]⟩)
    · exact .inl (keep a o ho e)
  · by_cases e : a = 104
    · subst e
      exact ⟨_, h104⟩
    · exact ⟨_, keep a o ho e⟩
noncomputable def TT.all (Pr : Nat → Obj → Prop) : TT → Prop
  | .nil => True
  | .node k o l r => Pr k o ∧ TT.all Pr l ∧ TT.all Pr r
theorem TT.all_get {Pr : Nat → Obj → Prop} : ∀ {t : TT}, TT.all Pr t → ∀ a o, t.get a = some o → Pr a o
  | .nil, _, a, o, h => by cases h
  | .node k x l r, ⟨h1, h2, h3⟩, a, o, h => by
    unfold TT.get at h
    split at h
    · rename_i e
      cases h
      rw [← Nat.eq_of_beq_eq_true e]; exact h1
    · split at h
      · exact TT.all_get h2 a o h
      · exact TT.all_get h3 a o h
theorem la_codeW {prog : Program} {w : World} {s : Shared} {sv : List Value} {ep : Nat} {scr : List Int}
    (hT : TT.all (fun a o => s.heap.get? a = some o) (topT w.params)) (hK : s.heap.get? 104 = some K0) (hS : s.heap.get? 141 = some (lst sv ep)) (hi : IntsAre sv scr) (hl : sv.length < 1000000) (hg : s.gens = #[]) (ht : 0 < s.toks)
    {A : Around} (hA : OkA 10 A) : codeAny (model prog w) A (.call (.ref 140) ⟨[.ref 141], []⟩) (fun r s' => r = .ok (.ret (.bool true)) ∧ OldK s.heap s'.heap ∧ s'.os = s.os ∧ s'.gens = #[]) s := by
  obtain ⟨d, b1, b2, e⟩ := wd_self w
  have := la_code (prog := prog) (d := d) (P := w.params) (b1 := b1) (b2 := b2) (TT.all_get hT) hK hS hi hl hg ht hA
  rw [← e] at this
  exact this
end Mine
open PySem PySem.W PySem.W.X PySem.W.ZRun PyProof.Rows
set_option maxRecDepth 100000 in
set_option maxHeartbeats 0 in
theorem PySem.Challenge.cw_qu0025_01_holds : PySem.Challenge.rw_qu0025_01.Holds := by
  w_on; o_law; z_head; (case hw => w_witness2)
  k_fill
  intro w s₀ s₁ mg mb G y fa o pm cd doc dV kV ho hd hcd hD hmg hg args vals as L hpre hlay hrd hwl hlo
  z_open y L KX ZH ZN ZT
  refine Ground.open G ?_
  intro T B D TE TW
  wrow_args hpre hlay hrd hwl hlo
  obtain ⟨hat, hsz⟩ := script_at L
  have htk := script_toks L ZT
  rw [ZN] at hat hsz
  subst hat
  x_fa T KX hmg
  all_lens
  clear hd hcd hD hmg
  have hS := script_obj L ‹_›
  obtain ⟨hi, _⟩ := readsAll_intsAre ‹ReadsAll s₁.heap _ (List.map PyData.int _) _›
  have hlen := hi.length
  show wpAny _ _ (call (.ref 140) [.ref 141]) _ _ _
  refine wpAny_call (codeAny_mono (Mine.la_codeW ?_ (kt_at ZH (by kernel_rfl)) hS hi (by lia) hg (Nat.lt_of_lt_of_le (by decide) htk) Mine.caller_ok) ?_)
  · unfold Mine.topT
    simp only [Mine.TT.all]
    repeat' apply And.intro
    all_goals first | exact trivial | exact kt_at ZH (by kernel_rfl)
  · rintro r s' ⟨rfl, hk, hos, hgen⟩
    exact ⟨.inl ⟨.bool true, _, [], rfl, fun cls => rfl, ReadsW.bool true, by first | kernel_rfl | wrow_post, fun _ => ⟨List.nodup_nil, nofun⟩⟩, hk, hos, by rw [hgen]; exact AllBare.empty⟩
