/- What pieces of the code come to. Memory: what a store, a new block, a copy and an append do to it, and frames: what a piece of code may have changed. Integers as the model wraps them, and their bits. The built-in copy, append and make, over memory. append, with what all cells of the row are like. -/
import Derived.Test.YtjphakdpokombaaGreatDoorChecked
import Derived.Test.YtjphakdpokombaaGreatDoorPkc
namespace Go.M
open Go Go.Proofs
noncomputable abbrev PP:Program:=Tryz.prog
def FF:List Nat:=[2,3,4,5,6,7,8,9,10,11,12,13,14,15,16,17,18,19,20,21,22,23,24,25,26,27,28,29,30,31,32,33,34,35,36,37,38,39,40,41,42,43,44,45,46,47,48,49,50,51,52,53,54,55,56,57,58,59,60,61,62,63,64,65,66,67,68,72,73,74,75,76,77,78,79,80,81,82,83,84,85,86,87,91,92,93,94,95,115,116,117,118,119,120,121,123,142,152]
def entersB (P:Program):List Nat→Bool
 | []=>true
 | f::l=>
  match P.funcs[f]? with
  | some fn=>match fn.body.isSome && !(fn.name == "runtime.NumGoroutine") with | true=>entersB P l | false=>false
  | none=>false
theorem entersB_spec {P:Program}:∀ {l:List Nat},entersB P l=true→Enters P l
 | [],_,f,hf=>by simp [memNat] at hf
 | g::l,h,f,hf=>by
  simp only [entersB] at h
  split at h
  ·rename_i fn hfn
   split at h
   ·rename_i hb
    simp only [memNat] at hf
    split at hf
    ·rename_i e; subst e
     simp at hb
     exact ⟨fn,hfn,by cases hq:fn.body <;> simp_all,hb.2⟩
    ·exact entersB_spec h f hf
   ·cases h
  ·cases h
theorem ffOk:Enters PP FF:=entersB_spec (by kernel_rfl)
theorem mixedOk:PP.follows .mixedOrders=true:=by kernel_rfl
def rev8:ByteArray:=⟨#[0,128,64,192,32,160,96,224,16,144,80,208,48,176,112,240,8,136,72,200,40,168,104,232,24,152,88,216,56,184,120,248,4,132,68,196,36,164,100,228,20,148,84,212,52,180,116,244,12,140,76,204,44,172,108,236,28,156,92,220,60,188,124,252,2,130,66,194,34,162,98,226,18,146,82,210,50,178,114,242,10,138,74,202,42,170,106,234,26,154,90,218,58,186,122,250,6,134,70,198,38,166,102,230,22,150,86,214,54,182,118,246,14,142,78,206,46,174,110,238,30,158,94,222,62,190,126,254,1,129,65,193,33,161,97,225,17,145,81,209,49,177,113,241,9,137,73,201,41,169,105,233,25,153,89,217,57,185,121,249,5,133,69,197,37,165,101,229,21,149,85,213,53,181,117,245,13,141,77,205,45,173,109,237,29,157,93,221,61,189,125,253,3,131,67,195,35,163,99,227,19,147,83,211,51,179,115,243,11,139,75,203,43,171,107,235,27,155,91,219,59,187,123,251,7,135,71,199,39,167,103,231,23,151,87,215,55,183,119,247,15,143,79,207,47,175,111,239,31,159,95,223,63,191,127,255]⟩
abbrev f_laws_FnExactLiterals:Nat:=3
abbrev f_laws_FnExactOneDistance:Nat:=4
abbrev f_spec_LiteralsOf:Nat:=5
abbrev f_spec_Inflate:Nat:=6
abbrev f_impl_All:Nat:=7
abbrev f_laws_same:Nat:=8
abbrev f_spec_OneDistance:Nat:=9
abbrev f_spec_newReader:Nat:=10
abbrev f_reader_data:Nat:=11
abbrev f_reader_pick:Nat:=12
abbrev f_Writer_Fixed:Nat:=13
abbrev f_Writer_dynamic:Nat:=14
abbrev f_state_on:Nat:=15
abbrev f_state_block:Nat:=16
abbrev f_state_stop:Nat:=17
abbrev f_impl_all:Nat:=18
abbrev f_inflate_NewReader:Nat:=19
abbrev f_impl_source:Nat:=20
abbrev f_laws_begins:Nat:=21
abbrev f_spec_Distance:Nat:=22
abbrev f_reader_length:Nat:=23
abbrev f_spec_needs:Nat:=24
abbrev f_reader_lengthsOf:Nat:=25
abbrev f_Writer_Bits:Nat:=26
abbrev f_Writer_lengths:Nat:=27
abbrev f_Writer_items:Nat:=28
abbrev f_spec_Given:Nat:=29
abbrev f_reader_one:Nat:=30
abbrev f_spec_flag:Nat:=31
abbrev f_spec_fixed:Nat:=32
abbrev f_reader_trimmed:Nat:=33
abbrev f_state_bit:Nat:=34
abbrev f_state_bits:Nat:=35
abbrev f_state_stored:Nat:=36
abbrev f_state_coded:Nat:=37
abbrev f_state_dynamic:Nat:=38
abbrev f_impl_code:Nat:=39
abbrev f_decompressor_makeReader:Nat:=40
abbrev f_decompressor_nextBlock:Nat:=41
abbrev f_dictDecoder_init:Nat:=42
abbrev f_bytes_NewReader:Nat:=43
abbrev f_spec_LengthCode:Nat:=44
abbrev f_spec_DistanceCode:Nat:=45
abbrev f_Writer_bit:Nat:=46
abbrev f_reader_runs:Nat:=47
abbrev f_spec_Order:Nat:=48
abbrev f_spec_Codes:Nat:=49
abbrev f_Writer_code:Nat:=50
abbrev f_state_give:Nat:=51
abbrev f_spec_book:Nat:=52
abbrev f_state_symbol:Nat:=53
abbrev f_spec_Length:Nat:=54
abbrev f_spec_used:Nat:=55
abbrev f_state_far:Nat:=56
abbrev f_state_whole:Nat:=57
abbrev f_state_told:Nat:=58
abbrev f_spec_Room:Nat:=59
abbrev f_errors_As:Nat:=60
abbrev f_bufio_Reader_Reset:Nat:=61
abbrev f_bufio_NewReader:Nat:=62
abbrev f_decompressor_moreBits:Nat:=63
abbrev f_decompressor_dataBlock:Nat:=64
abbrev f_inflate_fixedHuffman:Nat:=65
abbrev f_decompressor_huffmanBlock:Nat:=66
abbrev f_decompressor_readHuffman:Nat:=67
abbrev f_spec_leads:Nat:=68
abbrev f_reflectlite_ValueOf:Nat:=69
abbrev f_reflectlite_Value_Type:Nat:=70
abbrev f_reflectlite_Value_IsNil:Nat:=71
abbrev f_errors_as:Nat:=72
abbrev f_bufio_Reader_reset:Nat:=73
abbrev f_bufio_NewReaderSize:Nat:=74
abbrev f_inflate_noEOF:Nat:=75
abbrev f_io_ReadFull:Nat:=76
abbrev f_dictDecoder_readFlush:Nat:=77
abbrev f_decompressor_finishBlock:Nat:=78
abbrev f_decompressor_copyData:Nat:=79
abbrev f_huffmanDecoder_init:Nat:=80
abbrev f_decompressor_huffSym:Nat:=81
abbrev f_dictDecoder_writeByte:Nat:=82
abbrev f_dictDecoder_availWrite:Nat:=83
abbrev f_bits_Reverse8:Nat:=84
abbrev f_dictDecoder_histSize:Nat:=85
abbrev f_dictDecoder_tryWriteCopy:Nat:=86
abbrev f_dictDecoder_writeCopy:Nat:=87
abbrev f_reflectlite_TypeOf:Nat:=88
abbrev f_reflectlite_Value_Elem:Nat:=89
abbrev f_reflectlite_Value_Set:Nat:=90
abbrev f_io_ReadAtLeast:Nat:=91
abbrev f_dictDecoder_availRead:Nat:=92
abbrev f_dictDecoder_writeSlice:Nat:=93
abbrev f_dictDecoder_writeMark:Nat:=94
abbrev f_bits_Reverse16:Nat:=95
abbrev f_runtime_boundsError_Error:Nat:=96
abbrev f_runtime_boundsError_RuntimeError:Nat:=97
abbrev f_runtime_errorString_Error:Nat:=98
abbrev f_runtime_errorString_RuntimeError:Nat:=99
abbrev f_runtime_plainError_Error:Nat:=100
abbrev f_runtime_plainError_RuntimeError:Nat:=101
abbrev f_runtime_errorAddressString_Error:Nat:=102
abbrev f_runtime_errorAddressString_RuntimeError:Nat:=103
abbrev f_runtime_TypeAssertionError_Error:Nat:=104
abbrev f_runtime_TypeAssertionError_RuntimeError:Nat:=105
abbrev f_runtime_PanicNilError_Error:Nat:=106
abbrev f_runtime_PanicNilError_RuntimeError:Nat:=107
abbrev f_abi_Type_Align:Nat:=108
abbrev f_abi_Type_Elem:Nat:=109
abbrev f_abi_Type_Kind:Nat:=110
abbrev f_maps_unhashableTypeError_Error:Nat:=111
abbrev f_maps_unhashableTypeError_RuntimeError:Nat:=112
abbrev f_Writer_Pad:Nat:=113
abbrev f_bytes_Reader_Len:Nat:=114
abbrev f_bytes_Reader_Read:Nat:=115
abbrev f_bytes_Reader_ReadByte:Nat:=116
abbrev f_bufio_Reader_Read:Nat:=117
abbrev f_bufio_Reader_ReadByte:Nat:=118
abbrev f_bufio_Reader_fill:Nat:=119
abbrev f_bufio_Reader_Buffered:Nat:=120
abbrev f_bufio_Reader_readErr:Nat:=121
abbrev f_decompressor_Close:Nat:=122
abbrev f_decompressor_Read:Nat:=123
abbrev f_CorruptInputError_Error:Nat:=124
abbrev f_reflectlite_flag_mustBeAssignable:Nat:=125
abbrev f_reflectlite_Value_Kind:Nat:=126
abbrev f_abi_Kind_String:Nat:=127
abbrev f_InternalError_Error:Nat:=128
abbrev f_abi_Type_Size:Nat:=129
abbrev f_reflectlite_rtype_AssignableTo:Nat:=130
abbrev f_reflectlite_rtype_Comparable:Nat:=131
abbrev f_reflectlite_rtype_Elem:Nat:=132
abbrev f_reflectlite_rtype_Implements:Nat:=133
abbrev f_reflectlite_rtype_Name:Nat:=134
abbrev f_reflectlite_rtype_PkgPath:Nat:=135
abbrev f_reflectlite_rtype_String:Nat:=136
abbrev f_reflectlite_rtype_common:Nat:=137
abbrev f_reflectlite_rtype_uncommon:Nat:=138
abbrev f_reflectlite_ValueError_Error:Nat:=139
abbrev f_errors_errorString_Error:Nat:=140
abbrev f_abi_UncommonType_ExportedMethods:Nat:=141
abbrev f_errors_New:Nat:=142
abbrev g_io_EOF:Nat:=0
abbrev g_io_ErrUnexpectedEOF:Nat:=1
abbrev g_errors_errorType:Nat:=2
abbrev g_inflate_codeOrder:Nat:=3
abbrev g_io_ErrShortBuffer:Nat:=4
abbrev g_bufio_errNegativeRead:Nat:=5
abbrev g_io_ErrNoProgress:Nat:=6
abbrev t_:Nat:=0
abbrev t_func:Nat:=1
abbrev t_int64:Nat:=2
abbrev t_int:Nat:=3
abbrev t_bool:Nat:=4
abbrev t_uint8:Nat:=5
abbrev t_abi_BoundsErrorCode:Nat:=6
abbrev t_hb8f438ef18d4:Nat:=7
abbrev t_runtime_boundsError:Nat:=8
abbrev t_string:Nat:=9
abbrev t_runtime_errorString:Nat:=10
abbrev t_runtime_plainError:Nat:=11
abbrev t_uintptr:Nat:=12
abbrev t_struct_msg_string_addr_uintptr:Nat:=13
abbrev t_runtime_errorAddressString:Nat:=14
abbrev t_p_runtime_TypeAssertionError:Nat:=15
abbrev t_p_runtime_PanicNilError:Nat:=16
abbrev t_p_abi_Type:Nat:=17
abbrev t_struct_typ_p_abi_Type:Nat:=18
abbrev t_maps_unhashableTypeError:Nat:=19
abbrev t_interface:Nat:=20
abbrev t_int32:Nat:=21
abbrev t_s_uint8:Nat:=22
abbrev t_s_uint8_s_uint8:Nat:=23
abbrev t_func_s_uint8_s_uint8_s_uint8:Nat:=24
abbrev t_s_uint8_int_int:Nat:=25
abbrev t_func_s_uint8_s_uint8_s_uint8_int_int:Nat:=26
abbrev t_s_uint8_int:Nat:=27
abbrev t_func_s_uint8_int_s_uint8_int:Nat:=28
abbrev t_func_s_uint8_s_uint8_bool:Nat:=29
abbrev t_func_s_uint8_bool:Nat:=30
abbrev t_p_spec_reader:Nat:=31
abbrev t_func_s_uint8_p_spec_reader:Nat:=32
abbrev t_func_int_s_uint8:Nat:=33
abbrev t_p_spec_Writer:Nat:=34
abbrev t_struct_Out_s_uint8_n_int:Nat:=35
abbrev t_spec_Writer:Nat:=36
abbrev t_s_spec_Item:Nat:=37
abbrev t_struct_Lit_uint8_Len_int_Dist_int:Nat:=38
abbrev t_spec_Item:Nat:=39
abbrev t_func_int_int:Nat:=40
abbrev t_func_s_spec_Item_bool:Nat:=41
abbrev t_func_p_spec_reader_s_spec_Item_bool:Nat:=42
abbrev t_p_spec_state:Nat:=43
abbrev t_he793f5f3d5b7:Nat:=44
abbrev t_spec_state:Nat:=45
abbrev t_func_bool:Nat:=46
abbrev t_func_int:Nat:=47
abbrev t_func_io_Reader_int_s_uint8_int:Nat:=48
abbrev t_h92e6137ec1bc:Nat:=49
abbrev t_io_ReadCloser:Nat:=50
abbrev t_func_io_Reader_io_ReadCloser:Nat:=51
abbrev t_p_bytes_Reader:Nat:=52
abbrev t_func_s_uint8_p_bytes_Reader:Nat:=53
abbrev t_int_int:Nat:=54
abbrev t_func_int_int_int:Nat:=55
abbrev t_func_int_:Nat:=56
abbrev t_s_bool:Nat:=57
abbrev t_s_bool_s_bool:Nat:=58
abbrev t_func_s_spec_Item_s_bool_s_bool:Nat:=59
abbrev t_s_int:Nat:=60
abbrev t_func_s_bool_int_s_int:Nat:=61
abbrev t_func_int_int_:Nat:=62
abbrev t_func_p_spec_reader_s_int_s_int:Nat:=63
abbrev t_func_s_spec_Item_s_int_s_int:Nat:=64
abbrev t_func_s_uint8_s_spec_Item_s_uint8:Nat:=65
abbrev t_struct_b_s_uint8_p_int:Nat:=66
abbrev t_spec_reader:Nat:=67
abbrev t_func_int_int__:Nat:=68
abbrev t_func_bool_int:Nat:=69
abbrev t_s_int_s_int:Nat:=70
abbrev t_func_s_int_s_int:Nat:=71
abbrev t_func_s_int_int_s_int:Nat:=72
abbrev t_func_s_int_s_int_:Nat:=73
abbrev t_interface_Read_s_uint8_int_error:Nat:=74
abbrev t_io_Reader:Nat:=75
abbrev t_interface_Error_string:Nat:=76
abbrev t_error:Nat:=77
abbrev t_int_error:Nat:=78
abbrev t_func_s_uint8_int_error:Nat:=79
abbrev t_func_error_int:Nat:=80
abbrev t_h590880751610:Nat:=81
abbrev t_flate_Reader:Nat:=82
abbrev t_p_bufio_Reader:Nat:=83
abbrev t_uint32:Nat:=84
abbrev t_uint:Nat:=85
abbrev t_512_uint32:Nat:=86
abbrev t_s_s_uint32:Nat:=87
abbrev t_h158c9136079c:Nat:=88
abbrev t_flate_huffmanDecoder:Nat:=89
abbrev t_p__316_int:Nat:=90
abbrev t_p__19_int:Nat:=91
abbrev t_h33392cd13393:Nat:=92
abbrev t_flate_dictDecoder:Nat:=93
abbrev t_4_uint8:Nat:=94
abbrev t_func_p_flate_decompressor:Nat:=95
abbrev t_p_flate_huffmanDecoder:Nat:=96
abbrev t_hff9126cc7b7d:Nat:=97
abbrev t_flate_decompressor:Nat:=98
abbrev t_func_io_Reader:Nat:=99
abbrev t_316_int:Nat:=100
abbrev t_19_int:Nat:=101
abbrev t_p_flate_decompressor:Nat:=102
abbrev t_func_int_s_uint8_:Nat:=103
abbrev t_int_int_int:Nat:=104
abbrev t_func_int_int_int_int:Nat:=105
abbrev t_s_spec_run:Nat:=106
abbrev t_func_s_int_s_spec_run:Nat:=107
abbrev t_struct_k_int_v_int_n_int:Nat:=108
abbrev t_spec_run:Nat:=109
abbrev t_func_s_int:Nat:=110
abbrev t_func_s_int_s_int__:Nat:=111
abbrev t_func_uint8:Nat:=112
abbrev t_map_int_int:Nat:=113
abbrev t_func_s_int_map_int_int:Nat:=114
abbrev t_func_map_int_int_int:Nat:=115
abbrev t_func_s_int_int:Nat:=116
abbrev t_func_s_int_:Nat:=117
abbrev t_func_int_s_int_s_int:Nat:=118
abbrev t_flate_CorruptInputError:Nat:=119
abbrev t_func_error_interface_bool:Nat:=120
abbrev t_p_flate_CorruptInputError:Nat:=121
abbrev t_flate_Reader_bool:Nat:=122
abbrev t_func_io_Reader_p_bufio_Reader:Nat:=123
abbrev t_func_error:Nat:=124
abbrev t_func_p_flate_huffmanDecoder:Nat:=125
abbrev t_p_flate_dictDecoder:Nat:=126
abbrev t_struct_s_s_uint8_i_int64_prevRune_int:Nat:=127
abbrev t_bytes_Reader:Nat:=128
abbrev t_int_bool:Nat:=129
abbrev t_func_map_int_int_int_bool:Nat:=130
abbrev t_unsafe_Pointer:Nat:=131
abbrev t_reflectlite_flag:Nat:=132
abbrev t_h7459a9163517:Nat:=133
abbrev t_reflectlite_Value:Nat:=134
abbrev t_func_interface_reflectlite_Value:Nat:=135
abbrev t_h71f4a5e87f88:Nat:=136
abbrev t_reflectlite_Type:Nat:=137
abbrev t_func_reflectlite_Type:Nat:=138
abbrev t_abi_Kind:Nat:=139
abbrev t_func_abi_Kind:Nat:=140
abbrev t_func_reflectlite_Type_bool:Nat:=141
abbrev t_hd222fc2f82d9:Nat:=142
abbrev t_hf8e55a520b95:Nat:=143
abbrev t_bufio_Reader:Nat:=144
abbrev t_func_s_uint8_io_Reader:Nat:=145
abbrev t_func_io_Reader_int_p_bufio_Reader:Nat:=146
abbrev t_uint8_error:Nat:=147
abbrev t_func_uint8_error:Nat:=148
abbrev t_func_error_error:Nat:=149
abbrev t_func_io_Reader_s_uint8_int_error:Nat:=150
abbrev t_uint16:Nat:=151
abbrev t_func_s_uint8:Nat:=152
abbrev t_288_int:Nat:=153
abbrev t_func_s_int_bool:Nat:=154
abbrev t_func_p_flate_huffmanDecoder_int_error:Nat:=155
abbrev t_func_uint8_uint8:Nat:=156
abbrev t_func_int_int_int_:Nat:=157
abbrev t_flate_InternalError:Nat:=158
abbrev t_struct_p_abi_Type:Nat:=159
abbrev t_reflectlite_rtype:Nat:=160
abbrev t_p_reflectlite_ValueError:Nat:=161
abbrev t_func_interface_reflectlite_Type:Nat:=162
abbrev t_func_reflectlite_Value:Nat:=163
abbrev t_func_reflectlite_Value_:Nat:=164
abbrev t_interface_As_interface_bool:Nat:=165
abbrev t_interface_As_interface_bool_bool:Nat:=166
abbrev t_func_interface_bool:Nat:=167
abbrev t_interface_Unwrap_error:Nat:=168
abbrev t_interface_Unwrap_s_error:Nat:=169
abbrev t_s_error:Nat:=170
abbrev t_func_s_error:Nat:=171
abbrev t_p_bufio_Reader_bool:Nat:=172
abbrev t_func_io_Reader_s_uint8_int_int_error:Nat:=173
abbrev t_16_int:Nat:=174
abbrev t_func_uint16_uint16:Nat:=175
abbrev t_s_uint32:Nat:=176
abbrev t_p_errors_errorString:Nat:=177
abbrev t_func_string:Nat:=178
abbrev t_h4efbc9d31102:Nat:=179
abbrev t_runtime_TypeAssertionError:Nat:=180
abbrev t_0_p_runtime_PanicNilError:Nat:=181
abbrev t_struct___0_p_runtime_PanicNilError:Nat:=182
abbrev t_runtime_PanicNilError:Nat:=183
abbrev t_func_p_abi_Type:Nat:=184
abbrev t_abi_TFlag:Nat:=185
abbrev t_func_unsafe_Pointer_unsafe_Pointer_bool:Nat:=186
abbrev t_p_uint8:Nat:=187
abbrev t_abi_NameOff:Nat:=188
abbrev t_abi_TypeOff:Nat:=189
abbrev t_h0466122651a9:Nat:=190
abbrev t_abi_Type:Nat:=191
abbrev t_func_uintptr:Nat:=192
abbrev t_func_p_abi_UncommonType:Nat:=193
abbrev t_struct_Method_string_Kind_abi_Kind:Nat:=194
abbrev t_reflectlite_ValueError:Nat:=195
abbrev t_struct_s_string:Nat:=196
abbrev t_errors_errorString:Nat:=197
abbrev t_p_abi_UncommonType:Nat:=198
abbrev t_func_s_abi_Method:Nat:=199
abbrev t_h4d6bb124de3e:Nat:=200
abbrev t_abi_UncommonType:Nat:=201
abbrev t_s_abi_Method:Nat:=202
abbrev t_abi_TextOff:Nat:=203
abbrev t_h554f8b48cc61:Nat:=204
abbrev t_abi_Method:Nat:=205
abbrev t_func_string_error:Nat:=206
abbrev t_p_error:Nat:=207
end Go.M

namespace Go.M
open Go
theorem cell_spot {m:Mem} {a:Addr} {v:Value} (h:cell? m a=some v):a.spot=none:=by
 unfold cell? at h
 split at h
 ·split at h
  ·cases h
  ·rename_i hs; simpa using hs
 ·cases h
theorem size_set (m:Mem) (a:Addr) (v:Value):(setCell m a v).size=m.size:=by simp [setCell]
theorem cell_set_same {m:Mem} {a:Addr} {v old:Value} (h:cell? m a=some old):cell? (setCell m a v) a=some v:=by
 have hs:=cell_spot h
 unfold cell? setCell at *
 simp only [Array.getElem?_modify,if_true]
 cases hb:m[a.block]? with
 | none=>rw [hb] at h; cases h
 | some o=>
  rw [hb] at h
  cases o <;> simp only [Option.map_some] at h ⊢ <;> try (cases h; done)
  rename_i c t fr
  simp only [hs,Option.isSome_none,Bool.false_eq_true,if_false] at h ⊢
  have:a.off < c.size:=(Array.getElem?_eq_some_iff.1 h).1
  simp [this]
theorem cell_set_ne {m:Mem} {a b:Addr} {v:Value} (h:b.block≠a.block∨b.off≠a.off):cell? (setCell m a v) b=cell? m b:=by
 unfold cell? setCell
 simp only [Array.getElem?_modify]
 by_cases hb:a.block=b.block
 ·simp only [hb,if_true]
  cases hm:m[b.block]? with
  | none=>rfl
  | some o=>
   cases o <;> simp only [Option.map_some]
   rename_i c t fr
   rcases h with h | h
   ·exact absurd hb.symm h
   ·split
    ·rfl
    ·split
     ·rfl
     ·rw [Array.getElem?_setIfInBounds_ne (Ne.symm h)]
 ·simp only [hb,if_false]
theorem frozen_set (m:Mem) (a b:Addr) (v:Value):frozen? (setCell m a v) b=frozen? m b:=by
 unfold frozen? setCell
 simp only [Array.getElem?_modify]
 by_cases hb:a.block=b.block
 ·simp only [hb,if_true]
  cases hm:m[b.block]? with
  | none=>rfl
  | some o=>cases o <;> rfl
 ·simp only [hb,if_false]
theorem cell_push {m:Mem} {o:Obj} {b:Addr} {v:Value} (h:cell? m b=some v):cell? (m.push o) b=some v:=by
 unfold cell? at *
 cases hm:m[b.block]? with
 | none=>rw [hm] at h; cases h
 | some x=>
  have hlt:b.block < m.size:=(Array.getElem?_eq_some_iff.1 hm).1
  have:(m.push o)[b.block]?=some x:=by
   rw [Array.getElem?_push_lt hlt]
   rw [Array.getElem?_eq_getElem hlt] at hm
   exact hm
  rw [this]
  rw [hm] at h
  exact h
theorem cell_new {m:Mem} {c:Array Value} {t:TypeId} {i:Nat} {v:Value} (h:c[i]?=some v):cell? (m.push (.cells c t)) ⟨m.size,i,none⟩=some v:=by
 simp [cell?,h]
structure Fr (S:Nat→Nat→Prop) (m m':Mem):Prop where
 size:m.size≤m'.size
 cells:∀ (i:Nat) (c:Array Value) (t:TypeId) (fr:Nat×Nat),m[i]?=some (.cells c t fr)→
  ∃ c',m'[i]?=some (.cells c' t fr)∧c'.size=c.size∧∀ j, ¬ S i j→c'[j]?=c[j]?
 objs:∀ (i:Nat) (o:Obj),m[i]?=some o→(∀ c t fr,o≠.cells c t fr)→ ¬ S i 0→m'[i]?=some o
variable {S S':Nat→Nat→Prop} {m m' m'':Mem}
theorem Fr.refl (S:Nat→Nat→Prop) (m:Mem):Fr S m m:=
 ⟨Nat.le_refl _,fun _ c _ _ h=>⟨c,h,rfl,fun _ _=>rfl⟩,fun _ _ h _ _=>h⟩
theorem Fr.trans (h:Fr S m m') (h':Fr S m' m''):Fr S m m'':=by
 refine ⟨Nat.le_trans h.size h'.size,fun i c t fr hc=>?_,fun i o ho hn hs=>h'.objs i o (h.objs i o ho hn hs) hn hs⟩
 obtain ⟨c',h1,h2,h3⟩:=h.cells i c t fr hc
 obtain ⟨c'',h4,h5,h6⟩:=h'.cells i c' t fr h1
 exact ⟨c'',h4,h5.trans h2,fun j hj=>(h6 j hj).trans (h3 j hj)⟩
theorem Fr.mono (h:Fr S m m') (hs:∀ i j,S i j→S' i j):Fr S' m m':=
 ⟨h.size,fun i c t fr hc=>let ⟨c',h1,h2,h3⟩:=h.cells i c t fr hc; ⟨c',h1,h2,fun j hj=>h3 j fun hs'=>hj (hs i j hs')⟩,
 fun i o ho hn hj=>h.objs i o ho hn fun hs'=>hj (hs i 0 hs')⟩
theorem Fr.old (h:Fr S m m') (hs:∀ i j,i < m.size→S i j→S' i j):Fr S' m m':=
 ⟨h.size,fun i c t fr hc=>let ⟨c',h1,h2,h3⟩:=h.cells i c t fr hc
  ⟨c',h1,h2,fun j hj=>h3 j fun hs'=>hj (hs i j (Array.getElem?_eq_some_iff.1 hc).1 hs')⟩,
 fun i o ho hn hj=>h.objs i o ho hn fun hs'=>hj (hs i 0 (Array.getElem?_eq_some_iff.1 ho).1 hs')⟩
theorem Fr.set {a:Addr} {v:Value} (hs:S a.block a.off):Fr S m (setCell m a v):=by
 refine ⟨Nat.le_of_eq (size_set m a v).symm,fun i c t fr hc=>?_,fun i o ho hn _=>?_⟩
 ·by_cases hb:a.block=i
  ·refine ⟨if a.spot.isSome then c else c.setIfInBounds a.off v,?_,?_,fun j hj=>?_⟩
   ·simp [setCell,Array.getElem?_modify,hb,hc]
   ·split <;> simp
   ·split
    ·rfl
    ·have:a.off≠j:=fun e=>hj (by rw [← hb, ← e]; exact hs)
     rw [Array.getElem?_setIfInBounds_ne this]
  ·exact ⟨c,by simp [setCell,Array.getElem?_modify,hb,hc],rfl,fun _ _=>rfl⟩
 ·by_cases hb:a.block=i
  ·simp only [setCell,Array.getElem?_modify,hb,if_true,ho,Option.map_some]
  ·simp only [setCell,Array.getElem?_modify,hb,if_false,ho]
theorem Fr.push (o:Obj):Fr S m (m.push o):=by
 have key:∀ (i:Nat) (x:Obj),m[i]?=some x→(m.push o)[i]?=some x:=by
  intro i x h
  have hlt:i < m.size:=(Array.getElem?_eq_some_iff.1 h).1
  rw [Array.getElem?_push_lt hlt]
  rw [Array.getElem?_eq_getElem hlt] at h
  exact h
 exact ⟨by simp,fun i c t fr hc=>⟨c,key i _ hc,rfl,fun _ _=>rfl⟩,fun i x hx _ _=>key i x hx⟩
theorem Fr.cell (h:Fr S m m') {a:Addr} {v:Value} (hc:cell? m a=some v) (hs: ¬ S a.block a.off):cell? m' a=some v:=by
 have hsp:=cell_spot hc
 unfold cell? at *
 cases hb:m[a.block]? with
 | none=>rw [hb] at hc; cases hc
 | some o=>
  rw [hb] at hc
  cases o <;> simp only at hc <;> try (cases hc; done)
  rename_i c t fr
  obtain ⟨c',h1,h2,h3⟩:=h.cells _ c t fr hb
  simp only [hsp,Option.isSome_none,Bool.false_eq_true,if_false] at hc
  simp only [h1,hsp,Option.isSome_none,Bool.false_eq_true,if_false]
  rw [h3 _ hs]; exact hc
theorem Fr.there (h:Fr S m m') {a:Addr} {v:Value} (hc:cell? m a=some v):∃ v',cell? m' a=some v':=by
 have hsp:=cell_spot hc
 unfold cell? at *
 cases hb:m[a.block]? with
 | none=>rw [hb] at hc; cases hc
 | some o=>
  rw [hb] at hc
  cases o <;> simp only at hc <;> try (cases hc; done)
  rename_i c t fr
  obtain ⟨c',h1,h2,h3⟩:=h.cells _ c t fr hb
  simp only [hsp,Option.isSome_none,Bool.false_eq_true,if_false] at hc
  have hlt:a.off < c.size:=(Array.getElem?_eq_some_iff.1 hc).1
  simp only [h1,hsp,Option.isSome_none,Bool.false_eq_true,if_false]
  exact ⟨c'[a.off]'(by omega),Array.getElem?_eq_getElem (by omega)⟩
theorem Fr.frozen (h:Fr S m m') {a:Addr} {v:Value} (hc:cell? m a=some v):frozen? m' a=frozen? m a:=by
 unfold cell? at hc
 unfold frozen?
 cases hb:m[a.block]? with
 | none=>rw [hb] at hc; cases hc
 | some o=>
  rw [hb] at hc
  cases o <;> simp only at hc <;> try (cases hc; done)
  rename_i c t fr
  obtain ⟨c',h1,_,_⟩:=h.cells _ c t fr hb
  simp only [h1]
theorem cell_block {a:Addr} {v:Value} (hc:cell? m a=some v):a.block < m.size:=by
 unfold cell? at hc
 cases hb:m[a.block]? with
 | none=>rw [hb] at hc; cases hc
 | some o=>exact (Array.getElem?_eq_some_iff.1 hb).1
def Wr (m:Mem) (a:Addr):Prop:=(∃ v,cell? m a=some v)∧frozen? m a=false
theorem Wr.fr (h:Fr S m m') {a:Addr} (hw:Wr m a):Wr m' a:=by
 obtain ⟨⟨v,hv⟩,hf⟩:=hw
 exact ⟨h.there hv,by rw [h.frozen hv]; exact hf⟩
theorem StW.of {a:Addr} {v:Value} {K:Mem→Prop} (hc:isCell v=true) (hw:Wr m a)
  (hk:∀ m',cell? m' a=some v→Fr (fun i j=>i=a.block∧j=a.off) m m'→m'.size=m.size→K m'):StW m a v K:=by
 obtain ⟨⟨old,ho⟩,hf⟩:=hw
 exact ⟨hc,⟨old,ho⟩,hf,hk _ (cell_set_same ho) (Fr.set ⟨rfl,rfl⟩) (size_set ..)⟩
theorem StW.at {b o:Nat} {v:Value} {K:Mem→Prop} (hc:isCell v=true) (hw:Wr m ⟨b,o,none⟩)
  (hk:∀ m',cell? m' ⟨b,o,none⟩=some v→Fr (fun i j=>i=b∧j=o) m m'→m'.size=m.size→K m'):StW m ⟨b,o,none⟩ v K:=StW.of hc hw hk
theorem ifB_t {A B:Prop} (h:A):ifB true A B:=h
theorem ifB_f {A B:Prop} (h:B):ifB false A B:=h
theorem WPS.piece {n:Nat} {L₀:List Nat} {c:Code} {K:Kont} {r r':Env} {m:Mem} (L:List Nat) (hr:Env.keep L r=r') (h:wpc PP FF n L₀ c K r' m):WPS PP n c K r m:=
 WPS.keep L (wpc_sound ffOk mixedOk (by rw [hr]; exact h))
theorem wr_new {c:Array Value} {t:TypeId} {i:Nat} (h:i < c.size):Wr (m.push (.cells c t)) ⟨m.size,i,none⟩:=
 ⟨⟨c[i],cell_new (Array.getElem?_eq_getElem h)⟩,by simp [frozen?]⟩
def Row (m:Mem) (b o:Nat) (vs:List Value):Prop:=∀ i v,vs[i]?=some v→cell? m ⟨b,o+i,none⟩=some v
def WrRow (m:Mem) (b o n:Nat):Prop:=∀ i,i < n→Wr m ⟨b,o+i,none⟩
theorem Row.fr (h:Fr S m m') {b o:Nat} {vs:List Value} (hr:Row m b o vs) (hs:∀ i,i < vs.length→ ¬ S b (o+i)):Row m' b o vs:=
 fun i v hv=>h.cell (hr i v hv) (hs i (List.getElem?_eq_some_iff.1 hv).1)
theorem WrRow.fr (h:Fr S m m') {b o n:Nat} (hr:WrRow m b o n):WrRow m' b o n:=fun i hi=>(hr i hi).fr h
theorem Row.loadCells {P:Program} {b o:Nat}:∀ {vs:List Value} {i:Nat} {acc:Array Value} {K:Array Value→Mem→Prop},(∀ j v,vs[j]?=some v→cell? m ⟨b,o+i+j,none⟩=some v)→
  K (acc++vs.toArray) m→SemW P (loadCellsFrom ⟨b,o,none⟩ i vs.length acc) m K
 | [],i,acc,K,_,hk=>by
  have h:K acc m:=by simpa using hk
  exact h
 | v::vs,i,acc,K,h,hk=>by
  refine ⟨v,?_,?_⟩
  ·rw [aplus_add]; exact h 0 v rfl
  ·refine Row.loadCells (vs:=vs) (i:=i+1) (fun j u hj=>?_) (by simpa using hk)
   have:=h (j+1) u (by simpa using hj)
   rw [show o+(i+1)+j=o+i+(j+1) from by omega]; exact this
theorem Row.storeCells {P:Program} {b o:Nat}:∀ {vs:List Value} {i:Nat} {m:Mem} {K:Unit→Mem→Prop},(∀ v ∈ vs,isCell v=true)→(∀ j,j < vs.length→Wr m ⟨b,o+i+j,none⟩)→
  (∀ m',(∀ j v,vs[j]?=some v→cell? m' ⟨b,o+i+j,none⟩=some v)→Fr (fun x y=>x=b∧o+i≤y∧y < o+i+vs.length) m m'→m'.size=m.size→K () m')→
  SemW P (storeCells ⟨b,o,none⟩ vs i) m K
 | [],i,m,K,_,_,hk=>hk m (fun j v h=>by simp at h) (Fr.refl _ _) rfl
 | v::vs,i,m,K,hc,hw,hk=>by
  obtain ⟨⟨old,ho⟩,hf⟩:=hw 0 (by simp)
  have ha:(⟨b,o,none⟩:Addr).add i=⟨b,o+i,none⟩:=by rw [aplus_add]; rfl
  refine ⟨hc v (List.mem_cons_self ..),⟨old,by rw [ha]; exact ho⟩,by rw [ha]; exact hf,?_⟩
  rw [ha]
  have hfr:Fr (fun x y=>x=b∧o+i≤y∧y < o+i+(v::vs).length) m (setCell m ⟨b,o+i,none⟩ v):=Fr.set ⟨rfl,Nat.le_refl _,by simp⟩
  refine Row.storeCells (vs:=vs) (i:=i+1) (fun u hu=>hc u (List.mem_cons_of_mem _ hu)) (fun j hj=>?_) (fun m' h1 h2 h3=>?_)
  ·rw [show o+(i+1)+j=o+i+(j+1) from by omega]
   exact (hw (j+1) (by simp; omega)).fr hfr
  ·refine hk m' (fun j u hj=>?_) (hfr.trans (h2.mono fun x y ⟨e,h4,h5⟩=>⟨e,by omega,by simp; omega⟩)) (by rw [h3,size_set])
   cases j with
   | zero=>
    simp only [List.getElem?_cons_zero,Option.some.injEq] at hj
    subst hj
    exact h2.cell (cell_set_same ho) (by rintro ⟨_,h4,_⟩; simp at h4; omega)
   | succ j=>
    simp only [List.getElem?_cons_succ] at hj
    have:=h1 j u hj
    rw [show o+i+(j+1)=o+(i+1)+j from by omega]; exact this
end Go.M

namespace Go.M
open Go
theorem wrap64_id {n:Int} (h1: -9223372036854775808≤n) (h2:n≤9223372036854775807):IntKind.wrap .i64 n=n:=by
 have e:IntKind.wrap .i64 n=if n % 18446744073709551616 ≥ 9223372036854775808 then n % 18446744073709551616 - 18446744073709551616 else n % 18446744073709551616:=by
  simp [IntKind.wrap,IntKind.bits,IntKind.signed]
 rw [e]
 split <;> omega
theorem wrap_u64 (n:Int):IntKind.wrap .u64 n=n % 18446744073709551616:=by simp [IntKind.wrap,IntKind.bits,IntKind.signed]
theorem wrap_u32 (n:Int):IntKind.wrap .u32 n=n % 4294967296:=by simp [IntKind.wrap,IntKind.bits,IntKind.signed]
theorem wrap_u16 (n:Int):IntKind.wrap .u16 n=n % 65536:=by simp [IntKind.wrap,IntKind.bits,IntKind.signed]
theorem wrap_u8 (n:Int):IntKind.wrap .u8 n=n % 256:=by simp [IntKind.wrap,IntKind.bits,IntKind.signed]
theorem wrap_u64_id {n:Int} (h1:0≤n) (h2:n < 18446744073709551616):IntKind.wrap .u64 n=n:=by rw [wrap_u64]; omega
theorem wrap_u32_id {n:Int} (h1:0≤n) (h2:n < 4294967296):IntKind.wrap .u32 n=n:=by rw [wrap_u32]; omega
theorem wrap_u16_id {n:Int} (h1:0≤n) (h2:n < 65536):IntKind.wrap .u16 n=n:=by rw [wrap_u16]; omega
theorem wrap_u8_id {n:Int} (h1:0≤n) (h2:n < 256):IntKind.wrap .u8 n=n:=by rw [wrap_u8]; omega
theorem ofInt_toNat {k:Nat} {n:Nat} (h:n < 2 ^ k):(BitVec.ofInt k (n:Int)).toNat=n:=by
 simp [Nat.mod_eq_of_lt h]
theorem wrap_nat {k:IntKind} {n:Nat} (h:n < 2 ^ (k.bits - 1)):IntKind.wrap k (n:Int)=n:=by
 have hb:(n:Int) < (2 ^ (k.bits - 1):Int):=by exact_mod_cast h
 cases k <;> simp only [IntKind.bits,Nat.reduceSub] at hb h
 all_goals first
  | (rw [wrap64_id (by omega) (by omega)]; done)
  | (rw [wrap_u64_id (by omega) (by omega)]; done)
  | (rw [wrap_u32_id (by omega) (by omega)]; done)
  | (rw [wrap_u16_id (by omega) (by omega)]; done)
  | (rw [wrap_u8_id (by omega) (by omega)]; done)
  | skip
 all_goals
  simp [IntKind.wrap,IntKind.bits,IntKind.signed]
  omega
theorem wrap_nat_u {k:IntKind} (hk:k.signed=false) {n:Nat} (h:n < 2 ^ k.bits):IntKind.wrap k (n:Int)=n:=by
 have hb:(n:Int) < (2 ^ k.bits:Int):=by exact_mod_cast h
 have:=Int.emod_eq_of_lt (Int.natCast_nonneg n) hb
 simp only [IntKind.wrap,hk,Bool.false_and,Bool.false_eq_true,if_false,this]
theorem and_nat {k:IntKind} (hk:k.signed=false) {a b:Nat} (ha:a < 2 ^ k.bits) (hb:b < 2 ^ k.bits):bitsOp .and k a b=((a &&& b:Nat):Int):=by
 unfold bitsOp
 simp only [BitVec.toNat_and,ofInt_toNat ha,ofInt_toNat hb]
 exact wrap_nat_u hk (Nat.lt_of_le_of_lt Nat.and_le_left ha)
theorem or_nat {k:IntKind} (hk:k.signed=false) {a b:Nat} (ha:a < 2 ^ k.bits) (hb:b < 2 ^ k.bits):bitsOp .or k a b=((a ||| b:Nat):Int):=by
 unfold bitsOp
 simp only [BitVec.toNat_or,ofInt_toNat ha,ofInt_toNat hb]
 exact wrap_nat_u hk (Nat.or_lt_two_pow ha hb)
theorem and_i64 {a b:Nat} (ha:a < 2 ^ 63) (hb:b < 2 ^ 63):bitsOp .and .i64 a b=((a &&& b:Nat):Int):=by
 unfold bitsOp
 have ha':a < 2 ^ 64:=by omega
 have hb':b < 2 ^ 64:=by omega
 simp only [BitVec.toNat_and,ofInt_toNat (k:=IntKind.i64.bits) ha',ofInt_toNat (k:=IntKind.i64.bits) hb']
 exact wrap_nat (k:=.i64) (Nat.lt_of_le_of_lt Nat.and_le_left ha)
theorem or_i64 {a b:Nat} (ha:a < 2 ^ 63) (hb:b < 2 ^ 63):bitsOp .or .i64 a b=((a ||| b:Nat):Int):=by
 unfold bitsOp
 have ha':a < 2 ^ 64:=by omega
 have hb':b < 2 ^ 64:=by omega
 simp only [BitVec.toNat_or,ofInt_toNat (k:=IntKind.i64.bits) ha',ofInt_toNat (k:=IntKind.i64.bits) hb']
 exact wrap_nat (k:=.i64) (Nat.or_lt_two_pow ha hb)
theorem xor_i64 {a b:Nat} (ha:a < 2 ^ 63) (hb:b < 2 ^ 63):bitsOp .xor .i64 a b=((a ^^^ b:Nat):Int):=by
 unfold bitsOp
 have ha':a < 2 ^ 64:=by omega
 have hb':b < 2 ^ 64:=by omega
 simp only [BitVec.toNat_xor,ofInt_toNat (k:=IntKind.i64.bits) ha',ofInt_toNat (k:=IntKind.i64.bits) hb']
 exact wrap_nat (k:=.i64) (Nat.xor_lt_two_pow ha hb)
theorem shl_nat {k:IntKind} {a s:Nat} (hs:s≤k.bits):shlOp k a s=IntKind.wrap k ((a * 2 ^ s:Nat):Int):=by
 unfold shlOp
 simp [Nat.min_eq_left hs]
theorem shr_nat {k:IntKind} {a s:Nat} (hs:s≤k.bits):shrOp k a s=((a / 2 ^ s:Nat):Int):=by
 unfold shrOp
 simp only [Int.toNat_natCast,Nat.min_eq_left hs]
 rw [Int.fdiv_eq_ediv_of_nonneg _ (Int.le_of_lt (Int.pow_pos (by decide)))]
 simp
end Go.M

namespace Go.M
open Go
section
variable {P:Program} {m:Mem}
theorem SemW.pureI {α:Type} {a:α} {K:α→Mem→Prop} (h:K a m):SemW P (pure a) m K:=h
theorem SemW.bindI {α β:Type} {s:Sem α} {f:α→Sem β} {K:β→Mem→Prop} (h:SemW P s m (fun a m'=>SemW P (f a) m' K)):SemW P (s >>= f) m K:=SemW.bind h
theorem SemW.und {t:TypeId} {d:TypeDesc} {K:TypeDesc→Mem→Prop} (ht:P.underlying t=some d) (h:K d m):SemW P (underlying t) m K:=by
 show SemW P (match P.underlying t with | some d=>pure d | none=>stuck _) m K
 rw [ht]; exact h
theorem SemW.info {t:TypeId} {i:TypeInfo} {K:TypeInfo→Mem→Prop} (ht:P.info? t=some i) (h:K i m):SemW P (typeInfo t) m K:=by
 show SemW P (match P.info? t with | some i=>pure i | none=>stuck _) m K
 rw [ht]; exact h
theorem SemW.sizeI {t:TypeId} {i:TypeInfo} {K:Nat→Mem→Prop} (ht:P.info? t=some i) (h:K i.size m):SemW P (sizeOf t) m K:=
 SemW.bindI (SemW.info ht h)
theorem SemW.zeroI {t:TypeId} {i:TypeInfo} {z:Value} {K:Value→Mem→Prop} (ht:P.info? t=some i) (hz:i.zero=some z) (h:K z m):SemW P (zeroValue t) m K:=by
 refine SemW.bindI (SemW.info ht ?_)
 show SemW P (match i.zero with | some v=>pure v | none=>unsupported _) m K
 rw [hz]; exact h
theorem sv_W {s:Sem Value} {K:Value→Mem→Prop} (h:SemW P s m K):SemW P (sv s) m (NextW P K):=SemW.bindI h
theorem su_W {s:Sem Unit} {K:Value→Mem→Prop} (h:SemW P s m fun _ m'=>K undef m'):SemW P (su s) m (NextW P K):=SemW.bindI h
theorem firstCells_W {size n:Nat} {a:Option Addr} {l k:Nat} {b o:Nat} {vs:List Value} {K:Array Value→Mem→Prop} (hn:vs.length=n * size)
  (ha:vs≠[]→a=some ⟨b,o,none⟩) (hr:Row m b o vs) (hk:K vs.toArray m):SemW P (Builtin.firstCells size n (.slice a l k)) m K:=by
 cases a with
 | none=>
  have:vs=[]:=by
   cases vs with
   | nil=>rfl
   | cons v vs=>exact absurd (ha (by simp)) (by simp)
  subst this
  exact hk
 | some a=>
  show SemW P (loadCells a (n * size)) m K
  unfold loadCells
  cases vs with
  | nil=>
   simp only [List.length_nil] at hn
   rw [← hn]; exact hk
  | cons v vs=>
   have:=ha (by simp)
   simp only [Option.some.injEq] at this
   subst this
   rw [← hn]
   exact Row.loadCells (vs:=v::vs) (i:=0) (fun j u hj=>hr j u hj) (by simpa using hk)
theorem copy_W {t t2 rt e:TypeId} {cs:Array Bool} {i:TypeInfo} {a1 a2:Option Addr} {l1 k1 l2 k2:Nat} {K:Value→Mem→Prop} (ht:P.underlying t=some (.slice e)) (hi:P.info? e=some i) (hs:i.size=1)
  (b1 o1 b2 o2:Nat) (vs:List Value) (hn:vs.length=min l2 l1) (hc:∀ v ∈ vs,isCell v=true)
  (h2:vs≠[]→a2=some ⟨b2,o2,none⟩) (hr:Row m b2 o2 vs) (h1:vs≠[]→a1=some ⟨b1,o1,none⟩) (hw:WrRow m b1 o1 vs.length)
  (hk:∀ m',Row m' b1 o1 vs→Fr (fun x y=>x=b1∧o1≤y∧y < o1+vs.length) m m'→m'.size=m.size→K (.int .i64 vs.length) m'):
  SemW P (builtin .copy #[t,t2] rt cs #[.slice a1 l1 k1,.slice a2 l2 k2]) m (NextW P K):=by
 refine SemW.bindI ?_
 show SemW P (do
  let .slice elem ← underlying t | stuck "copy: slice type expected"
  let n:=Nat.min (← Builtin.lenOf (.slice a2 l2 k2)) l1
  let cells ← Builtin.firstCells (← sizeOf elem) n (.slice a2 l2 k2)
  if let some a:=a1 then storeCells a cells.toList
  pure (goInt n)) m _
 refine SemW.bindI (SemW.und ht ?_)
 refine SemW.bindI (SemW.pureI ?_)
 refine SemW.bindI (SemW.sizeI hi ?_)
 refine SemW.bindI (firstCells_W (vs:=vs) (b:=b2) (o:=o2) (by rw [hs,Nat.mul_one,hn]) h2 hr ?_)
 have hlen:Nat.min l2 l1=vs.length:=hn.symm
 cases vs with
 | nil=>
  have hK:=hk m (fun i v h=>by simp at h) (Fr.refl _ _) rfl
  cases a1 with
  | none=>rw [hlen]; exact hK
  | some a=>rw [hlen]; exact hK
 | cons v vs=>
  have:=h1 (by simp)
  subst this
  refine SemW.bindI ?_
  refine Row.storeCells (vs:=v::vs) (i:=0) hc (fun j hj=>hw j hj) (fun m' h3 h4 h5=>?_)
  refine SemW.pureI ?_
  rw [hlen]
  exact hk m' (fun j u hj=>by have:=h3 j u hj; simpa using this) (h4.mono fun x y ⟨e,h6,h7⟩=>⟨e,by simpa using h6,by simpa using h7⟩) h5
structure Own (m:Mem) (a:Option Addr) (l k sz:Nat) (xs:List Value) (b o:Nat):Prop where
 len:xs.length=l * sz
 le:l≤k
 at_:0 < k→a=some ⟨b,o,none⟩
 row:Row m b o xs
 wr:WrRow m b o (k * sz)
theorem growBy_le (n:Nat):∀ (r c:Nat),c≤2 * n+768→Builtin.growBy n r c≤2 * n+768
 | 0,c,h=>h
 | r+1,c,h=>by
  unfold Builtin.growBy
  split
  ·exact h
  ·exact growBy_le n r _ (by omega)
theorem nextslicecap_le {n k:Nat} (h:k < n):Builtin.nextslicecap n k≤2 * n+768:=by
 unfold Builtin.nextslicecap
 split
 ·omega
 ·split
  ·omega
  ·exact growBy_le n 4 k (by omega)
theorem row_append {m:Mem} {b o:Nat} {xs ys:List Value} (hx:Row m b o xs) (hy:Row m b (o+xs.length) ys):Row m b o (xs++ys):=by
 intro i v hv
 rcases Nat.lt_or_ge i xs.length with h | h
 ·rw [List.getElem?_append_left h] at hv
  exact hx i v hv
 ·rw [List.getElem?_append_right h] at hv
  have:=hy _ v hv
  rw [show o+i=o+xs.length+(i - xs.length) from by omega]; exact this
theorem append_W {t t2 rt e:TypeId} {cs:Array Bool} {i:TypeInfo} {z:Value} {d2:TypeDesc} {a a2:Option Addr} {l k l2 k2:Nat} {K:Value→Mem→Prop}
  (ht:P.underlying t=some (.slice e)) (ht2:P.underlying t2=some d2) (hd2:∀ k,d2≠.int k) (hi:P.info? e=some i) (hz:i.zero=some z) (hzs:0 < i.size) (hzc:z.cells.size=i.size)
  (b o b2 o2:Nat) (xs ys:List Value) (hown:Own m a l k i.size xs b o) (hy:ys.length=l2 * i.size) (hc:∀ v ∈ ys,isCell v=true)
  (h2:ys≠[]→a2=some ⟨b2,o2,none⟩) (hr:Row m b2 o2 ys) (hbig:(2 * (l+l2)+768) * i.bytes≤2 ^ 48) (hb:i.bytes≠0)
  (hk:∀ m' a' k' b' o',Own m' a' (l+l2) k' i.size (xs++ys) b' o'→((b'=b∧o'=o)∨b'=m.size)→Fr (fun x _=>x=b∧0 < k) m m'→(0 < l2→0 < k')→K (.slice a' (l+l2) k') m'):
  SemW P (builtin .append #[t,t2] rt cs #[.slice a l k,.slice a2 l2 k2]) m (NextW P K):=by
 refine SemW.bindI ?_
 refine SemW.bindI (SemW.und ht ?_)
 refine SemW.bindI (SemW.sizeI hi ?_)
 refine SemW.bindI (SemW.und ht2 ?_)
 refine SemW.bindI (SemW.pureI ?_)
 have main:SemW P (
   if l+l2≤k then do
    let new ← Builtin.firstCells i.size l2 (.slice a2 l2 k2)
    if let some a:=a then storeCells (a.add (l * i.size)) new.toList
    pure (.slice a (l+l2) k)
   else do
    if ((l+l2:Nat):Int) > IntKind.i64.max∧((false:Bool)=true∨(← typeInfo e).bytes=0) then runtimePanic (.error "growslice: len out of range")
    if Builtin.nextslicecap (l+l2) k * (← typeInfo e).bytes > 2 ^ 48 then (if (false:Bool)=true then runtimePanic (.error "growslice: len out of range") else do
     if !(← Builtin.mayShare i.size l l2 a (.slice a2 l2 k2)) then mark .noRoom
     unsupported (.resourceLimit "append: a slice or a string whose bytes no memory bears"))
    let newCap ← choose (.appendCap (l+l2) k e)
    askRoom (newCap * (← typeInfo e).bytes)
    let old ← Builtin.firstCells i.size l (.slice a l k)
    let new ← Builtin.firstCells i.size l2 (.slice a2 l2 k2)
    let rest:=Builtin.zeroCells (← zeroValue e).cells (newCap - (l+l2))
    pure (.slice (some (← newRow e (old++new++rest))) (l+l2) newCap)) m K:=by
  split
  ·rename_i hle
   refine SemW.bindI (firstCells_W (vs:=ys) (b:=b2) (o:=o2) hy h2 hr ?_)
   cases ys with
   | nil=>
    have hl2:l2=0:=by
     simp only [List.length_nil] at hy
     rcases Nat.eq_zero_or_pos l2 with h | h
     ·exact h
     ·have:=Nat.mul_pos h hzs; omega
    have hK:K (.slice a (l+l2) k) m:=by
     refine hk m a k b o ?_ (.inl ⟨rfl,rfl⟩) (Fr.refl _ _) (by omega)
     rw [hl2,List.append_nil,Nat.add_zero]; exact hown
    cases a with
    | none=>exact hK
    | some a=>exact hK
   | cons y ys=>
    have hl2:0 < l2:=by
     rcases Nat.eq_zero_or_pos l2 with h | h
     ·rw [h] at hy; simp at hy
     ·exact h
    have hkpos:0 < k:=by omega
    have hat:=hown.at_ hkpos
    subst hat
    refine SemW.bindI ?_
    have ha:(⟨b,o,none⟩:Addr).add (l * i.size)=⟨b,o+l * i.size,none⟩:=by rw [aplus_add]; rfl
    show SemW P (storeCells ((⟨b,o,none⟩:Addr).add (l * i.size)) (y::ys) 0) m _
    rw [ha]
    refine Row.storeCells (vs:=y::ys) (i:=0) hc (fun j hj=>?_) (fun m' h3 h4 h5=>?_)
    ·rw [hy] at hj
     have:(l+l2) * i.size≤k * i.size:=Nat.mul_le_mul_right _ hle
     rw [Nat.add_mul] at this
     have:=hown.wr (l * i.size+j) (by omega)
     rw [show o+l * i.size+0+j=o+(l * i.size+j) from by omega]; exact this
    ·refine SemW.pureI ?_
     refine hk m' _ k b o ⟨?_,hle,fun _=>rfl,?_,hown.wr.fr h4⟩ (.inl ⟨rfl,rfl⟩) (h4.mono fun x y' ⟨e,_,_⟩=>⟨e,hkpos⟩) (fun _=>hkpos)
     ·rw [List.length_append,hown.len,hy,Nat.add_mul]
     ·refine row_append ?_ ?_
      ·refine hown.row.fr h4 fun j hj=>?_
       rw [hown.len] at hj
       rintro ⟨_,h6,_⟩
       omega
      ·intro j u hj
       rw [hown.len]
       have:=h3 j u hj
       simpa using this
  ·rename_i hnle
   have hnot: ¬ ((((l+l2:Nat):Int) > IntKind.i64.max)∧((false:Bool)=true∨i.bytes=0)):=by
    rintro ⟨_,h | h⟩
    ·cases h
    ·exact hb h
   refine SemW.bindI (SemW.info hi ?_)
   rw [if_neg hnot]
   refine SemW.bindI (SemW.info hi ?_)
   have hcap: ¬ (Builtin.nextslicecap (l+l2) k * i.bytes > 2 ^ 48):=by
    have:=nextslicecap_le (n:=l+l2) (k:=k) (by omega)
    have:=Nat.mul_le_mul_right i.bytes this
    omega
   rw [if_neg hcap]
   refine SemW.bindI ?_
   intro tp
   have hforced:(Question.appendCap (l+l2) k e).forced=false:=rfl
   simp only [hforced]
   have hge:l+l2≤Question.cut (.appendCap (l+l2) k e) tp:=by
    show l+l2≤l+l2+_
    omega
   generalize Question.cut (.appendCap (l+l2) k e) tp=newCap at hge
   refine SemW.pureI ?_
   simp only [Bool.false_eq_true,if_false]
   refine SemW.bindI (SemW.info hi ?_)
   refine SemW.bindI ?_
   have room:∀ (n:Nat) (K:Unit→Mem→Prop),K () m→SemW P (askRoom n) m K:=by
    intro n K h
    unfold askRoom
    split
    ·exact h
    ·exact h
   refine room _ _ ?_
   refine SemW.bindI (firstCells_W (vs:=xs) (b:=b) (o:=o) hown.len (fun hne=>hown.at_ ?_) hown.row ?_)
   ·have:0 < l:=by
     rcases Nat.eq_zero_or_pos l with h | h
     ·have:=hown.len
      rw [h,Nat.zero_mul] at this
      exact absurd (List.eq_nil_of_length_eq_zero this) hne
     ·exact h
    have:=hown.le; omega
   refine SemW.bindI (firstCells_W (vs:=ys) (b:=b2) (o:=o2) hy h2 hr ?_)
   refine SemW.bindI (SemW.zeroI hi hz ?_)
   refine SemW.bindI ?_
   show K _ _
   have hsz:(xs.toArray++ys.toArray++Builtin.zeroCells z.cells (newCap - (l+l2))).size=newCap * i.size:=by
    simp only [Array.size_append,List.size_toArray,hown.len,hy,Builtin.zeroCells,Array.size_map,Array.size_range,hzc]
    rw [← Nat.add_mul, ← Nat.add_mul]
    congr 1; omega
   refine hk _ _ newCap m.size 0 ⟨?_,hge,fun _=>rfl,?_,?_⟩ (.inr rfl) (Fr.push _) (by omega)
   ·rw [List.length_append,hown.len,hy,Nat.add_mul]
   ·intro j v hj
    rw [Nat.zero_add]
    refine cell_new ?_
    rw [Array.getElem?_append_left]
    ·simpa using hj
    ·have:=(List.getElem?_eq_some_iff.1 hj).1
     simpa using this
   ·intro j hj
    rw [Nat.zero_add]
    exact wr_new (by rw [hsz]; exact hj)
 cases d2 <;> first | exact absurd rfl (hd2 _) | (refine SemW.bindI (SemW.pureI ?_); exact main)
theorem make_W {t e:TypeId} {i:TypeInfo} {z:Value} {n:Nat} {x y:Int} {K:Value→Mem→Prop} (ht:P.underlying t=some (.slice e)) (hi:P.info? e=some i) (hz:i.zero=some z) (hzc:z.cells=#[z])
  (hs:i.size=1) (hx:x=n) (hy:y=n) (hbig:i.bytes * n≤2 ^ 48) (hbig2:n≤2 ^ 48)
  (hk:∀ m',Own m' (some ⟨m.size,0,none⟩) n n 1 (List.replicate n z) m.size 0→(∀ S,Fr S m m')→m'.size=m.size+1→K (.slice (some ⟨m.size,0,none⟩) n n) m'):
  SemW P (sv (Instr.makeSlice t (.int .i64 x) (.int .i64 y))) m (NextW P K):=by
 subst hx; subst hy
 refine sv_W ?_
 have h0:IntKind.wrap .i64 (n:Int)=n:=wrap64_id (by omega) (by omega)
 refine SemW.bindI (SemW.und ht ?_)
 refine SemW.bindI (SemW.pureI ?_)
 refine SemW.bindI (SemW.pureI ?_)
 refine SemW.bindI (SemW.info hi ?_)
 simp only [h0]
 have hc:((decide ((n:Int) < 0) || decide ((i.bytes:Int) * n > 2 ^ 48)) || decide ((n:Int) < 0) || decide ((n:Int) > n))=false:=by
  have:(i.bytes:Int) * n≤2 ^ 48:=by
   have:=Int.ofNat_le.2 hbig
   simpa using this
  simp; omega
 simp only [hc,Bool.false_eq_true,if_false]
 have room:∀ (q:Nat) (K:Unit→Mem→Prop),K () m→SemW P (askRoom q) m K:=by
  intro q K h
  unfold askRoom
  split
  ·exact h
  ·exact h
 refine SemW.bindI (room _ _ ?_)
 refine SemW.bindI (SemW.sizeI hi ?_)
 have hn:Int.toNat (n:Int) * i.size=n:=by rw [hs]; simp
 simp only [hn]
 have cells:(Array.range n).map (fun j=>#[z][j % 1]!)=Array.replicate n z:=by
  apply Array.ext
  ·simp
  ·intro j h1 h2
   simp [Nat.mod_one]
 have fin:∀ (m':Mem),m'=m.push (.cells (Array.replicate n z) e)→K (.slice (some ⟨m.size,0,none⟩) n n) m':=by
  intro m' hm; subst hm
  refine hk _ ⟨by simp,Nat.le_refl _,fun _=>rfl,?_,?_⟩ (fun S=>Fr.push _) (by simp)
  ·intro j v hj
   rw [Nat.zero_add]
   refine cell_new ?_
   have h1:=List.getElem?_replicate (n:=n) (a:=z) (i:=j)
   rw [h1] at hj
   rw [Array.getElem?_replicate]; exact hj
  ·intro j hj
   rw [Nat.zero_add]
   exact wr_new (by simpa using hj)
 by_cases h:n=0
 ·rw [if_pos h]
  refine SemW.bindI (SemW.pureI ?_)
  refine fin _ ?_
  subst h
  have:∀ (f:Nat→Value),(Array.range 0).map f=Array.replicate 0 z:=fun f=>by simp
  show m.push (.cells _ e)=_
  rw [this]
 ·rw [if_neg h]
  refine SemW.bindI (SemW.zeroI hi hz ?_)
  refine SemW.bindI (SemW.pureI ?_)
  refine fin _ ?_
  have:(Array.range n).map (fun x=>z.cells[x % z.cells.size]!)=Array.replicate n z:=by rw [hzc]; exact cells
  rw [this]
end
end Go.M

namespace Go.M
open Go
section
variable {P:Program} {m:Mem}
theorem Fr.back {S:Nat→Nat→Prop} {m m':Mem} (h:Fr S m m') {b o j:Nat} {w v:Value} (hw:cell? m ⟨b,o,none⟩=some w) (hv:cell? m' ⟨b,j,none⟩=some v):∃ v',cell? m ⟨b,j,none⟩=some v':=by
 unfold cell? at *
 cases hb:m[b]? with
 | none=>simp only [hb] at hw; cases hw
 | some x=>
  cases x with
  | cells c t fr=>
   obtain ⟨c',h1,h2,_⟩:=h.cells _ _ _ _ hb
   simp only [h1,Option.isSome_none,Bool.false_eq_true,if_false] at hv
   simp only [Option.isSome_none,Bool.false_eq_true,if_false]
   have:=(Array.getElem?_eq_some_iff.1 hv).1
   exact ⟨c[j],Array.getElem?_eq_getElem (by omega)⟩
  | _=>simp only [hb] at hw; cases hw
theorem append_Q {t t2 rt e:TypeId} {cs:Array Bool} {i:TypeInfo} {z:Value} {d2:TypeDesc} {a a2:Option Addr} {l k l2 k2:Nat} {K:Value→Mem→Prop}
  (ht:P.underlying t=some (.slice e)) (ht2:P.underlying t2=some d2) (hd2:∀ k,d2≠.int k) (hi:P.info? e=some i) (hz:i.zero=some z) (hzs:0 < i.size) (hzc:z.cells.size=i.size)
  (b o b2 o2:Nat) (xs ys:List Value) (hown:Own m a l k i.size xs b o) (hy:ys.length=l2 * i.size) (hc:∀ v ∈ ys,isCell v=true)
  (h2:ys≠[]→a2=some ⟨b2,o2,none⟩) (hr:Row m b2 o2 ys) (hbig:(2 * (l+l2)+768) * i.bytes≤2 ^ 48) (hb:i.bytes≠0)
  (hk:∀ m' a' k' b' o',Own m' a' (l+l2) k' i.size (xs++ys) b' o'→((b'=b∧o'=o∧k'=k)∨(b'=m.size∧o'=0))→Fr (fun x _=>x=b∧0 < k) m m'→(0 < l2→0 < k')→(∀ Q:Value→Prop,(∀ v ∈ xs,Q v)→(∀ v ∈ ys,Q v)→(∀ v,v ∈ z.cells→Q v)→(0 < k→∀ j v,cell? m ⟨b,j,none⟩=some v→Q v)→0 < k'→∀ j v,cell? m' ⟨b',j,none⟩=some v→Q v)→K (.slice a' (l+l2) k') m'):
  SemW P (builtin .append #[t,t2] rt cs #[.slice a l k,.slice a2 l2 k2]) m (NextW P K):=by
 refine SemW.bindI ?_
 refine SemW.bindI (SemW.und ht ?_)
 refine SemW.bindI (SemW.sizeI hi ?_)
 refine SemW.bindI (SemW.und ht2 ?_)
 refine SemW.bindI (SemW.pureI ?_)
 have main:SemW P (
   if l+l2≤k then do
    let new ← Builtin.firstCells i.size l2 (.slice a2 l2 k2)
    if let some a:=a then storeCells (a.add (l * i.size)) new.toList
    pure (.slice a (l+l2) k)
   else do
    if ((l+l2:Nat):Int) > IntKind.i64.max∧((false:Bool)=true∨(← typeInfo e).bytes=0) then runtimePanic (.error "growslice: len out of range")
    if Builtin.nextslicecap (l+l2) k * (← typeInfo e).bytes > 2 ^ 48 then (if (false:Bool)=true then runtimePanic (.error "growslice: len out of range") else do
     if !(← Builtin.mayShare i.size l l2 a (.slice a2 l2 k2)) then mark .noRoom
     unsupported (.resourceLimit "append: a slice or a string whose bytes no memory bears"))
    let newCap ← choose (.appendCap (l+l2) k e)
    askRoom (newCap * (← typeInfo e).bytes)
    let old ← Builtin.firstCells i.size l (.slice a l k)
    let new ← Builtin.firstCells i.size l2 (.slice a2 l2 k2)
    let rest:=Builtin.zeroCells (← zeroValue e).cells (newCap - (l+l2))
    pure (.slice (some (← newRow e (old++new++rest))) (l+l2) newCap)) m K:=by
  split
  ·rename_i hle
   refine SemW.bindI (firstCells_W (vs:=ys) (b:=b2) (o:=o2) hy h2 hr ?_)
   cases ys with
   | nil=>
    have hl2:l2=0:=by
     simp only [List.length_nil] at hy
     rcases Nat.eq_zero_or_pos l2 with h | h
     ·exact h
     ·have:=Nat.mul_pos h hzs; omega
    have hK:K (.slice a (l+l2) k) m:=by
     refine hk m a k b o ?_ (.inl ⟨rfl,rfl,rfl⟩) (Fr.refl _ _) (by omega) (fun Q _ _ _ h h0=>h h0)
     rw [hl2,List.append_nil,Nat.add_zero]; exact hown
    cases a with
    | none=>exact hK
    | some a=>exact hK
   | cons y ys=>
    have hl2:0 < l2:=by
     rcases Nat.eq_zero_or_pos l2 with h | h
     ·rw [h] at hy; simp at hy
     ·exact h
    have hkpos:0 < k:=by omega
    have hat:=hown.at_ hkpos
    subst hat
    refine SemW.bindI ?_
    have ha:(⟨b,o,none⟩:Addr).add (l * i.size)=⟨b,o+l * i.size,none⟩:=by rw [aplus_add]; rfl
    show SemW P (storeCells ((⟨b,o,none⟩:Addr).add (l * i.size)) (y::ys) 0) m _
    rw [ha]
    refine Row.storeCells (vs:=y::ys) (i:=0) hc (fun j hj=>?_) (fun m' h3 h4 h5=>?_)
    ·rw [hy] at hj
     have:(l+l2) * i.size≤k * i.size:=Nat.mul_le_mul_right _ hle
     rw [Nat.add_mul] at this
     have:=hown.wr (l * i.size+j) (by omega)
     rw [show o+l * i.size+0+j=o+(l * i.size+j) from by omega]; exact this
    ·refine SemW.pureI ?_
     refine hk m' _ k b o ⟨?_,hle,fun _=>rfl,?_,hown.wr.fr h4⟩ (.inl ⟨rfl,rfl,rfl⟩) (h4.mono fun x y' ⟨e,_,_⟩=>⟨e,hkpos⟩) (fun _=>hkpos) (fun Q _ hq _ hold _ j v hv=>?_)
     ·rw [List.length_append,hown.len,hy,Nat.add_mul]
     ·refine row_append ?_ ?_
      ·refine hown.row.fr h4 fun j hj=>?_
       rw [hown.len] at hj
       rintro ⟨_,h6,_⟩
       omega
      ·intro j u hj
       rw [hown.len]
       have:=h3 j u hj
       simpa using this
     ·by_cases hj:o+l * i.size+0≤j∧j < o+l * i.size+0+(y::ys).length
      ·have hlt:j - (o+l * i.size) < (y::ys).length:=by omega
       have:=h3 (j - (o+l * i.size)) _ (List.getElem?_eq_getElem hlt)
       rw [show o+l * i.size+0+(j - (o+l * i.size))=j from by omega,hv] at this
       simp only [Option.some.injEq] at this
       rw [this]
       exact hq _ (List.getElem_mem hlt)
      ·obtain ⟨v',hv'⟩:∃ v',cell? m ⟨b,j,none⟩=some v':=by
        obtain ⟨⟨vb,hvb⟩,_⟩:=hown.wr 0 (Nat.mul_pos hkpos hzs)
        exact h4.back hvb hv
       have:=h4.cell hv' (by rintro ⟨_,h6,h7⟩; exact hj ⟨h6,h7⟩)
       rw [hv] at this
       simp only [Option.some.injEq] at this
       rw [this]
       exact hold hkpos j v' hv'
  ·rename_i hnle
   have hnot: ¬ ((((l+l2:Nat):Int) > IntKind.i64.max)∧((false:Bool)=true∨i.bytes=0)):=by
    rintro ⟨_,h | h⟩
    ·cases h
    ·exact hb h
   refine SemW.bindI (SemW.info hi ?_)
   rw [if_neg hnot]
   refine SemW.bindI (SemW.info hi ?_)
   have hcap: ¬ (Builtin.nextslicecap (l+l2) k * i.bytes > 2 ^ 48):=by
    have:=nextslicecap_le (n:=l+l2) (k:=k) (by omega)
    have:=Nat.mul_le_mul_right i.bytes this
    omega
   rw [if_neg hcap]
   refine SemW.bindI ?_
   intro tp
   have hforced:(Question.appendCap (l+l2) k e).forced=false:=rfl
   simp only [hforced]
   have hge:l+l2≤Question.cut (.appendCap (l+l2) k e) tp:=by
    show l+l2≤l+l2+_
    omega
   generalize Question.cut (.appendCap (l+l2) k e) tp=newCap at hge
   refine SemW.pureI ?_
   simp only [Bool.false_eq_true,if_false]
   refine SemW.bindI (SemW.info hi ?_)
   refine SemW.bindI ?_
   have room:∀ (n:Nat) (K:Unit→Mem→Prop),K () m→SemW P (askRoom n) m K:=by
    intro n K h
    unfold askRoom
    split
    ·exact h
    ·exact h
   refine room _ _ ?_
   refine SemW.bindI (firstCells_W (vs:=xs) (b:=b) (o:=o) hown.len (fun hne=>hown.at_ ?_) hown.row ?_)
   ·have:0 < l:=by
     rcases Nat.eq_zero_or_pos l with h | h
     ·have:=hown.len
      rw [h,Nat.zero_mul] at this
      exact absurd (List.eq_nil_of_length_eq_zero this) hne
     ·exact h
    have:=hown.le; omega
   refine SemW.bindI (firstCells_W (vs:=ys) (b:=b2) (o:=o2) hy h2 hr ?_)
   refine SemW.bindI (SemW.zeroI hi hz ?_)
   refine SemW.bindI ?_
   show K _ _
   have hsz:(xs.toArray++ys.toArray++Builtin.zeroCells z.cells (newCap - (l+l2))).size=newCap * i.size:=by
    simp only [Array.size_append,List.size_toArray,hown.len,hy,Builtin.zeroCells,Array.size_map,Array.size_range,hzc]
    rw [← Nat.add_mul, ← Nat.add_mul]
    congr 1; omega
   refine hk _ _ newCap m.size 0 ⟨?_,hge,fun _=>rfl,?_,?_⟩ (.inr ⟨rfl,rfl⟩) (Fr.push _) (by omega) (fun Q hx hq hz' _ _ j v hv=>?_)
   ·rw [List.length_append,hown.len,hy,Nat.add_mul]
   ·intro j v hj
    rw [Nat.zero_add]
    refine cell_new ?_
    rw [Array.getElem?_append_left]
    ·simpa using hj
    ·have:=(List.getElem?_eq_some_iff.1 hj).1
     simpa using this
   ·intro j hj
    rw [Nat.zero_add]
    exact wr_new (by rw [hsz]; exact hj)
   ·simp only [cell?,Array.getElem?_push_size,Option.isSome_none,Bool.false_eq_true,if_false] at hv
    have hmem:=Array.mem_of_getElem? hv
    simp only [Array.mem_append,List.mem_toArray] at hmem
    rcases hmem with (h | h) | h
    ·exact hx v h
    ·exact hq v h
    ·simp only [Builtin.zeroCells,Array.mem_map] at h
     obtain ⟨q,_,rfl⟩:=h
     have hp:q % z.cells.size < z.cells.size:=Nat.mod_lt _ (by rw [hzc]; exact hzs)
     show Q (z.cells[q % z.cells.size]!)
     rw [getElem!_pos z.cells _ hp]
     exact hz' _ (Array.getElem_mem hp)
 cases d2 <;> first | exact absurd rfl (hd2 _) | (refine SemW.bindI (SemW.pureI ?_); exact main)
end
end Go.M
