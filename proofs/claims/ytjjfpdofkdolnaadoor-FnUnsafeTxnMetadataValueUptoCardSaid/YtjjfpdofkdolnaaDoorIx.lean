import Derived.Test.YtjjfpdofkdolnaaDoorBt
import Derived.Test.YtjjfpdofkdolnaaDoorProg
set_option linter.unusedVariables false
set_option linter.unusedSimpArgs false
namespace Go.Proofs.YtjjfpdofkdolnaaDoor
namespace K
open Go
theorem mixed : Tryd.prog.follows .mixedOrders = true := by kernel_rfl
theorem tiint64 : TI Tryd.prog 2 (.int .i64 0) 1 8 := by unfold TI; kernel_rfl
theorem tiint : TI Tryd.prog 3 (.int .i64 0) 1 8 := by unfold TI; kernel_rfl
theorem tibool : TI Tryd.prog 4 (.bool false) 1 1 := by unfold TI; kernel_rfl
theorem tiuint8 : TI Tryd.prog 5 (.int .u8 0) 1 1 := by unfold TI; kernel_rfl
theorem tistring : TI Tryd.prog 9 (.string .empty) 1 16 := by unfold TI; kernel_rfl
theorem tiint32 : TI Tryd.prog 21 (.int .i32 0) 1 4 := by unfold TI; kernel_rfl
theorem tiSl_uint8 : TI Tryd.prog 22 (.slice none 0 0) 1 24 := by unfold TI; kernel_rfl
theorem tiSl_impl_Tree : TI Tryd.prog 24 (.slice none 0 0) 1 24 := by unfold TI; kernel_rfl
theorem tiSl_impl_Tag : TI Tryd.prog 25 (.slice none 0 0) 1 24 := by unfold TI; kernel_rfl
theorem tiimpl_Tree : TI Tryd.prog 27 (.agg #[.int .i64 0, .slice none 0 0, .bool false, .slice none 0 0, .slice none 0 0]) 5 88 := by unfold TI; kernel_rfl
theorem tiSl_spec_Tree : TI Tryd.prog 32 (.slice none 0 0) 1 24 := by unfold TI; kernel_rfl
theorem tiSl_spec_Tag : TI Tryd.prog 33 (.slice none 0 0) 1 24 := by unfold TI; kernel_rfl
theorem tispec_Tree : TI Tryd.prog 35 (.agg #[.int .i64 0, .slice none 0 0, .bool false, .slice none 0 0, .slice none 0 0]) 5 88 := by unfold TI; kernel_rfl
theorem tiSl_spec_Field : TI Tryd.prog 40 (.slice none 0 0) 1 24 := by unfold TI; kernel_rfl
theorem tispec_Message : TI Tryd.prog 42 (.agg #[.slice none 0 0, .int .i64 0]) 2 32 := by unfold TI; kernel_rfl
theorem tiint16 : TI Tryd.prog 45 (.int .i16 0) 1 2 := by unfold TI; kernel_rfl
theorem tiuint32 : TI Tryd.prog 55 (.int .u32 0) 1 4 := by unfold TI; kernel_rfl
theorem tispec_Tag : TI Tryd.prog 57 (.agg #[.int .u32 0, .slice none 0 0]) 2 32 := by unfold TI; kernel_rfl
theorem tiimpl_Tag : TI Tryd.prog 58 (.agg #[.int .u32 0, .slice none 0 0]) 2 32 := by unfold TI; kernel_rfl
theorem tipub_kmsg_TransactionState : TI Tryd.prog 75 (.int .i8 0) 1 1 := by unfold TI; kernel_rfl
theorem tiSl_kmsg_TxnMetadataValueTopic : TI Tryd.prog 76 (.slice none 0 0) 1 24 := by unfold TI; kernel_rfl
theorem timap_uint32_Sl_uint8 : TI Tryd.prog 77 (.map none) 1 8 := by unfold TI; kernel_rfl
theorem tipub_kmsg_Tags : TI Tryd.prog 79 (.agg #[.map none]) 1 8 := by unfold TI; kernel_rfl
theorem tipub_kmsg_TxnMetadataValue : TI Tryd.prog 81 (.agg #[.int .i16 0, .int .i64 0, .int .i16 0, .int .i32 0, .int .i8 0, .slice none 0 0, .int .i64 0, .int .i64 0, .int .i64 0, .int .i64 0, .int .i16 0, .int .i16 0, .map none]) 13 104 := by unfold TI; kernel_rfl
theorem tispec_Field : TI Tryd.prog 87 (.agg #[.int .i64 0, .int .i64 0, .int .i64 0, .int .i64 0, .int .i64 0, .int .i64 0, .int .i64 0, .slice none 0 0]) 8 80 := by unfold TI; kernel_rfl
theorem tiSl_int32 : TI Tryd.prog 102 (.slice none 0 0) 1 24 := by unfold TI; kernel_rfl
theorem tipub_kmsg_TxnMetadataValueTopic : TI Tryd.prog 139 (.agg #[.string .empty, .slice none 0 0, .map none]) 3 48 := by unfold TI; kernel_rfl
theorem tipub_kmsg_inner_kbin_Reader : TI Tryd.prog 142 (.agg #[.slice none 0 0, .bool false]) 2 32 := by unfold TI; kernel_rfl
theorem tiSl_uint32 : TI Tryd.prog 150 (.slice none 0 0) 1 24 := by unfold TI; kernel_rfl
theorem en_14 : Enters Tryd.prog 14 := enters_of Tryd.func14 (by decide) rfl
theorem en_15 : Enters Tryd.prog 15 := enters_of Tryd.func15 (by decide) rfl
theorem en_31 : Enters Tryd.prog 31 := enters_of Tryd.func31 (by decide) rfl
theorem en_32 : Enters Tryd.prog 32 := enters_of Tryd.func32 (by decide) rfl
theorem en_33 : Enters Tryd.prog 33 := enters_of Tryd.func33 (by decide) rfl
theorem en_34 : Enters Tryd.prog 34 := enters_of Tryd.func34 (by decide) rfl
theorem en_41 : Enters Tryd.prog 41 := enters_of Tryd.func41 (by decide) rfl
theorem en_72 : Enters Tryd.prog 72 := enters_of Tryd.func72 (by decide) rfl
theorem en_73 : Enters Tryd.prog 73 := enters_of Tryd.func73 (by decide) rfl
theorem en_74 : Enters Tryd.prog 74 := enters_of Tryd.func74 (by decide) rfl
theorem en_75 : Enters Tryd.prog 75 := enters_of Tryd.func75 (by decide) rfl
theorem en_76 : Enters Tryd.prog 76 := enters_of Tryd.func76 (by decide) rfl
theorem en_77 : Enters Tryd.prog 77 := enters_of Tryd.func77 (by decide) rfl
theorem en_78 : Enters Tryd.prog 78 := enters_of Tryd.func78 (by decide) rfl
theorem en_82 : Enters Tryd.prog 82 := enters_of Tryd.func82 (by decide) rfl
theorem en_84 : Enters Tryd.prog 84 := enters_of Tryd.func84 (by decide) rfl
theorem en_105 : Enters Tryd.prog 105 := enters_of Tryd.func105 (by decide) rfl
theorem en_106 : Enters Tryd.prog 106 := enters_of Tryd.func106 (by decide) rfl
theorem en_107 : Enters Tryd.prog 107 := enters_of Tryd.func107 (by decide) rfl
theorem en_108 : Enters Tryd.prog 108 := enters_of Tryd.func108 (by decide) rfl
theorem en_109 : Enters Tryd.prog 109 := enters_of Tryd.func109 (by decide) rfl
theorem en_110 : Enters Tryd.prog 110 := enters_of Tryd.func110 (by decide) rfl
theorem en_111 : Enters Tryd.prog 111 := enters_of Tryd.func111 (by decide) rfl
theorem en_112 : Enters Tryd.prog 112 := enters_of Tryd.func112 (by decide) rfl
theorem en_113 : Enters Tryd.prog 113 := enters_of Tryd.func113 (by decide) rfl
theorem en_114 : Enters Tryd.prog 114 := enters_of Tryd.func114 (by decide) rfl
theorem en_115 : Enters Tryd.prog 115 := enters_of Tryd.func115 (by decide) rfl
theorem en_116 : Enters Tryd.prog 116 := enters_of Tryd.func116 (by decide) rfl
theorem en_117 : Enters Tryd.prog 117 := enters_of Tryd.func117 (by decide) rfl
theorem en_119 : Enters Tryd.prog 119 := enters_of Tryd.func119 (by decide) rfl
theorem en_120 : Enters Tryd.prog 120 := enters_of Tryd.func120 (by decide) rfl
theorem en_122 : Enters Tryd.prog 122 := enters_of Tryd.func122 (by decide) rfl
theorem en_125 : Enters Tryd.prog 125 := enters_of Tryd.func125 (by decide) rfl
theorem en_128 : Enters Tryd.prog 128 := enters_of Tryd.func128 (by decide) rfl
theorem en_141 : Enters Tryd.prog 141 := enters_of Tryd.func141 (by decide) rfl
theorem en_144 : Enters Tryd.prog 144 := enters_of Tryd.func144 (by decide) rfl
theorem en_145 : Enters Tryd.prog 145 := enters_of Tryd.func145 (by decide) rfl
theorem en_146 : Enters Tryd.prog 146 := enters_of Tryd.func146 (by decide) rfl
theorem en_147 : Enters Tryd.prog 147 := enters_of Tryd.func147 (by decide) rfl
theorem en_148 : Enters Tryd.prog 148 := enters_of Tryd.func148 (by decide) rfl
theorem en_149 : Enters Tryd.prog 149 := enters_of Tryd.func149 (by decide) rfl
theorem en_150 : Enters Tryd.prog 150 := enters_of Tryd.func150 (by decide) rfl
theorem en_151 : Enters Tryd.prog 151 := enters_of Tryd.func151 (by decide) rfl
theorem en_152 : Enters Tryd.prog 152 := enters_of Tryd.func152 (by decide) rfl
theorem en_153 : Enters Tryd.prog 153 := enters_of Tryd.func153 (by decide) rfl
theorem en_154 : Enters Tryd.prog 154 := enters_of Tryd.func154 (by decide) rfl
theorem en_155 : Enters Tryd.prog 155 := enters_of Tryd.func155 (by decide) rfl
theorem en_156 : Enters Tryd.prog 156 := enters_of Tryd.func156 (by decide) rfl
theorem en_157 : Enters Tryd.prog 157 := enters_of Tryd.func157 (by decide) rfl
theorem en_163 : Enters Tryd.prog 163 := enters_of Tryd.func163 (by decide) rfl
theorem en_164 : Enters Tryd.prog 164 := enters_of Tryd.func164 (by decide) rfl
theorem en_165 : Enters Tryd.prog 165 := enters_of Tryd.func165 (by decide) rfl
theorem en_170 : Enters Tryd.prog 170 := enters_of Tryd.func170 (by decide) rfl
theorem en_171 : Enters Tryd.prog 171 := enters_of Tryd.func171 (by decide) rfl
theorem en_172 : Enters Tryd.prog 172 := enters_of Tryd.func172 (by decide) rfl
theorem en_173 : Enters Tryd.prog 173 := enters_of Tryd.func173 (by decide) rfl
theorem en_174 : Enters Tryd.prog 174 := enters_of Tryd.func174 (by decide) rfl
theorem en_175 : Enters Tryd.prog 175 := enters_of Tryd.func175 (by decide) rfl
theorem en_195 : Enters Tryd.prog 195 := enters_of Tryd.func195 (by decide) rfl
end K
end Go.Proofs.YtjjfpdofkdolnaaDoor
