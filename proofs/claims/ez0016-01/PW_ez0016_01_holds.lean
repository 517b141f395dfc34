import PyProof.Rows.All
import Wide.All
import OpenK.AllK
import Wide.FinOn
import Open.Tops
import PySem.Challenge.RW_ez0016_01
set_option linter.all false
open PySem PySem.W PyProof.Rows
set_option Elab.async false
set_option maxRecDepth 100000
set_option maxHeartbeats 0
namespace Mine
open_shared top for PySem.Challenge.pw_ez0016_01 leaving 22
end Mine
set_option linter.unusedVariables false
namespace Mine
noncomputable abbrev pw : Program := PySem.Challenge.pw_ez0016_01
noncomputable def nth : List Stmt → Nat → Stmt
  | [], _ => .Pass default
  | s :: _, 0 => s
  | _ :: r, n + 1 => nth r n
noncomputable def fnS (st : Stmt) (dV kV pm c : Value) : FuncData := match st with
  | .FunctionDef n a b _ _ _ sc _ _ _ => { name := n, qualname := n, params := a, body := .stmts b, scope := sc, globals := 3, closure := [], defaults := dV, kwdefaults := kV, doc := .none, pyModule := pm, annotations := none, code := c, closureTuple := .none, builtins := 0 }
  | _ => default
noncomputable def bare (o : Obj) : Obj := match o.data with
  | .func fd => ⟨.none, none, .func { fd with globals := 0, closure := [], defaults := .none, kwdefaults := .none, pyModule := .none, annotations := none, code := .none, closureTuple := .none, builtins := 0 }, #[]⟩
  | _ => o
noncomputable def t3A : Params → Obj := fun P =>
  PySem.Obj.mk (PySem.Value.type "dict") Option.none
    (PySem.Data.dict
      #[PySem.DictEntry.mk (PySem.PyData.keyHash P (PySem.Str.ofString "__name__")) (PySem.Value.str (PySem.Str.ofString "__name__") 165) (PySem.Value.str (PySem.Str.ofString "btclib.script.sig_ops") 1193),
        PySem.DictEntry.mk (PySem.PyData.keyHash P (PySem.Str.ofString "__doc__")) (PySem.Value.str (PySem.Str.ofString "__doc__") 166) PySem.Value.none,
        PySem.DictEntry.mk (PySem.PyData.keyHash P (PySem.Str.ofString "__package__")) (PySem.Value.str (PySem.Str.ofString "__package__") 167) PySem.Value.none,
        PySem.DictEntry.mk (PySem.PyData.keyHash P (PySem.Str.ofString "__loader__")) (PySem.Value.str (PySem.Str.ofString "__loader__") 168) (PySem.Value.builtin "__main__.__loader__#opaque"),
        PySem.DictEntry.mk (PySem.PyData.keyHash P (PySem.Str.ofString "__spec__")) (PySem.Value.str (PySem.Str.ofString "__spec__") 169) PySem.Value.none,
        PySem.DictEntry.mk (PySem.PyData.keyHash P (PySem.Str.ofString "__annotations__")) (PySem.Value.str (PySem.Str.ofString "__annotations__") 170) (PySem.Value.ref 6),
        PySem.DictEntry.mk (PySem.PyData.keyHash P (PySem.Str.ofString "__builtins__")) (PySem.Value.str (PySem.Str.ofString "__builtins__") 171) (PySem.Value.ref 4),
        PySem.DictEntry.mk (PySem.PyData.keyHash P (PySem.Str.ofString "__file__")) (PySem.Value.str (PySem.Str.ofString "__file__") 173) (PySem.Value.str (PySem.Str.ofString "/claim/cut.py") 172),
        PySem.DictEntry.mk (PySem.PyData.keyHash P (PySem.Str.ofString "__cached__")) (PySem.Value.str (PySem.Str.ofString "__cached__") 174) PySem.Value.none,
        PySem.DictEntry.mk (PySem.PyData.keyHash P (PySem.Str.ofString "_wall")) (PySem.Value.str (PySem.Str.ofString "_wall") 193) (PySem.Value.ref 21),
        PySem.DictEntry.mk (PySem.PyData.keyHash P (PySem.Str.ofString "MAX_PUBKEYS_PER_MULTISIG")) (PySem.Value.str (PySem.Str.ofString "MAX_PUBKEYS_PER_MULTISIG") 195) (PySem.Value.int 20 194),
        PySem.DictEntry.mk (PySem.PyData.keyHash P (PySem.Str.ofString "read_op_code")) (PySem.Value.str (PySem.Str.ofString "read_op_code") 209) (PySem.Value.ref 28),
        PySem.DictEntry.mk (PySem.PyData.keyHash P (PySem.Str.ofString "op_code_spans")) (PySem.Value.str (PySem.Str.ofString "op_code_spans") 220) (PySem.Value.ref 35),
        PySem.DictEntry.mk (PySem.PyData.keyHash P (PySem.Str.ofString "BTClibException")) (PySem.Value.str (PySem.Str.ofString "BTClibException") 242) (PySem.Value.ref 45),
        PySem.DictEntry.mk (PySem.PyData.keyHash P (PySem.Str.ofString "BTClibValueError")) (PySem.Value.str (PySem.Str.ofString "BTClibValueError") 258) (PySem.Value.ref 58),
        PySem.DictEntry.mk (PySem.PyData.keyHash P (PySem.Str.ofString "BTClibTypeError")) (PySem.Value.str (PySem.Str.ofString "BTClibTypeError") 276) (PySem.Value.ref 70),
        PySem.DictEntry.mk (PySem.PyData.keyHash P (PySem.Str.ofString "bytes_from_octets")) (PySem.Value.str (PySem.Str.ofString "bytes_from_octets") 290) (PySem.Value.ref 80),
        PySem.DictEntry.mk (PySem.PyData.keyHash P (PySem.Str.ofString "_whence")) (PySem.Value.str (PySem.Str.ofString "_whence") 300) (PySem.Value.ref 87),
        PySem.DictEntry.mk (PySem.PyData.keyHash P (PySem.Str.ofString "_index")) (PySem.Value.str (PySem.Str.ofString "_index") 308) (PySem.Value.ref 94),
        PySem.DictEntry.mk (PySem.PyData.keyHash P (PySem.Str.ofString "UnsupportedOperation")) (PySem.Value.str (PySem.Str.ofString "UnsupportedOperation") 330) (PySem.Value.ref 104),
        PySem.DictEntry.mk (PySem.PyData.keyHash P (PySem.Str.ofString "IOBase")) (PySem.Value.str (PySem.Str.ofString "IOBase") 362) (PySem.Value.ref 124),
        PySem.DictEntry.mk (PySem.PyData.keyHash P (PySem.Str.ofString "BufferedIOBase")) (PySem.Value.str (PySem.Str.ofString "BufferedIOBase") 380) (PySem.Value.ref 139),
        PySem.DictEntry.mk (PySem.PyData.keyHash P (PySem.Str.ofString "TextIOBase")) (PySem.Value.str (PySem.Str.ofString "TextIOBase") 398) (PySem.Value.ref 151),
        PySem.DictEntry.mk (PySem.PyData.keyHash P (PySem.Str.ofString "BytesIO")) (PySem.Value.str (PySem.Str.ofString "BytesIO") 660) (PySem.Value.ref 381),
        PySem.DictEntry.mk (PySem.PyData.keyHash P (PySem.Str.ofString "StringIO")) (PySem.Value.str (PySem.Str.ofString "StringIO") 947) (PySem.Value.ref 628),
        PySem.DictEntry.mk (PySem.PyData.keyHash P (PySem.Str.ofString "bytesio_from_binarydata")) (PySem.Value.str (PySem.Str.ofString "bytesio_from_binarydata") 956) (PySem.Value.ref 637),
        PySem.DictEntry.mk (PySem.PyData.keyHash P (PySem.Str.ofString "assert_no_trailing")) (PySem.Value.str (PySem.Str.ofString "assert_no_trailing") 966) (PySem.Value.ref 644),
        PySem.DictEntry.mk (PySem.PyData.keyHash P (PySem.Str.ofString "_message_text")) (PySem.Value.str (PySem.Str.ofString "_message_text") 973) (PySem.Value.ref 651),
        PySem.DictEntry.mk (PySem.PyData.keyHash P (PySem.Str.ofString "is_integer")) (PySem.Value.str (PySem.Str.ofString "is_integer") 980) (PySem.Value.ref 658),
        PySem.DictEntry.mk (PySem.PyData.keyHash P (PySem.Str.ofString "is_octets")) (PySem.Value.str (PySem.Str.ofString "is_octets") 987) (PySem.Value.ref 665),
        PySem.DictEntry.mk (PySem.PyData.keyHash P (PySem.Str.ofString "assert_type")) (PySem.Value.str (PySem.Str.ofString "assert_type") 996) (PySem.Value.ref 672),
        PySem.DictEntry.mk (PySem.PyData.keyHash P (PySem.Str.ofString "int_from_integer")) (PySem.Value.str (PySem.Str.ofString "int_from_integer") 1006) (PySem.Value.ref 679),
        PySem.DictEntry.mk (PySem.PyData.keyHash P (PySem.Str.ofString "hex_string")) (PySem.Value.str (PySem.Str.ofString "hex_string") 1012) (PySem.Value.ref 684),
        PySem.DictEntry.mk (PySem.PyData.keyHash P (PySem.Str.ofString "_is_funct")) (PySem.Value.str (PySem.Str.ofString "_is_funct") 1022) (PySem.Value.ref 691),
        PySem.DictEntry.mk (PySem.PyData.keyHash P (PySem.Str.ofString "assert_p2sh")) (PySem.Value.str (PySem.Str.ofString "assert_p2sh") 1030) (PySem.Value.ref 698),
        PySem.DictEntry.mk (PySem.PyData.keyHash P (PySem.Str.ofString "is_p2sh")) (PySem.Value.str (PySem.Str.ofString "is_p2sh") 1037) (PySem.Value.ref 705),
        PySem.DictEntry.mk (PySem.PyData.keyHash P (PySem.Str.ofString "assert_segwit")) (PySem.Value.str (PySem.Str.ofString "assert_segwit") 1044) (PySem.Value.ref 712),
        PySem.DictEntry.mk (PySem.PyData.keyHash P (PySem.Str.ofString "is_segwit")) (PySem.Value.str (PySem.Str.ofString "is_segwit") 1051) (PySem.Value.ref 719),
        PySem.DictEntry.mk (PySem.PyData.keyHash P (PySem.Str.ofString "MAX_SIZE")) (PySem.Value.str (PySem.Str.ofString "MAX_SIZE") 1055) (PySem.Value.int 33554432 1054),
        PySem.DictEntry.mk (PySem.PyData.keyHash P (PySem.Str.ofString "_parse_number")) (PySem.Value.str (PySem.Str.ofString "_parse_number") 1067) (PySem.Value.ref 726),
        PySem.DictEntry.mk (PySem.PyData.keyHash P (PySem.Str.ofString "parse")) (PySem.Value.str (PySem.Str.ofString "parse") 1078) (PySem.Value.ref 749),
        PySem.DictEntry.mk (PySem.PyData.keyHash P (PySem.Str.ofString "parse_var_int")) (PySem.Value.str (PySem.Str.ofString "parse_var_int") 1079) (PySem.Value.ref 734),
        PySem.DictEntry.mk (PySem.PyData.keyHash P (PySem.Str.ofString "serialize")) (PySem.Value.str (PySem.Str.ofString "serialize") 1086) (PySem.Value.ref 756),
        PySem.DictEntry.mk (PySem.PyData.keyHash P (PySem.Str.ofString "serialize_var_int")) (PySem.Value.str (PySem.Str.ofString "serialize_var_int") 1087) (PySem.Value.ref 741),
        PySem.DictEntry.mk (PySem.PyData.keyHash P (PySem.Str.ofString "parse_var_bytes")) (PySem.Value.str (PySem.Str.ofString "parse_var_bytes") 1100) (PySem.Value.ref 749),
        PySem.DictEntry.mk (PySem.PyData.keyHash P (PySem.Str.ofString "serialize_var_bytes")) (PySem.Value.str (PySem.Str.ofString "serialize_var_bytes") 1109) (PySem.Value.ref 756),
        PySem.DictEntry.mk (PySem.PyData.keyHash P (PySem.Str.ofString "MAX_WITNESS_STACK_ITEMS")) (PySem.Value.str (PySem.Str.ofString "MAX_WITNESS_STACK_ITEMS") 1111) (PySem.Value.int 4000000 1110),
        PySem.DictEntry.mk (PySem.PyData.keyHash P (PySem.Str.ofString "Witness")) (PySem.Value.str (PySem.Str.ofString "Witness") 1192) (PySem.Value.ref 811),
        PySem.DictEntry.mk (PySem.PyData.keyHash P (PySem.Str.ofString "_CHECKSIG")) (PySem.Value.str (PySem.Str.ofString "_CHECKSIG") 1199) (PySem.Value.ref 816),
        PySem.DictEntry.mk (PySem.PyData.keyHash P (PySem.Str.ofString "_CHECKMULTISIG")) (PySem.Value.str (PySem.Str.ofString "_CHECKMULTISIG") 1204) (PySem.Value.ref 817)]
      50)
    #[]
noncomputable def t816 : Params → Obj := fun P =>
  PySem.Obj.mk (PySem.Value.type "set") Option.none (PySem.Data.set #[(172, PySem.Value.int 172 1195), (173, PySem.Value.int 173 1196)] 2 (PySem.SetTable.mk 7 #[4, 5] #[] 0 (!P.followText "set-order") 0 Bool.true)) #[]
noncomputable def t817 : Params → Obj := fun P =>
  PySem.Obj.mk (PySem.Value.type "set") Option.none (PySem.Data.set #[(174, PySem.Value.int 174 1200), (175, PySem.Value.int 175 1201)] 2 (PySem.SetTable.mk 7 #[6, 7] #[] 0 (!P.followText "set-order") 0 Bool.true)) #[]
noncomputable def treeA : Params → BT := fun P =>
  (.node (PySem.W.boot_o_0 P) (.node (PySem.W.boot_o_1 P) (.node (t3A P) (.node (PySem.W.boot_o_7 P) (.node (Mine.top.o_8 P) (.node (Mine.top.o_24 P) (.node (Mine.top.o_65 P) (.node (Mine.top.o_136 P) (.node (Mine.top.o_276 P) (.node (Mine.top.o_705 P) .nil .nil) (.node (Mine.top.o_1189 P) .nil .nil)) (.node (Mine.top.o_404 P) (.node (Mine.top.o_1055 P) .nil .nil) .nil)) (.node (Mine.top.o_212 P) (.node (Mine.top.o_340 P) (.node (Mine.top.o_769 P) .nil .nil) .nil) (.node (Mine.top.o_641 P) (.node (Mine.top.o_1119 P) .nil .nil) .nil))) (.node (Mine.top.o_101 P) (.node (Mine.top.o_180 P) (.node (Mine.top.o_308 P) (.node (Mine.top.o_737 P) .nil .nil) (.node (Mine.top.o_1221 P) .nil .nil)) (.node (Mine.top.o_609 P) (.node (Mine.top.o_1087 P) .nil .nil) .nil)) (.node (Mine.top.o_244 P) (.node (Mine.top.o_372 P) (.node (Mine.top.o_801 P) .nil .nil) .nil) (.node (Mine.top.o_673 P) (.node (Mine.top.o_1154 P) .nil .nil) .nil)))) (.node (Mine.top.o_40 P) (.node (Mine.top.o_81 P) (.node (Mine.top.o_160 P) (.node (Mine.top.o_292 P) (.node (Mine.top.o_721 P) .nil .nil) (.node (Mine.top.o_1205 P) .nil .nil)) (.node (Mine.top.o_593 P) (.node (Mine.top.o_1071 P) .nil .nil) .nil)) (.node (Mine.top.o_228 P) (.node (Mine.top.o_356 P) (.node (Mine.top.o_785 P) .nil .nil) .nil) (.node (Mine.top.o_657 P) (.node (Mine.top.o_1138 P) .nil .nil) .nil))) (.node (Mine.top.o_120 P) (.node (Mine.top.o_196 P) (.node (Mine.top.o_324 P) (.node (Mine.top.o_753 P) .nil .nil) (.node (Mine.top.o_1237 P) .nil .nil)) (.node (Mine.top.o_625 P) (.node (Mine.top.o_1103 P) .nil .nil) .nil)) (.node (Mine.top.o_260 P) (.node (Mine.top.o_388 P) (.node (Mine.top.o_817 P) .nil .nil) .nil) (.node (Mine.top.o_689 P) (.node (Mine.top.o_1170 P) .nil .nil) .nil))))) (.node (Mine.top.o_16 P) (.node (Mine.top.o_32 P) (.node (Mine.top.o_73 P) (.node (Mine.top.o_148 P) (.node (Mine.top.o_284 P) (.node (Mine.top.o_713 P) .nil .nil) (.node (Mine.top.o_1197 P) .nil .nil)) (.node (Mine.top.o_585 P) (.node (Mine.top.o_1063 P) .nil .nil) .nil)) (.node (Mine.top.o_220 P) (.node (Mine.top.o_348 P) (.node (Mine.top.o_777 P) .nil .nil) .nil) (.node (Mine.top.o_649 P) (.node (Mine.top.o_1127 P) .nil .nil) .nil))) (.node (Mine.top.o_109 P) (.node (Mine.top.o_188 P) (.node (Mine.top.o_316 P) (.node (Mine.top.o_745 P) .nil .nil) (.node (Mine.top.o_1229 P) .nil .nil)) (.node (Mine.top.o_617 P) (.node (Mine.top.o_1095 P) .nil .nil) .nil)) (.node (Mine.top.o_252 P) (.node (Mine.top.o_380 P) (.node (Mine.top.o_809 P) .nil .nil) .nil) (.node (Mine.top.o_681 P) (.node (Mine.top.o_1162 P) .nil .nil) .nil)))) (.node (Mine.top.o_52 P) (.node (Mine.top.o_89 P) (.node (Mine.top.o_577 P) (.node (Mine.top.o_300 P) (.node (Mine.top.o_729 P) .nil .nil) (.node (Mine.top.o_1213 P) .nil .nil)) (.node (Mine.top.o_601 P) (.node (Mine.top.o_1079 P) .nil .nil) .nil)) (.node (Mine.top.o_236 P) (.node (Mine.top.o_364 P) (.node (Mine.top.o_793 P) .nil .nil) .nil) (.node (Mine.top.o_665 P) (.node (Mine.top.o_1146 P) .nil .nil) .nil))) (.node (Mine.top.o_128 P) (.node (Mine.top.o_204 P) (.node (Mine.top.o_332 P) (.node (Mine.top.o_761 P) .nil .nil) .nil) (.node (Mine.top.o_633 P) (.node (Mine.top.o_1111 P) .nil .nil) .nil)) (.node (Mine.top.o_268 P) (.node (Mine.top.o_396 P) (.node (Mine.top.o_1047 P) .nil .nil) .nil) (.node (Mine.top.o_697 P) (.node (Mine.top.o_1181 P) .nil .nil) .nil)))))) (.node (Mine.top.o_1 P) (.node (Mine.top.o_12 P) (.node (Mine.top.o_28 P) (.node (Mine.top.o_69 P) (.node (Mine.top.o_144 P) (.node (Mine.top.o_280 P) (.node (Mine.top.o_709 P) .nil .nil) (.node (Mine.top.o_1193 P) .nil .nil)) (.node (Mine.top.o_581 P) (.node (Mine.top.o_1059 P) .nil .nil) .nil)) (.node (Mine.top.o_216 P) (.node (Mine.top.o_344 P) (.node (Mine.top.o_773 P) .nil .nil) .nil) (.node (Mine.top.o_645 P) (.node (Mine.top.o_1123 P) .nil .nil) .nil))) (.node (Mine.top.o_105 P) (.node (Mine.top.o_184 P) (.node (Mine.top.o_312 P) (.node (Mine.top.o_741 P) .nil .nil) (.node (Mine.top.o_1225 P) .nil .nil)) (.node (Mine.top.o_613 P) (.node (Mine.top.o_1091 P) .nil .nil) .nil)) (.node (Mine.top.o_248 P) (.node (Mine.top.o_376 P) (.node (Mine.top.o_805 P) .nil .nil) .nil) (.node (Mine.top.o_677 P) (.node (Mine.top.o_1158 P) .nil .nil) .nil)))) (.node (Mine.top.o_48 P) (.node (Mine.top.o_85 P) (.node (Mine.top.o_164 P) (.node (Mine.top.o_296 P) (.node (Mine.top.o_725 P) .nil .nil) (.node (Mine.top.o_1209 P) .nil .nil)) (.node (Mine.top.o_597 P) (.node (Mine.top.o_1075 P) .nil .nil) .nil)) (.node (Mine.top.o_232 P) (.node (Mine.top.o_360 P) (.node (Mine.top.o_789 P) .nil .nil) .nil) (.node (Mine.top.o_661 P) (.node (Mine.top.o_1142 P) .nil .nil) .nil))) (.node (Mine.top.o_124 P) (.node (Mine.top.o_200 P) (.node (Mine.top.o_328 P) (.node (Mine.top.o_757 P) .nil .nil) .nil) (.node (Mine.top.o_629 P) (.node (Mine.top.o_1107 P) .nil .nil) .nil)) (.node (Mine.top.o_264 P) (.node (Mine.top.o_392 P) (.node (Mine.top.o_821 P) .nil .nil) .nil) (.node (Mine.top.o_693 P) (.node (Mine.top.o_1174 P) .nil .nil) .nil))))) (.node (Mine.top.o_20 P) (.node (Mine.top.o_36 P) (.node (Mine.top.o_77 P) (.node (Mine.top.o_174 P) (.node (Mine.top.o_288 P) (.node (Mine.top.o_717 P) .nil .nil) (.node (Mine.top.o_1201 P) .nil .nil)) (.node (Mine.top.o_589 P) (.node (Mine.top.o_1067 P) .nil .nil) .nil)) (.node (Mine.top.o_224 P) (.node (Mine.top.o_352 P) (.node (Mine.top.o_781 P) .nil .nil) .nil) (.node (Mine.top.o_653 P) (.node (Mine.top.o_1134 P) .nil .nil) .nil))) (.node (Mine.top.o_113 P) (.node (Mine.top.o_192 P) (.node (Mine.top.o_320 P) (.node (Mine.top.o_749 P) .nil .nil) (.node (Mine.top.o_1233 P) .nil .nil)) (.node (Mine.top.o_621 P) (.node (Mine.top.o_1099 P) .nil .nil) .nil)) (.node (Mine.top.o_256 P) (.node (Mine.top.o_384 P) (.node (Mine.top.o_813 P) .nil .nil) .nil) (.node (Mine.top.o_685 P) (.node (Mine.top.o_1166 P) .nil .nil) .nil)))) (.node (Mine.top.o_56 P) (.node (Mine.top.o_93 P) (.node (Mine.top.o_176 P) (.node (Mine.top.o_304 P) (.node (Mine.top.o_733 P) .nil .nil) (.node (Mine.top.o_1217 P) .nil .nil)) (.node (Mine.top.o_605 P) (.node (Mine.top.o_1083 P) .nil .nil) .nil)) (.node (Mine.top.o_240 P) (.node (Mine.top.o_368 P) (.node (Mine.top.o_797 P) .nil .nil) .nil) (.node (Mine.top.o_669 P) (.node (Mine.top.o_1150 P) .nil .nil) .nil))) (.node (Mine.top.o_132 P) (.node (Mine.top.o_208 P) (.node (Mine.top.o_336 P) (.node (Mine.top.o_765 P) .nil .nil) .nil) (.node (Mine.top.o_637 P) (.node (Mine.top.o_1115 P) .nil .nil) .nil)) (.node (Mine.top.o_272 P) (.node (Mine.top.o_400 P) (.node (Mine.top.o_1051 P) .nil .nil) .nil) (.node (Mine.top.o_701 P) (.node (Mine.top.o_1185 P) .nil .nil) .nil))))))) (.node (PySem.W.boot_o_5 P) (.node (PySem.W.boot_o_9 P) (.node (Mine.top.o_10 P) (.node (Mine.top.o_26 P) (.node (Mine.top.o_67 P) (.node (Mine.top.o_138 P) (.node (Mine.top.o_278 P) (.node (Mine.top.o_707 P) .nil .nil) (.node (Mine.top.o_1191 P) .nil .nil)) (.node (Mine.top.o_579 P) (.node (Mine.top.o_1057 P) .nil .nil) .nil)) (.node (Mine.top.o_214 P) (.node (Mine.top.o_342 P) (.node (Mine.top.o_771 P) .nil .nil) .nil) (.node (Mine.top.o_643 P) (.node (Mine.top.o_1121 P) .nil .nil) .nil))) (.node (Mine.top.o_103 P) (.node (Mine.top.o_182 P) (.node (Mine.top.o_310 P) (.node (Mine.top.o_739 P) .nil .nil) (.node (Mine.top.o_1223 P) .nil .nil)) (.node (Mine.top.o_611 P) (.node (Mine.top.o_1089 P) .nil .nil) .nil)) (.node (Mine.top.o_246 P) (.node (Mine.top.o_374 P) (.node (Mine.top.o_803 P) .nil .nil) .nil) (.node (Mine.top.o_675 P) (.node (Mine.top.o_1156 P) .nil .nil) .nil)))) (.node (Mine.top.o_46 P) (.node (Mine.top.o_83 P) (.node (Mine.top.o_162 P) (.node (Mine.top.o_294 P) (.node (Mine.top.o_723 P) .nil .nil) (.node (Mine.top.o_1207 P) .nil .nil)) (.node (Mine.top.o_595 P) (.node (Mine.top.o_1073 P) .nil .nil) .nil)) (.node (Mine.top.o_230 P) (.node (Mine.top.o_358 P) (.node (Mine.top.o_787 P) .nil .nil) .nil) (.node (Mine.top.o_659 P) (.node (Mine.top.o_1140 P) .nil .nil) .nil))) (.node (Mine.top.o_122 P) (.node (Mine.top.o_198 P) (.node (Mine.top.o_326 P) (.node (Mine.top.o_755 P) .nil .nil) (.node (t817 P) .nil .nil)) (.node (Mine.top.o_627 P) (.node (Mine.top.o_1105 P) .nil .nil) .nil)) (.node (Mine.top.o_262 P) (.node (Mine.top.o_390 P) (.node (Mine.top.o_819 P) .nil .nil) .nil) (.node (Mine.top.o_691 P) (.node (Mine.top.o_1172 P) .nil .nil) .nil))))) (.node (Mine.top.o_18 P) (.node (Mine.top.o_34 P) (.node (Mine.top.o_75 P) (.node (Mine.top.o_150 P) (.node (Mine.top.o_286 P) (.node (Mine.top.o_715 P) .nil .nil) (.node (Mine.top.o_1199 P) .nil .nil)) (.node (Mine.top.o_587 P) (.node (Mine.top.o_1065 P) .nil .nil) .nil)) (.node (Mine.top.o_222 P) (.node (Mine.top.o_350 P) (.node (Mine.top.o_779 P) .nil .nil) .nil) (.node (Mine.top.o_651 P) (.node (Mine.top.o_1132 P) .nil .nil) .nil))) (.node (Mine.top.o_111 P) (.node (Mine.top.o_190 P) (.node (Mine.top.o_318 P) (.node (Mine.top.o_747 P) .nil .nil) (.node (Mine.top.o_1231 P) .nil .nil)) (.node (Mine.top.o_619 P) (.node (Mine.top.o_1097 P) .nil .nil) .nil)) (.node (Mine.top.o_254 P) (.node (Mine.top.o_382 P) (.node (Mine.top.o_811 P) .nil .nil) .nil) (.node (Mine.top.o_683 P) (.node (Mine.top.o_1164 P) .nil .nil) .nil)))) (.node (Mine.top.o_54 P) (.node (Mine.top.o_91 P) (.node (Mine.top.o_170 P) (.node (Mine.top.o_302 P) (.node (Mine.top.o_731 P) .nil .nil) (.node (Mine.top.o_1215 P) .nil .nil)) (.node (Mine.top.o_603 P) (.node (Mine.top.o_1081 P) .nil .nil) .nil)) (.node (Mine.top.o_238 P) (.node (Mine.top.o_366 P) (.node (Mine.top.o_795 P) .nil .nil) .nil) (.node (Mine.top.o_667 P) (.node (Mine.top.o_1148 P) .nil .nil) .nil))) (.node (Mine.top.o_130 P) (.node (Mine.top.o_206 P) (.node (Mine.top.o_334 P) (.node (Mine.top.o_763 P) .nil .nil) .nil) (.node (Mine.top.o_635 P) (.node (Mine.top.o_1113 P) .nil .nil) .nil)) (.node (Mine.top.o_270 P) (.node (Mine.top.o_398 P) (.node (Mine.top.o_1049 P) .nil .nil) .nil) (.node (Mine.top.o_699 P) (.node (Mine.top.o_1183 P) .nil .nil) .nil)))))) (.node (Mine.top.o_3 P) (.node (Mine.top.o_14 P) (.node (Mine.top.o_30 P) (.node (Mine.top.o_71 P) (.node (Mine.top.o_146 P) (.node (Mine.top.o_282 P) (.node (Mine.top.o_711 P) .nil .nil) (.node (Mine.top.o_1195 P) .nil .nil)) (.node (Mine.top.o_583 P) (.node (Mine.top.o_1061 P) .nil .nil) .nil)) (.node (Mine.top.o_218 P) (.node (Mine.top.o_346 P) (.node (Mine.top.o_775 P) .nil .nil) .nil) (.node (Mine.top.o_647 P) (.node (Mine.top.o_1125 P) .nil .nil) .nil))) (.node (Mine.top.o_107 P) (.node (Mine.top.o_186 P) (.node (Mine.top.o_314 P) (.node (Mine.top.o_743 P) .nil .nil) (.node (Mine.top.o_1227 P) .nil .nil)) (.node (Mine.top.o_615 P) (.node (Mine.top.o_1093 P) .nil .nil) .nil)) (.node (Mine.top.o_250 P) (.node (Mine.top.o_378 P) (.node (Mine.top.o_807 P) .nil .nil) .nil) (.node (Mine.top.o_679 P) (.node (Mine.top.o_1160 P) .nil .nil) .nil)))) (.node (Mine.top.o_50 P) (.node (Mine.top.o_87 P) (.node (Mine.top.o_166 P) (.node (Mine.top.o_298 P) (.node (Mine.top.o_727 P) .nil .nil) (.node (Mine.top.o_1211 P) .nil .nil)) (.node (Mine.top.o_599 P) (.node (Mine.top.o_1077 P) .nil .nil) .nil)) (.node (Mine.top.o_234 P) (.node (Mine.top.o_362 P) (.node (Mine.top.o_791 P) .nil .nil) .nil) (.node (Mine.top.o_663 P) (.node (Mine.top.o_1144 P) .nil .nil) .nil))) (.node (Mine.top.o_126 P) (.node (Mine.top.o_202 P) (.node (Mine.top.o_330 P) (.node (Mine.top.o_759 P) .nil .nil) .nil) (.node (Mine.top.o_631 P) (.node (Mine.top.o_1109 P) .nil .nil) .nil)) (.node (Mine.top.o_266 P) (.node (Mine.top.o_394 P) (.node (Mine.top.o_823 P) .nil .nil) .nil) (.node (Mine.top.o_695 P) (.node (Mine.top.o_1179 P) .nil .nil) .nil))))) (.node (Mine.top.o_22 P) (.node (Mine.top.o_62 P) (.node (Mine.top.o_79 P) (.node (Mine.top.o_154 P) (.node (Mine.top.o_290 P) (.node (Mine.top.o_719 P) .nil .nil) (.node (Mine.top.o_1203 P) .nil .nil)) (.node (Mine.top.o_591 P) (.node (Mine.top.o_1069 P) .nil .nil) .nil)) (.node (Mine.top.o_226 P) (.node (Mine.top.o_354 P) (.node (Mine.top.o_783 P) .nil .nil) .nil) (.node (Mine.top.o_655 P) (.node (Mine.top.o_1136 P) .nil .nil) .nil))) (.node (Mine.top.o_118 P) (.node (Mine.top.o_194 P) (.node (Mine.top.o_322 P) (.node (Mine.top.o_751 P) .nil .nil) (.node (Mine.top.o_1235 P) .nil .nil)) (.node (Mine.top.o_623 P) (.node (Mine.top.o_1101 P) .nil .nil) .nil)) (.node (Mine.top.o_258 P) (.node (Mine.top.o_386 P) (.node (Mine.top.o_815 P) .nil .nil) .nil) (.node (Mine.top.o_687 P) (.node (Mine.top.o_1168 P) .nil .nil) .nil)))) (.node (Mine.top.o_63 P) (.node (Mine.top.o_95 P) (.node (Mine.top.o_178 P) (.node (Mine.top.o_306 P) (.node (Mine.top.o_735 P) .nil .nil) (.node (Mine.top.o_1219 P) .nil .nil)) (.node (Mine.top.o_607 P) (.node (Mine.top.o_1085 P) .nil .nil) .nil)) (.node (Mine.top.o_242 P) (.node (Mine.top.o_370 P) (.node (Mine.top.o_799 P) .nil .nil) .nil) (.node (Mine.top.o_671 P) (.node (Mine.top.o_1152 P) .nil .nil) .nil))) (.node (Mine.top.o_134 P) (.node (Mine.top.o_210 P) (.node (Mine.top.o_338 P) (.node (Mine.top.o_767 P) .nil .nil) .nil) (.node (Mine.top.o_639 P) (.node (Mine.top.o_1117 P) .nil .nil) .nil)) (.node (Mine.top.o_274 P) (.node (Mine.top.o_402 P) (.node (Mine.top.o_1053 P) .nil .nil) .nil) (.node (Mine.top.o_703 P) (.node (Mine.top.o_1187 P) .nil .nil) .nil)))))))) (.node (Mine.top.o_98 P) (.node (PySem.W.boot_o_4 P) (.node (PySem.W.boot_o_8 P) (.node (Mine.top.o_9 P) (.node (Mine.top.o_25 P) (.node (Mine.top.o_66 P) (.node (Mine.top.o_137 P) (.node (Mine.top.o_277 P) (.node (Mine.top.o_706 P) .nil .nil) (.node (Mine.top.o_1190 P) .nil .nil)) (.node (Mine.top.o_578 P) (.node (Mine.top.o_1056 P) .nil .nil) .nil)) (.node (Mine.top.o_213 P) (.node (Mine.top.o_341 P) (.node (Mine.top.o_770 P) .nil .nil) .nil) (.node (Mine.top.o_642 P) (.node (Mine.top.o_1120 P) .nil .nil) .nil))) (.node (Mine.top.o_102 P) (.node (Mine.top.o_181 P) (.node (Mine.top.o_309 P) (.node (Mine.top.o_738 P) .nil .nil) (.node (Mine.top.o_1222 P) .nil .nil)) (.node (Mine.top.o_610 P) (.node (Mine.top.o_1088 P) .nil .nil) .nil)) (.node (Mine.top.o_245 P) (.node (Mine.top.o_373 P) (.node (Mine.top.o_802 P) .nil .nil) .nil) (.node (Mine.top.o_674 P) (.node (Mine.top.o_1155 P) .nil .nil) .nil)))) (.node (Mine.top.o_41 P) (.node (Mine.top.o_82 P) (.node (Mine.top.o_161 P) (.node (Mine.top.o_293 P) (.node (Mine.top.o_722 P) .nil .nil) (.node (Mine.top.o_1206 P) .nil .nil)) (.node (Mine.top.o_594 P) (.node (Mine.top.o_1072 P) .nil .nil) .nil)) (.node (Mine.top.o_229 P) (.node (Mine.top.o_357 P) (.node (Mine.top.o_786 P) .nil .nil) .nil) (.node (Mine.top.o_658 P) (.node (Mine.top.o_1139 P) .nil .nil) .nil))) (.node (Mine.top.o_121 P) (.node (Mine.top.o_197 P) (.node (Mine.top.o_325 P) (.node (Mine.top.o_754 P) .nil .nil) (.node (t816 P) .nil .nil)) (.node (Mine.top.o_626 P) (.node (Mine.top.o_1104 P) .nil .nil) .nil)) (.node (Mine.top.o_261 P) (.node (Mine.top.o_389 P) (.node (Mine.top.o_818 P) .nil .nil) .nil) (.node (Mine.top.o_690 P) (.node (Mine.top.o_1171 P) .nil .nil) .nil))))) (.node (Mine.top.o_17 P) (.node (Mine.top.o_33 P) (.node (Mine.top.o_74 P) (.node (Mine.top.o_149 P) (.node (Mine.top.o_285 P) (.node (Mine.top.o_714 P) .nil .nil) (.node (Mine.top.o_1198 P) .nil .nil)) (.node (Mine.top.o_586 P) (.node (Mine.top.o_1064 P) .nil .nil) .nil)) (.node (Mine.top.o_221 P) (.node (Mine.top.o_349 P) (.node (Mine.top.o_778 P) .nil .nil) .nil) (.node (Mine.top.o_650 P) (.node (Mine.top.o_1128 P) .nil .nil) .nil))) (.node (Mine.top.o_110 P) (.node (Mine.top.o_189 P) (.node (Mine.top.o_317 P) (.node (Mine.top.o_746 P) .nil .nil) (.node (Mine.top.o_1230 P) .nil .nil)) (.node (Mine.top.o_618 P) (.node (Mine.top.o_1096 P) .nil .nil) .nil)) (.node (Mine.top.o_253 P) (.node (Mine.top.o_381 P) (.node (Mine.top.o_810 P) .nil .nil) .nil) (.node (Mine.top.o_682 P) (.node (Mine.top.o_1163 P) .nil .nil) .nil)))) (.node (Mine.top.o_53 P) (.node (Mine.top.o_90 P) (.node (Mine.top.o_169 P) (.node (Mine.top.o_301 P) (.node (Mine.top.o_730 P) .nil .nil) (.node (Mine.top.o_1214 P) .nil .nil)) (.node (Mine.top.o_602 P) (.node (Mine.top.o_1080 P) .nil .nil) .nil)) (.node (Mine.top.o_237 P) (.node (Mine.top.o_365 P) (.node (Mine.top.o_794 P) .nil .nil) .nil) (.node (Mine.top.o_666 P) (.node (Mine.top.o_1147 P) .nil .nil) .nil))) (.node (Mine.top.o_129 P) (.node (Mine.top.o_205 P) (.node (Mine.top.o_333 P) (.node (Mine.top.o_762 P) .nil .nil) .nil) (.node (Mine.top.o_634 P) (.node (Mine.top.o_1112 P) .nil .nil) .nil)) (.node (Mine.top.o_269 P) (.node (Mine.top.o_397 P) (.node (Mine.top.o_1048 P) .nil .nil) .nil) (.node (Mine.top.o_698 P) (.node (Mine.top.o_1182 P) .nil .nil) .nil)))))) (.node (Mine.top.o_1178 P) (.node (Mine.top.o_13 P) (.node (Mine.top.o_29 P) (.node (Mine.top.o_70 P) (.node (Mine.top.o_145 P) (.node (Mine.top.o_281 P) (.node (Mine.top.o_710 P) .nil .nil) (.node (Mine.top.o_1194 P) .nil .nil)) (.node (Mine.top.o_582 P) (.node (Mine.top.o_1060 P) .nil .nil) .nil)) (.node (Mine.top.o_217 P) (.node (Mine.top.o_345 P) (.node (Mine.top.o_774 P) .nil .nil) .nil) (.node (Mine.top.o_646 P) (.node (Mine.top.o_1124 P) .nil .nil) .nil))) (.node (Mine.top.o_106 P) (.node (Mine.top.o_185 P) (.node (Mine.top.o_313 P) (.node (Mine.top.o_742 P) .nil .nil) (.node (Mine.top.o_1226 P) .nil .nil)) (.node (Mine.top.o_614 P) (.node (Mine.top.o_1092 P) .nil .nil) .nil)) (.node (Mine.top.o_249 P) (.node (Mine.top.o_377 P) (.node (Mine.top.o_806 P) .nil .nil) .nil) (.node (Mine.top.o_678 P) (.node (Mine.top.o_1159 P) .nil .nil) .nil)))) (.node (Mine.top.o_49 P) (.node (Mine.top.o_86 P) (.node (Mine.top.o_165 P) (.node (Mine.top.o_297 P) (.node (Mine.top.o_726 P) .nil .nil) (.node (Mine.top.o_1210 P) .nil .nil)) (.node (Mine.top.o_598 P) (.node (Mine.top.o_1076 P) .nil .nil) .nil)) (.node (Mine.top.o_233 P) (.node (Mine.top.o_361 P) (.node (Mine.top.o_790 P) .nil .nil) .nil) (.node (Mine.top.o_662 P) (.node (Mine.top.o_1143 P) .nil .nil) .nil))) (.node (Mine.top.o_125 P) (.node (Mine.top.o_201 P) (.node (Mine.top.o_329 P) (.node (Mine.top.o_758 P) .nil .nil) .nil) (.node (Mine.top.o_630 P) (.node (Mine.top.o_1108 P) .nil .nil) .nil)) (.node (Mine.top.o_265 P) (.node (Mine.top.o_393 P) (.node (Mine.top.o_822 P) .nil .nil) .nil) (.node (Mine.top.o_694 P) (.node (Mine.top.o_1175 P) .nil .nil) .nil))))) (.node (Mine.top.o_21 P) (.node (Mine.top.o_37 P) (.node (Mine.top.o_78 P) (.node (Mine.top.o_153 P) (.node (Mine.top.o_289 P) (.node (Mine.top.o_718 P) .nil .nil) (.node (Mine.top.o_1202 P) .nil .nil)) (.node (Mine.top.o_590 P) (.node (Mine.top.o_1068 P) .nil .nil) .nil)) (.node (Mine.top.o_225 P) (.node (Mine.top.o_353 P) (.node (Mine.top.o_782 P) .nil .nil) .nil) (.node (Mine.top.o_654 P) (.node (Mine.top.o_1135 P) .nil .nil) .nil))) (.node (Mine.top.o_117 P) (.node (Mine.top.o_193 P) (.node (Mine.top.o_321 P) (.node (Mine.top.o_750 P) .nil .nil) (.node (Mine.top.o_1234 P) .nil .nil)) (.node (Mine.top.o_622 P) (.node (Mine.top.o_1100 P) .nil .nil) .nil)) (.node (Mine.top.o_257 P) (.node (Mine.top.o_385 P) (.node (Mine.top.o_814 P) .nil .nil) .nil) (.node (Mine.top.o_686 P) (.node (Mine.top.o_1167 P) .nil .nil) .nil)))) (.node (Mine.top.o_57 P) (.node (Mine.top.o_94 P) (.node (Mine.top.o_177 P) (.node (Mine.top.o_305 P) (.node (Mine.top.o_734 P) .nil .nil) (.node (Mine.top.o_1218 P) .nil .nil)) (.node (Mine.top.o_606 P) (.node (Mine.top.o_1084 P) .nil .nil) .nil)) (.node (Mine.top.o_241 P) (.node (Mine.top.o_369 P) (.node (Mine.top.o_798 P) .nil .nil) .nil) (.node (Mine.top.o_670 P) (.node (Mine.top.o_1151 P) .nil .nil) .nil))) (.node (Mine.top.o_158 P) (.node (Mine.top.o_209 P) (.node (Mine.top.o_337 P) (.node (Mine.top.o_766 P) .nil .nil) .nil) (.node (Mine.top.o_638 P) (.node (Mine.top.o_1116 P) .nil .nil) .nil)) (.node (Mine.top.o_273 P) (.node (Mine.top.o_401 P) (.node (Mine.top.o_1052 P) .nil .nil) .nil) (.node (Mine.top.o_702 P) (.node (Mine.top.o_1186 P) .nil .nil) .nil))))))) (.node (PySem.W.boot_o_6 P) (.node (PySem.W.boot_o_10 P) (.node (Mine.top.o_11 P) (.node (Mine.top.o_27 P) (.node (Mine.top.o_68 P) (.node (Mine.top.o_143 P) (.node (Mine.top.o_279 P) (.node (Mine.top.o_708 P) .nil .nil) (.node (Mine.top.o_1192 P) .nil .nil)) (.node (Mine.top.o_580 P) (.node (Mine.top.o_1058 P) .nil .nil) .nil)) (.node (Mine.top.o_215 P) (.node (Mine.top.o_343 P) (.node (Mine.top.o_772 P) .nil .nil) .nil) (.node (Mine.top.o_644 P) (.node (Mine.top.o_1122 P) .nil .nil) .nil))) (.node (Mine.top.o_104 P) (.node (Mine.top.o_183 P) (.node (Mine.top.o_311 P) (.node (Mine.top.o_740 P) .nil .nil) (.node (Mine.top.o_1224 P) .nil .nil)) (.node (Mine.top.o_612 P) (.node (Mine.top.o_1090 P) .nil .nil) .nil)) (.node (Mine.top.o_247 P) (.node (Mine.top.o_375 P) (.node (Mine.top.o_804 P) .nil .nil) .nil) (.node (Mine.top.o_676 P) (.node (Mine.top.o_1157 P) .nil .nil) .nil)))) (.node (Mine.top.o_47 P) (.node (Mine.top.o_84 P) (.node (Mine.top.o_163 P) (.node (Mine.top.o_295 P) (.node (Mine.top.o_724 P) .nil .nil) (.node (Mine.top.o_1208 P) .nil .nil)) (.node (Mine.top.o_596 P) (.node (Mine.top.o_1074 P) .nil .nil) .nil)) (.node (Mine.top.o_231 P) (.node (Mine.top.o_359 P) (.node (Mine.top.o_788 P) .nil .nil) .nil) (.node (Mine.top.o_660 P) (.node (Mine.top.o_1141 P) .nil .nil) .nil))) (.node (Mine.top.o_123 P) (.node (Mine.top.o_199 P) (.node (Mine.top.o_327 P) (.node (Mine.top.o_756 P) .nil .nil) .nil) (.node (Mine.top.o_628 P) (.node (Mine.top.o_1106 P) .nil .nil) .nil)) (.node (Mine.top.o_263 P) (.node (Mine.top.o_391 P) (.node (Mine.top.o_820 P) .nil .nil) .nil) (.node (Mine.top.o_692 P) (.node (Mine.top.o_1173 P) .nil .nil) .nil))))) (.node (Mine.top.o_19 P) (.node (Mine.top.o_35 P) (.node (Mine.top.o_76 P) (.node (Mine.top.o_151 P) (.node (Mine.top.o_287 P) (.node (Mine.top.o_716 P) .nil .nil) (.node (Mine.top.o_1200 P) .nil .nil)) (.node (Mine.top.o_588 P) (.node (Mine.top.o_1066 P) .nil .nil) .nil)) (.node (Mine.top.o_223 P) (.node (Mine.top.o_351 P) (.node (Mine.top.o_780 P) .nil .nil) .nil) (.node (Mine.top.o_652 P) (.node (Mine.top.o_1133 P) .nil .nil) .nil))) (.node (Mine.top.o_112 P) (.node (Mine.top.o_191 P) (.node (Mine.top.o_319 P) (.node (Mine.top.o_748 P) .nil .nil) (.node (Mine.top.o_1232 P) .nil .nil)) (.node (Mine.top.o_620 P) (.node (Mine.top.o_1098 P) .nil .nil) .nil)) (.node (Mine.top.o_255 P) (.node (Mine.top.o_383 P) (.node (Mine.top.o_812 P) .nil .nil) .nil) (.node (Mine.top.o_684 P) (.node (Mine.top.o_1165 P) .nil .nil) .nil)))) (.node (Mine.top.o_55 P) (.node (Mine.top.o_92 P) (.node (Mine.top.o_175 P) (.node (Mine.top.o_303 P) (.node (Mine.top.o_732 P) .nil .nil) (.node (Mine.top.o_1216 P) .nil .nil)) (.node (Mine.top.o_604 P) (.node (Mine.top.o_1082 P) .nil .nil) .nil)) (.node (Mine.top.o_239 P) (.node (Mine.top.o_367 P) (.node (Mine.top.o_796 P) .nil .nil) .nil) (.node (Mine.top.o_668 P) (.node (Mine.top.o_1149 P) .nil .nil) .nil))) (.node (Mine.top.o_131 P) (.node (Mine.top.o_207 P) (.node (Mine.top.o_335 P) (.node (Mine.top.o_764 P) .nil .nil) .nil) (.node (Mine.top.o_636 P) (.node (Mine.top.o_1114 P) .nil .nil) .nil)) (.node (Mine.top.o_271 P) (.node (Mine.top.o_399 P) (.node (Mine.top.o_1050 P) .nil .nil) .nil) (.node (Mine.top.o_700 P) (.node (Mine.top.o_1184 P) .nil .nil) .nil)))))) (.node (Mine.top.o_4 P) (.node (Mine.top.o_15 P) (.node (Mine.top.o_31 P) (.node (Mine.top.o_72 P) (.node (Mine.top.o_147 P) (.node (Mine.top.o_283 P) (.node (Mine.top.o_712 P) .nil .nil) (.node (Mine.top.o_1196 P) .nil .nil)) (.node (Mine.top.o_584 P) (.node (Mine.top.o_1062 P) .nil .nil) .nil)) (.node (Mine.top.o_219 P) (.node (Mine.top.o_347 P) (.node (Mine.top.o_776 P) .nil .nil) .nil) (.node (Mine.top.o_648 P) (.node (Mine.top.o_1126 P) .nil .nil) .nil))) (.node (Mine.top.o_108 P) (.node (Mine.top.o_187 P) (.node (Mine.top.o_315 P) (.node (Mine.top.o_744 P) .nil .nil) (.node (Mine.top.o_1228 P) .nil .nil)) (.node (Mine.top.o_616 P) (.node (Mine.top.o_1094 P) .nil .nil) .nil)) (.node (Mine.top.o_251 P) (.node (Mine.top.o_379 P) (.node (Mine.top.o_808 P) .nil .nil) .nil) (.node (Mine.top.o_680 P) (.node (Mine.top.o_1161 P) .nil .nil) .nil)))) (.node (Mine.top.o_51 P) (.node (Mine.top.o_88 P) (.node (Mine.top.o_167 P) (.node (Mine.top.o_299 P) (.node (Mine.top.o_728 P) .nil .nil) (.node (Mine.top.o_1212 P) .nil .nil)) (.node (Mine.top.o_600 P) (.node (Mine.top.o_1078 P) .nil .nil) .nil)) (.node (Mine.top.o_235 P) (.node (Mine.top.o_363 P) (.node (Mine.top.o_792 P) .nil .nil) .nil) (.node (Mine.top.o_664 P) (.node (Mine.top.o_1145 P) .nil .nil) .nil))) (.node (Mine.top.o_127 P) (.node (Mine.top.o_203 P) (.node (Mine.top.o_331 P) (.node (Mine.top.o_760 P) .nil .nil) .nil) (.node (Mine.top.o_632 P) (.node (Mine.top.o_1110 P) .nil .nil) .nil)) (.node (Mine.top.o_267 P) (.node (Mine.top.o_395 P) (.node (Mine.top.o_824 P) .nil .nil) .nil) (.node (Mine.top.o_696 P) (.node (Mine.top.o_1180 P) .nil .nil) .nil))))) (.node (Mine.top.o_23 P) (.node (Mine.top.o_39 P) (.node (Mine.top.o_80 P) (.node (Mine.top.o_159 P) (.node (Mine.top.o_291 P) (.node (Mine.top.o_720 P) .nil .nil) (.node (Mine.top.o_1204 P) .nil .nil)) (.node (Mine.top.o_592 P) (.node (Mine.top.o_1070 P) .nil .nil) .nil)) (.node (Mine.top.o_227 P) (.node (Mine.top.o_355 P) (.node (Mine.top.o_784 P) .nil .nil) .nil) (.node (Mine.top.o_656 P) (.node (Mine.top.o_1137 P) .nil .nil) .nil))) (.node (Mine.top.o_119 P) (.node (Mine.top.o_195 P) (.node (Mine.top.o_323 P) (.node (Mine.top.o_752 P) .nil .nil) (.node (Mine.top.o_1236 P) .nil .nil)) (.node (Mine.top.o_624 P) (.node (Mine.top.o_1102 P) .nil .nil) .nil)) (.node (Mine.top.o_259 P) (.node (Mine.top.o_387 P) (.node (Mine.top.o_816 P) .nil .nil) .nil) (.node (Mine.top.o_688 P) (.node (Mine.top.o_1169 P) .nil .nil) .nil)))) (.node (Mine.top.o_64 P) (.node (Mine.top.o_96 P) (.node (Mine.top.o_179 P) (.node (Mine.top.o_307 P) (.node (Mine.top.o_736 P) .nil .nil) (.node (Mine.top.o_1220 P) .nil .nil)) (.node (Mine.top.o_608 P) (.node (Mine.top.o_1086 P) .nil .nil) .nil)) (.node (Mine.top.o_243 P) (.node (Mine.top.o_371 P) (.node (Mine.top.o_800 P) .nil .nil) .nil) (.node (Mine.top.o_672 P) (.node (Mine.top.o_1153 P) .nil .nil) .nil))) (.node (Mine.top.o_135 P) (.node (Mine.top.o_211 P) (.node (Mine.top.o_339 P) (.node (Mine.top.o_768 P) .nil .nil) .nil) (.node (Mine.top.o_640 P) (.node (Mine.top.o_1118 P) .nil .nil) .nil)) (.node (Mine.top.o_275 P) (.node (Mine.top.o_403 P) (.node (Mine.top.o_1054 P) .nil .nil) .nil) (.node (Mine.top.o_704 P) (.node (Mine.top.o_1188 P) .nil .nil) .nil)))))))))
noncomputable def posA : Pos := (PySem.Pos.mk 643 0 643 14)
-- A: 51..53 steps 70 objs 818 toks 1205 gens 0
noncomputable def t3B : Params → Obj := fun P =>
  PySem.Obj.mk (PySem.Value.type "dict") Option.none
    (PySem.Data.dict
      #[PySem.DictEntry.mk (PySem.PyData.keyHash P (PySem.Str.ofString "__name__")) (PySem.Value.str (PySem.Str.ofString "__name__") 165) (PySem.Value.str (PySem.Str.ofString "btclib.script.sig_ops") 1193),
        PySem.DictEntry.mk (PySem.PyData.keyHash P (PySem.Str.ofString "__doc__")) (PySem.Value.str (PySem.Str.ofString "__doc__") 166) PySem.Value.none,
        PySem.DictEntry.mk (PySem.PyData.keyHash P (PySem.Str.ofString "__package__")) (PySem.Value.str (PySem.Str.ofString "__package__") 167) PySem.Value.none,
        PySem.DictEntry.mk (PySem.PyData.keyHash P (PySem.Str.ofString "__loader__")) (PySem.Value.str (PySem.Str.ofString "__loader__") 168) (PySem.Value.builtin "__main__.__loader__#opaque"),
        PySem.DictEntry.mk (PySem.PyData.keyHash P (PySem.Str.ofString "__spec__")) (PySem.Value.str (PySem.Str.ofString "__spec__") 169) PySem.Value.none,
        PySem.DictEntry.mk (PySem.PyData.keyHash P (PySem.Str.ofString "__annotations__")) (PySem.Value.str (PySem.Str.ofString "__annotations__") 170) (PySem.Value.ref 6),
        PySem.DictEntry.mk (PySem.PyData.keyHash P (PySem.Str.ofString "__builtins__")) (PySem.Value.str (PySem.Str.ofString "__builtins__") 171) (PySem.Value.ref 4),
        PySem.DictEntry.mk (PySem.PyData.keyHash P (PySem.Str.ofString "__file__")) (PySem.Value.str (PySem.Str.ofString "__file__") 173) (PySem.Value.str (PySem.Str.ofString "/claim/cut.py") 172),
        PySem.DictEntry.mk (PySem.PyData.keyHash P (PySem.Str.ofString "__cached__")) (PySem.Value.str (PySem.Str.ofString "__cached__") 174) PySem.Value.none,
        PySem.DictEntry.mk (PySem.PyData.keyHash P (PySem.Str.ofString "_wall")) (PySem.Value.str (PySem.Str.ofString "_wall") 193) (PySem.Value.ref 21),
        PySem.DictEntry.mk (PySem.PyData.keyHash P (PySem.Str.ofString "MAX_PUBKEYS_PER_MULTISIG")) (PySem.Value.str (PySem.Str.ofString "MAX_PUBKEYS_PER_MULTISIG") 195) (PySem.Value.int 20 194),
        PySem.DictEntry.mk (PySem.PyData.keyHash P (PySem.Str.ofString "read_op_code")) (PySem.Value.str (PySem.Str.ofString "read_op_code") 209) (PySem.Value.ref 28),
        PySem.DictEntry.mk (PySem.PyData.keyHash P (PySem.Str.ofString "op_code_spans")) (PySem.Value.str (PySem.Str.ofString "op_code_spans") 220) (PySem.Value.ref 35),
        PySem.DictEntry.mk (PySem.PyData.keyHash P (PySem.Str.ofString "BTClibException")) (PySem.Value.str (PySem.Str.ofString "BTClibException") 242) (PySem.Value.ref 45),
        PySem.DictEntry.mk (PySem.PyData.keyHash P (PySem.Str.ofString "BTClibValueError")) (PySem.Value.str (PySem.Str.ofString "BTClibValueError") 258) (PySem.Value.ref 58),
        PySem.DictEntry.mk (PySem.PyData.keyHash P (PySem.Str.ofString "BTClibTypeError")) (PySem.Value.str (PySem.Str.ofString "BTClibTypeError") 276) (PySem.Value.ref 70),
        PySem.DictEntry.mk (PySem.PyData.keyHash P (PySem.Str.ofString "bytes_from_octets")) (PySem.Value.str (PySem.Str.ofString "bytes_from_octets") 290) (PySem.Value.ref 80),
        PySem.DictEntry.mk (PySem.PyData.keyHash P (PySem.Str.ofString "_whence")) (PySem.Value.str (PySem.Str.ofString "_whence") 300) (PySem.Value.ref 87),
        PySem.DictEntry.mk (PySem.PyData.keyHash P (PySem.Str.ofString "_index")) (PySem.Value.str (PySem.Str.ofString "_index") 308) (PySem.Value.ref 94),
        PySem.DictEntry.mk (PySem.PyData.keyHash P (PySem.Str.ofString "UnsupportedOperation")) (PySem.Value.str (PySem.Str.ofString "UnsupportedOperation") 330) (PySem.Value.ref 104),
        PySem.DictEntry.mk (PySem.PyData.keyHash P (PySem.Str.ofString "IOBase")) (PySem.Value.str (PySem.Str.ofString "IOBase") 362) (PySem.Value.ref 124),
        PySem.DictEntry.mk (PySem.PyData.keyHash P (PySem.Str.ofString "BufferedIOBase")) (PySem.Value.str (PySem.Str.ofString "BufferedIOBase") 380) (PySem.Value.ref 139),
        PySem.DictEntry.mk (PySem.PyData.keyHash P (PySem.Str.ofString "TextIOBase")) (PySem.Value.str (PySem.Str.ofString "TextIOBase") 398) (PySem.Value.ref 151),
        PySem.DictEntry.mk (PySem.PyData.keyHash P (PySem.Str.ofString "BytesIO")) (PySem.Value.str (PySem.Str.ofString "BytesIO") 660) (PySem.Value.ref 381),
        PySem.DictEntry.mk (PySem.PyData.keyHash P (PySem.Str.ofString "StringIO")) (PySem.Value.str (PySem.Str.ofString "StringIO") 947) (PySem.Value.ref 628),
        PySem.DictEntry.mk (PySem.PyData.keyHash P (PySem.Str.ofString "bytesio_from_binarydata")) (PySem.Value.str (PySem.Str.ofString "bytesio_from_binarydata") 956) (PySem.Value.ref 637),
        PySem.DictEntry.mk (PySem.PyData.keyHash P (PySem.Str.ofString "assert_no_trailing")) (PySem.Value.str (PySem.Str.ofString "assert_no_trailing") 966) (PySem.Value.ref 644),
        PySem.DictEntry.mk (PySem.PyData.keyHash P (PySem.Str.ofString "_message_text")) (PySem.Value.str (PySem.Str.ofString "_message_text") 973) (PySem.Value.ref 651),
        PySem.DictEntry.mk (PySem.PyData.keyHash P (PySem.Str.ofString "is_integer")) (PySem.Value.str (PySem.Str.ofString "is_integer") 980) (PySem.Value.ref 658),
        PySem.DictEntry.mk (PySem.PyData.keyHash P (PySem.Str.ofString "is_octets")) (PySem.Value.str (PySem.Str.ofString "is_octets") 987) (PySem.Value.ref 665),
        PySem.DictEntry.mk (PySem.PyData.keyHash P (PySem.Str.ofString "assert_type")) (PySem.Value.str (PySem.Str.ofString "assert_type") 996) (PySem.Value.ref 672),
        PySem.DictEntry.mk (PySem.PyData.keyHash P (PySem.Str.ofString "int_from_integer")) (PySem.Value.str (PySem.Str.ofString "int_from_integer") 1006) (PySem.Value.ref 679),
        PySem.DictEntry.mk (PySem.PyData.keyHash P (PySem.Str.ofString "hex_string")) (PySem.Value.str (PySem.Str.ofString "hex_string") 1012) (PySem.Value.ref 684),
        PySem.DictEntry.mk (PySem.PyData.keyHash P (PySem.Str.ofString "_is_funct")) (PySem.Value.str (PySem.Str.ofString "_is_funct") 1022) (PySem.Value.ref 691),
        PySem.DictEntry.mk (PySem.PyData.keyHash P (PySem.Str.ofString "assert_p2sh")) (PySem.Value.str (PySem.Str.ofString "assert_p2sh") 1030) (PySem.Value.ref 698),
        PySem.DictEntry.mk (PySem.PyData.keyHash P (PySem.Str.ofString "is_p2sh")) (PySem.Value.str (PySem.Str.ofString "is_p2sh") 1037) (PySem.Value.ref 705),
        PySem.DictEntry.mk (PySem.PyData.keyHash P (PySem.Str.ofString "assert_segwit")) (PySem.Value.str (PySem.Str.ofString "assert_segwit") 1044) (PySem.Value.ref 712),
        PySem.DictEntry.mk (PySem.PyData.keyHash P (PySem.Str.ofString "is_segwit")) (PySem.Value.str (PySem.Str.ofString "is_segwit") 1051) (PySem.Value.ref 719),
        PySem.DictEntry.mk (PySem.PyData.keyHash P (PySem.Str.ofString "MAX_SIZE")) (PySem.Value.str (PySem.Str.ofString "MAX_SIZE") 1055) (PySem.Value.int 33554432 1054),
        PySem.DictEntry.mk (PySem.PyData.keyHash P (PySem.Str.ofString "_parse_number")) (PySem.Value.str (PySem.Str.ofString "_parse_number") 1067) (PySem.Value.ref 726),
        PySem.DictEntry.mk (PySem.PyData.keyHash P (PySem.Str.ofString "parse")) (PySem.Value.str (PySem.Str.ofString "parse") 1078) (PySem.Value.ref 749),
        PySem.DictEntry.mk (PySem.PyData.keyHash P (PySem.Str.ofString "parse_var_int")) (PySem.Value.str (PySem.Str.ofString "parse_var_int") 1079) (PySem.Value.ref 734),
        PySem.DictEntry.mk (PySem.PyData.keyHash P (PySem.Str.ofString "serialize")) (PySem.Value.str (PySem.Str.ofString "serialize") 1086) (PySem.Value.ref 756),
        PySem.DictEntry.mk (PySem.PyData.keyHash P (PySem.Str.ofString "serialize_var_int")) (PySem.Value.str (PySem.Str.ofString "serialize_var_int") 1087) (PySem.Value.ref 741),
        PySem.DictEntry.mk (PySem.PyData.keyHash P (PySem.Str.ofString "parse_var_bytes")) (PySem.Value.str (PySem.Str.ofString "parse_var_bytes") 1100) (PySem.Value.ref 749),
        PySem.DictEntry.mk (PySem.PyData.keyHash P (PySem.Str.ofString "serialize_var_bytes")) (PySem.Value.str (PySem.Str.ofString "serialize_var_bytes") 1109) (PySem.Value.ref 756),
        PySem.DictEntry.mk (PySem.PyData.keyHash P (PySem.Str.ofString "MAX_WITNESS_STACK_ITEMS")) (PySem.Value.str (PySem.Str.ofString "MAX_WITNESS_STACK_ITEMS") 1111) (PySem.Value.int 4000000 1110),
        PySem.DictEntry.mk (PySem.PyData.keyHash P (PySem.Str.ofString "Witness")) (PySem.Value.str (PySem.Str.ofString "Witness") 1192) (PySem.Value.ref 811),
        PySem.DictEntry.mk (PySem.PyData.keyHash P (PySem.Str.ofString "_CHECKSIG")) (PySem.Value.str (PySem.Str.ofString "_CHECKSIG") 1199) (PySem.Value.ref 816),
        PySem.DictEntry.mk (PySem.PyData.keyHash P (PySem.Str.ofString "_CHECKMULTISIG")) (PySem.Value.str (PySem.Str.ofString "_CHECKMULTISIG") 1204) (PySem.Value.ref 817),
        PySem.DictEntry.mk (PySem.PyData.keyHash P (PySem.Str.ofString "_OP_PUSHDATA1")) (PySem.Value.str (PySem.Str.ofString "_OP_PUSHDATA1") 1206) (PySem.Value.int 76 1205),
        PySem.DictEntry.mk (PySem.PyData.keyHash P (PySem.Str.ofString "_OP_PUSHDATA4")) (PySem.Value.str (PySem.Str.ofString "_OP_PUSHDATA4") 1208) (PySem.Value.int 78 1207),
        PySem.DictEntry.mk (PySem.PyData.keyHash P (PySem.Str.ofString "_OP_1")) (PySem.Value.str (PySem.Str.ofString "_OP_1") 1210) (PySem.Value.int 81 1209),
        PySem.DictEntry.mk (PySem.PyData.keyHash P (PySem.Str.ofString "_OP_16")) (PySem.Value.str (PySem.Str.ofString "_OP_16") 1212) (PySem.Value.int 96 1211),
        PySem.DictEntry.mk (PySem.PyData.keyHash P (PySem.Str.ofString "_sig_op_count")) (PySem.Value.str (PySem.Str.ofString "_sig_op_count") 1224) (PySem.Value.ref 824),
        PySem.DictEntry.mk (PySem.PyData.keyHash P (PySem.Str.ofString "sig_op_count")) (PySem.Value.str (PySem.Str.ofString "sig_op_count") 1233) (PySem.Value.ref 832)]
      56)
    #[]
noncomputable def t12B : Params → Obj := fun P =>
  PySem.Obj.mk PySem.Value.none Option.none
    (PySem.Data.fields
      #[PySem.Value.int 1 0, PySem.Value.int 0 0, PySem.Value.ref 20, PySem.Value.int 6 0, PySem.Value.int 0 0, PySem.Value.ref 27, PySem.Value.int 23 0, PySem.Value.int 0 0, PySem.Value.ref 34, PySem.Value.int 30 0, PySem.Value.int 0 0,
        PySem.Value.ref 41, PySem.Value.int 32 0, PySem.Value.int 0 0, PySem.Value.ref 54, PySem.Value.int 34 0, PySem.Value.int 0 0, PySem.Value.ref 66, PySem.Value.int 37 0, PySem.Value.int 0 0, PySem.Value.ref 79, PySem.Value.int 68 0,
        PySem.Value.int 0 0, PySem.Value.ref 86, PySem.Value.int 73 0, PySem.Value.int 0 0, PySem.Value.ref 93, PySem.Value.int 80 0, PySem.Value.int 0 0, PySem.Value.ref 100, PySem.Value.int 82 0, PySem.Value.int 0 0, PySem.Value.ref 113,
        PySem.Value.int 89 0, PySem.Value.int 0 0, PySem.Value.ref 135, PySem.Value.int 91 0, PySem.Value.int 0 0, PySem.Value.ref 147, PySem.Value.int 93 0, PySem.Value.int 0 0, PySem.Value.ref 159, PySem.Value.int 263 0,
        PySem.Value.int 0 0, PySem.Value.ref 389, PySem.Value.int 469 0, PySem.Value.int 0 0, PySem.Value.ref 636, PySem.Value.int 473 0, PySem.Value.int 0 0, PySem.Value.ref 643, PySem.Value.int 479 0, PySem.Value.int 0 0,
        PySem.Value.ref 650, PySem.Value.int 481 0, PySem.Value.int 0 0, PySem.Value.ref 657, PySem.Value.int 483 0, PySem.Value.int 0 0, PySem.Value.ref 664, PySem.Value.int 485 0, PySem.Value.int 0 0, PySem.Value.ref 671,
        PySem.Value.int 488 0, PySem.Value.int 0 0, PySem.Value.ref 678, PySem.Value.int 505 0, PySem.Value.int 0 0, PySem.Value.ref 683, PySem.Value.int 517 0, PySem.Value.int 0 0, PySem.Value.ref 690, PySem.Value.int 523 0,
        PySem.Value.int 0 0, PySem.Value.ref 697, PySem.Value.int 533 0, PySem.Value.int 0 0, PySem.Value.ref 704, PySem.Value.int 535 0, PySem.Value.int 0 0, PySem.Value.ref 711, PySem.Value.int 545 0, PySem.Value.int 0 0,
        PySem.Value.ref 718, PySem.Value.int 549 0, PySem.Value.int 0 0, PySem.Value.ref 725, PySem.Value.int 558 0, PySem.Value.int 0 0, PySem.Value.ref 733, PySem.Value.int 577 0, PySem.Value.int 0 0, PySem.Value.ref 740,
        PySem.Value.int 593 0, PySem.Value.int 0 0, PySem.Value.ref 748, PySem.Value.int 603 0, PySem.Value.int 0 0, PySem.Value.ref 755, PySem.Value.int 609 0, PySem.Value.int 0 0, PySem.Value.ref 762, PySem.Value.int 648 0,
        PySem.Value.int 0 0, PySem.Value.ref 823, PySem.Value.int 661 0, PySem.Value.int 0 0, PySem.Value.ref 831])
    #[]
noncomputable def t818 : Params → Obj := fun P =>
  PySem.Obj.mk (PySem.Value.type "tuple") Option.none (PySem.Data.seq #[]) #[]
noncomputable def t819 : Params → Obj := fun P =>
  PySem.Obj.mk PySem.Value.none Option.none (PySem.Data.fields #[]) #[]
noncomputable def t820 : Params → Obj := fun P =>
  PySem.Obj.mk (PySem.Value.type "tuple") Option.none
    (PySem.Data.seq
      #[PySem.Value.str (PySem.Str.ofString "script") 1216, PySem.Value.str (PySem.Str.ofString "accurate") 1217, PySem.Value.str (PySem.Str.ofString "count") 1218, PySem.Value.str (PySem.Str.ofString "last_op_code") 1219,
        PySem.Value.str (PySem.Str.ofString "op_code") 1220, PySem.Value.str (PySem.Str.ofString "_") 1221])
    #[]
noncomputable def t821 : Params → Obj := fun P =>
  PySem.Obj.mk (PySem.Value.type "tuple") Option.none (PySem.Data.seq #[]) #[]
noncomputable def t823 : Params → Obj := fun P =>
  PySem.Obj.mk (PySem.Value.type "code") Option.none
    (PySem.Data.fields
      #[PySem.Value.str (PySem.Str.ofString "_sig_op_count") 1213, PySem.Value.str (PySem.Str.ofString "_sig_op_count") 1214, PySem.Value.str (PySem.Str.ofString "/claim/cut.py") 1215, PySem.Value.int 648 0, PySem.Value.int 2 0,
        PySem.Value.int 0 0, PySem.Value.int 0 0, PySem.Value.int 3 0, PySem.Value.ref 818, PySem.Value.bool Bool.true, PySem.Value.int 181 0, PySem.Value.ref 819, PySem.Value.none, PySem.Value.ref 820, PySem.Value.ref 821,
        PySem.Value.ref 822, PySem.Value.int 1222 0, PySem.Value.int 648 0, PySem.Value.str (PySem.Str.ofString "/claim/cut.py") 1223])
    #[]
noncomputable def t824 : Params → Obj := fun P =>
  PySem.Obj.mk (PySem.Value.type "function") Option.none (PySem.Data.func (fnS (nth pw.main.body 57) PySem.Value.none (PySem.Value.none) (PySem.Value.str (PySem.Str.ofString "btclib.script.sig_ops") 1193) (PySem.Value.ref 823))) #[]
noncomputable def t825 : Params → Obj := fun P =>
  PySem.Obj.mk (PySem.Value.type "dict") Option.none (PySem.Data.dict #[PySem.DictEntry.mk (PySem.PyData.keyHash P (PySem.Str.ofString "accurate")) (PySem.Value.str (PySem.Str.ofString "accurate") 1225) (PySem.Value.bool Bool.false)] 1) #[]
noncomputable def t826 : Params → Obj := fun P =>
  PySem.Obj.mk (PySem.Value.type "tuple") Option.none (PySem.Data.seq #[]) #[]
noncomputable def t827 : Params → Obj := fun P =>
  PySem.Obj.mk PySem.Value.none Option.none (PySem.Data.fields #[]) #[]
noncomputable def t828 : Params → Obj := fun P =>
  PySem.Obj.mk (PySem.Value.type "tuple") Option.none (PySem.Data.seq #[PySem.Value.str (PySem.Str.ofString "script") 1229, PySem.Value.str (PySem.Str.ofString "accurate") 1230]) #[]
noncomputable def t829 : Params → Obj := fun P =>
  PySem.Obj.mk (PySem.Value.type "tuple") Option.none (PySem.Data.seq #[]) #[]
noncomputable def t831 : Params → Obj := fun P =>
  PySem.Obj.mk (PySem.Value.type "code") Option.none
    (PySem.Data.fields
      #[PySem.Value.str (PySem.Str.ofString "sig_op_count") 1226, PySem.Value.str (PySem.Str.ofString "sig_op_count") 1227, PySem.Value.str (PySem.Str.ofString "/claim/cut.py") 1228, PySem.Value.int 661 0, PySem.Value.int 1 0,
        PySem.Value.int 0 0, PySem.Value.int 1 0, PySem.Value.int 3 0, PySem.Value.ref 826, PySem.Value.bool Bool.true, PySem.Value.int 181 0, PySem.Value.ref 827, PySem.Value.none, PySem.Value.ref 828, PySem.Value.ref 829,
        PySem.Value.ref 830, PySem.Value.int 1231 0, PySem.Value.int 661 0, PySem.Value.str (PySem.Str.ofString "/claim/cut.py") 1232])
    #[]
noncomputable def t832 : Params → Obj := fun P =>
  PySem.Obj.mk (PySem.Value.type "function") Option.none (PySem.Data.func (fnS (nth pw.main.body 58) PySem.Value.none (PySem.Value.ref 825) (PySem.Value.str (PySem.Str.ofString "btclib.script.sig_ops") 1193) (PySem.Value.ref 831))) #[]
noncomputable def t822 : Params → Obj := fun P => bare (t824 P)
noncomputable def t830 : Params → Obj := fun P => bare (t832 P)
noncomputable def treeB : Params → BT := fun P =>
  (.node (PySem.W.boot_o_0 P) (.node (PySem.W.boot_o_1 P) (.node (t3B P) (.node (PySem.W.boot_o_7 P) (.node (Mine.top.o_8 P) (.node (Mine.top.o_24 P) (.node (Mine.top.o_65 P) (.node (Mine.top.o_136 P) (.node (Mine.top.o_276 P) (.node (Mine.top.o_705 P) .nil .nil) (.node (Mine.top.o_1189 P) .nil .nil)) (.node (Mine.top.o_404 P) (.node (Mine.top.o_1055 P) .nil .nil) .nil)) (.node (Mine.top.o_212 P) (.node (Mine.top.o_340 P) (.node (Mine.top.o_769 P) .nil .nil) (.node (t831 P) .nil .nil)) (.node (Mine.top.o_641 P) (.node (Mine.top.o_1119 P) .nil .nil) .nil))) (.node (Mine.top.o_101 P) (.node (Mine.top.o_180 P) (.node (Mine.top.o_308 P) (.node (Mine.top.o_737 P) .nil .nil) (.node (Mine.top.o_1221 P) .nil .nil)) (.node (Mine.top.o_609 P) (.node (Mine.top.o_1087 P) .nil .nil) .nil)) (.node (Mine.top.o_244 P) (.node (Mine.top.o_372 P) (.node (Mine.top.o_801 P) .nil .nil) .nil) (.node (Mine.top.o_673 P) (.node (Mine.top.o_1154 P) .nil .nil) .nil)))) (.node (Mine.top.o_40 P) (.node (Mine.top.o_81 P) (.node (Mine.top.o_160 P) (.node (Mine.top.o_292 P) (.node (Mine.top.o_721 P) .nil .nil) (.node (Mine.top.o_1205 P) .nil .nil)) (.node (Mine.top.o_593 P) (.node (Mine.top.o_1071 P) .nil .nil) .nil)) (.node (Mine.top.o_228 P) (.node (Mine.top.o_356 P) (.node (Mine.top.o_785 P) .nil .nil) .nil) (.node (Mine.top.o_657 P) (.node (Mine.top.o_1138 P) .nil .nil) .nil))) (.node (Mine.top.o_120 P) (.node (Mine.top.o_196 P) (.node (Mine.top.o_324 P) (.node (Mine.top.o_753 P) .nil .nil) (.node (Mine.top.o_1237 P) .nil .nil)) (.node (Mine.top.o_625 P) (.node (Mine.top.o_1103 P) .nil .nil) .nil)) (.node (Mine.top.o_260 P) (.node (Mine.top.o_388 P) (.node (Mine.top.o_817 P) .nil .nil) .nil) (.node (Mine.top.o_689 P) (.node (Mine.top.o_1170 P) .nil .nil) .nil))))) (.node (Mine.top.o_16 P) (.node (Mine.top.o_32 P) (.node (Mine.top.o_73 P) (.node (Mine.top.o_148 P) (.node (Mine.top.o_284 P) (.node (Mine.top.o_713 P) .nil .nil) (.node (Mine.top.o_1197 P) .nil .nil)) (.node (Mine.top.o_585 P) (.node (Mine.top.o_1063 P) .nil .nil) .nil)) (.node (Mine.top.o_220 P) (.node (Mine.top.o_348 P) (.node (Mine.top.o_777 P) .nil .nil) .nil) (.node (Mine.top.o_649 P) (.node (Mine.top.o_1127 P) .nil .nil) .nil))) (.node (Mine.top.o_109 P) (.node (Mine.top.o_188 P) (.node (Mine.top.o_316 P) (.node (Mine.top.o_745 P) .nil .nil) (.node (Mine.top.o_1229 P) .nil .nil)) (.node (Mine.top.o_617 P) (.node (Mine.top.o_1095 P) .nil .nil) .nil)) (.node (Mine.top.o_252 P) (.node (Mine.top.o_380 P) (.node (Mine.top.o_809 P) .nil .nil) .nil) (.node (Mine.top.o_681 P) (.node (Mine.top.o_1162 P) .nil .nil) .nil)))) (.node (Mine.top.o_52 P) (.node (Mine.top.o_89 P) (.node (Mine.top.o_577 P) (.node (Mine.top.o_300 P) (.node (Mine.top.o_729 P) .nil .nil) (.node (Mine.top.o_1213 P) .nil .nil)) (.node (Mine.top.o_601 P) (.node (Mine.top.o_1079 P) .nil .nil) .nil)) (.node (Mine.top.o_236 P) (.node (Mine.top.o_364 P) (.node (Mine.top.o_793 P) .nil .nil) .nil) (.node (Mine.top.o_665 P) (.node (Mine.top.o_1146 P) .nil .nil) .nil))) (.node (Mine.top.o_128 P) (.node (Mine.top.o_204 P) (.node (Mine.top.o_332 P) (.node (Mine.top.o_761 P) .nil .nil) (.node (t823 P) .nil .nil)) (.node (Mine.top.o_633 P) (.node (Mine.top.o_1111 P) .nil .nil) .nil)) (.node (Mine.top.o_268 P) (.node (Mine.top.o_396 P) (.node (Mine.top.o_1047 P) .nil .nil) .nil) (.node (Mine.top.o_697 P) (.node (Mine.top.o_1181 P) .nil .nil) .nil)))))) (.node (Mine.top.o_1 P) (.node (Mine.top.o_12 P) (.node (Mine.top.o_28 P) (.node (Mine.top.o_69 P) (.node (Mine.top.o_144 P) (.node (Mine.top.o_280 P) (.node (Mine.top.o_709 P) .nil .nil) (.node (Mine.top.o_1193 P) .nil .nil)) (.node (Mine.top.o_581 P) (.node (Mine.top.o_1059 P) .nil .nil) .nil)) (.node (Mine.top.o_216 P) (.node (Mine.top.o_344 P) (.node (Mine.top.o_773 P) .nil .nil) .nil) (.node (Mine.top.o_645 P) (.node (Mine.top.o_1123 P) .nil .nil) .nil))) (.node (Mine.top.o_105 P) (.node (Mine.top.o_184 P) (.node (Mine.top.o_312 P) (.node (Mine.top.o_741 P) .nil .nil) (.node (Mine.top.o_1225 P) .nil .nil)) (.node (Mine.top.o_613 P) (.node (Mine.top.o_1091 P) .nil .nil) .nil)) (.node (Mine.top.o_248 P) (.node (Mine.top.o_376 P) (.node (Mine.top.o_805 P) .nil .nil) .nil) (.node (Mine.top.o_677 P) (.node (Mine.top.o_1158 P) .nil .nil) .nil)))) (.node (Mine.top.o_48 P) (.node (Mine.top.o_85 P) (.node (Mine.top.o_164 P) (.node (Mine.top.o_296 P) (.node (Mine.top.o_725 P) .nil .nil) (.node (Mine.top.o_1209 P) .nil .nil)) (.node (Mine.top.o_597 P) (.node (Mine.top.o_1075 P) .nil .nil) .nil)) (.node (Mine.top.o_232 P) (.node (Mine.top.o_360 P) (.node (Mine.top.o_789 P) .nil .nil) .nil) (.node (Mine.top.o_661 P) (.node (Mine.top.o_1142 P) .nil .nil) .nil))) (.node (Mine.top.o_124 P) (.node (Mine.top.o_200 P) (.node (Mine.top.o_328 P) (.node (Mine.top.o_757 P) .nil .nil) (.node (t819 P) .nil .nil)) (.node (Mine.top.o_629 P) (.node (Mine.top.o_1107 P) .nil .nil) .nil)) (.node (Mine.top.o_264 P) (.node (Mine.top.o_392 P) (.node (Mine.top.o_821 P) .nil .nil) .nil) (.node (Mine.top.o_693 P) (.node (Mine.top.o_1174 P) .nil .nil) .nil))))) (.node (Mine.top.o_20 P) (.node (Mine.top.o_36 P) (.node (Mine.top.o_77 P) (.node (Mine.top.o_174 P) (.node (Mine.top.o_288 P) (.node (Mine.top.o_717 P) .nil .nil) (.node (Mine.top.o_1201 P) .nil .nil)) (.node (Mine.top.o_589 P) (.node (Mine.top.o_1067 P) .nil .nil) .nil)) (.node (Mine.top.o_224 P) (.node (Mine.top.o_352 P) (.node (Mine.top.o_781 P) .nil .nil) .nil) (.node (Mine.top.o_653 P) (.node (Mine.top.o_1134 P) .nil .nil) .nil))) (.node (Mine.top.o_113 P) (.node (Mine.top.o_192 P) (.node (Mine.top.o_320 P) (.node (Mine.top.o_749 P) .nil .nil) (.node (Mine.top.o_1233 P) .nil .nil)) (.node (Mine.top.o_621 P) (.node (Mine.top.o_1099 P) .nil .nil) .nil)) (.node (Mine.top.o_256 P) (.node (Mine.top.o_384 P) (.node (Mine.top.o_813 P) .nil .nil) .nil) (.node (Mine.top.o_685 P) (.node (Mine.top.o_1166 P) .nil .nil) .nil)))) (.node (Mine.top.o_56 P) (.node (Mine.top.o_93 P) (.node (Mine.top.o_176 P) (.node (Mine.top.o_304 P) (.node (Mine.top.o_733 P) .nil .nil) (.node (Mine.top.o_1217 P) .nil .nil)) (.node (Mine.top.o_605 P) (.node (Mine.top.o_1083 P) .nil .nil) .nil)) (.node (Mine.top.o_240 P) (.node (Mine.top.o_368 P) (.node (Mine.top.o_797 P) .nil .nil) .nil) (.node (Mine.top.o_669 P) (.node (Mine.top.o_1150 P) .nil .nil) .nil))) (.node (Mine.top.o_132 P) (.node (Mine.top.o_208 P) (.node (Mine.top.o_336 P) (.node (Mine.top.o_765 P) .nil .nil) (.node (t827 P) .nil .nil)) (.node (Mine.top.o_637 P) (.node (Mine.top.o_1115 P) .nil .nil) .nil)) (.node (Mine.top.o_272 P) (.node (Mine.top.o_400 P) (.node (Mine.top.o_1051 P) .nil .nil) .nil) (.node (Mine.top.o_701 P) (.node (Mine.top.o_1185 P) .nil .nil) .nil))))))) (.node (PySem.W.boot_o_5 P) (.node (PySem.W.boot_o_9 P) (.node (Mine.top.o_10 P) (.node (Mine.top.o_26 P) (.node (Mine.top.o_67 P) (.node (Mine.top.o_138 P) (.node (Mine.top.o_278 P) (.node (Mine.top.o_707 P) .nil .nil) (.node (Mine.top.o_1191 P) .nil .nil)) (.node (Mine.top.o_579 P) (.node (Mine.top.o_1057 P) .nil .nil) .nil)) (.node (Mine.top.o_214 P) (.node (Mine.top.o_342 P) (.node (Mine.top.o_771 P) .nil .nil) .nil) (.node (Mine.top.o_643 P) (.node (Mine.top.o_1121 P) .nil .nil) .nil))) (.node (Mine.top.o_103 P) (.node (Mine.top.o_182 P) (.node (Mine.top.o_310 P) (.node (Mine.top.o_739 P) .nil .nil) (.node (Mine.top.o_1223 P) .nil .nil)) (.node (Mine.top.o_611 P) (.node (Mine.top.o_1089 P) .nil .nil) .nil)) (.node (Mine.top.o_246 P) (.node (Mine.top.o_374 P) (.node (Mine.top.o_803 P) .nil .nil) .nil) (.node (Mine.top.o_675 P) (.node (Mine.top.o_1156 P) .nil .nil) .nil)))) (.node (Mine.top.o_46 P) (.node (Mine.top.o_83 P) (.node (Mine.top.o_162 P) (.node (Mine.top.o_294 P) (.node (Mine.top.o_723 P) .nil .nil) (.node (Mine.top.o_1207 P) .nil .nil)) (.node (Mine.top.o_595 P) (.node (Mine.top.o_1073 P) .nil .nil) .nil)) (.node (Mine.top.o_230 P) (.node (Mine.top.o_358 P) (.node (Mine.top.o_787 P) .nil .nil) .nil) (.node (Mine.top.o_659 P) (.node (Mine.top.o_1140 P) .nil .nil) .nil))) (.node (Mine.top.o_122 P) (.node (Mine.top.o_198 P) (.node (Mine.top.o_326 P) (.node (Mine.top.o_755 P) .nil .nil) (.node (t817 P) .nil .nil)) (.node (Mine.top.o_627 P) (.node (Mine.top.o_1105 P) .nil .nil) .nil)) (.node (Mine.top.o_262 P) (.node (Mine.top.o_390 P) (.node (Mine.top.o_819 P) .nil .nil) .nil) (.node (Mine.top.o_691 P) (.node (Mine.top.o_1172 P) .nil .nil) .nil))))) (.node (Mine.top.o_18 P) (.node (Mine.top.o_34 P) (.node (Mine.top.o_75 P) (.node (Mine.top.o_150 P) (.node (Mine.top.o_286 P) (.node (Mine.top.o_715 P) .nil .nil) (.node (Mine.top.o_1199 P) .nil .nil)) (.node (Mine.top.o_587 P) (.node (Mine.top.o_1065 P) .nil .nil) .nil)) (.node (Mine.top.o_222 P) (.node (Mine.top.o_350 P) (.node (Mine.top.o_779 P) .nil .nil) .nil) (.node (Mine.top.o_651 P) (.node (Mine.top.o_1132 P) .nil .nil) .nil))) (.node (Mine.top.o_111 P) (.node (Mine.top.o_190 P) (.node (Mine.top.o_318 P) (.node (Mine.top.o_747 P) .nil .nil) (.node (Mine.top.o_1231 P) .nil .nil)) (.node (Mine.top.o_619 P) (.node (Mine.top.o_1097 P) .nil .nil) .nil)) (.node (Mine.top.o_254 P) (.node (Mine.top.o_382 P) (.node (Mine.top.o_811 P) .nil .nil) .nil) (.node (Mine.top.o_683 P) (.node (Mine.top.o_1164 P) .nil .nil) .nil)))) (.node (Mine.top.o_54 P) (.node (Mine.top.o_91 P) (.node (Mine.top.o_170 P) (.node (Mine.top.o_302 P) (.node (Mine.top.o_731 P) .nil .nil) (.node (Mine.top.o_1215 P) .nil .nil)) (.node (Mine.top.o_603 P) (.node (Mine.top.o_1081 P) .nil .nil) .nil)) (.node (Mine.top.o_238 P) (.node (Mine.top.o_366 P) (.node (Mine.top.o_795 P) .nil .nil) .nil) (.node (Mine.top.o_667 P) (.node (Mine.top.o_1148 P) .nil .nil) .nil))) (.node (Mine.top.o_130 P) (.node (Mine.top.o_206 P) (.node (Mine.top.o_334 P) (.node (Mine.top.o_763 P) .nil .nil) (.node (t825 P) .nil .nil)) (.node (Mine.top.o_635 P) (.node (Mine.top.o_1113 P) .nil .nil) .nil)) (.node (Mine.top.o_270 P) (.node (Mine.top.o_398 P) (.node (Mine.top.o_1049 P) .nil .nil) .nil) (.node (Mine.top.o_699 P) (.node (Mine.top.o_1183 P) .nil .nil) .nil)))))) (.node (Mine.top.o_3 P) (.node (Mine.top.o_14 P) (.node (Mine.top.o_30 P) (.node (Mine.top.o_71 P) (.node (Mine.top.o_146 P) (.node (Mine.top.o_282 P) (.node (Mine.top.o_711 P) .nil .nil) (.node (Mine.top.o_1195 P) .nil .nil)) (.node (Mine.top.o_583 P) (.node (Mine.top.o_1061 P) .nil .nil) .nil)) (.node (Mine.top.o_218 P) (.node (Mine.top.o_346 P) (.node (Mine.top.o_775 P) .nil .nil) .nil) (.node (Mine.top.o_647 P) (.node (Mine.top.o_1125 P) .nil .nil) .nil))) (.node (Mine.top.o_107 P) (.node (Mine.top.o_186 P) (.node (Mine.top.o_314 P) (.node (Mine.top.o_743 P) .nil .nil) (.node (Mine.top.o_1227 P) .nil .nil)) (.node (Mine.top.o_615 P) (.node (Mine.top.o_1093 P) .nil .nil) .nil)) (.node (Mine.top.o_250 P) (.node (Mine.top.o_378 P) (.node (Mine.top.o_807 P) .nil .nil) .nil) (.node (Mine.top.o_679 P) (.node (Mine.top.o_1160 P) .nil .nil) .nil)))) (.node (Mine.top.o_50 P) (.node (Mine.top.o_87 P) (.node (Mine.top.o_166 P) (.node (Mine.top.o_298 P) (.node (Mine.top.o_727 P) .nil .nil) (.node (Mine.top.o_1211 P) .nil .nil)) (.node (Mine.top.o_599 P) (.node (Mine.top.o_1077 P) .nil .nil) .nil)) (.node (Mine.top.o_234 P) (.node (Mine.top.o_362 P) (.node (Mine.top.o_791 P) .nil .nil) .nil) (.node (Mine.top.o_663 P) (.node (Mine.top.o_1144 P) .nil .nil) .nil))) (.node (Mine.top.o_126 P) (.node (Mine.top.o_202 P) (.node (Mine.top.o_330 P) (.node (Mine.top.o_759 P) .nil .nil) (.node (t821 P) .nil .nil)) (.node (Mine.top.o_631 P) (.node (Mine.top.o_1109 P) .nil .nil) .nil)) (.node (Mine.top.o_266 P) (.node (Mine.top.o_394 P) (.node (Mine.top.o_823 P) .nil .nil) .nil) (.node (Mine.top.o_695 P) (.node (Mine.top.o_1179 P) .nil .nil) .nil))))) (.node (Mine.top.o_22 P) (.node (Mine.top.o_62 P) (.node (Mine.top.o_79 P) (.node (Mine.top.o_154 P) (.node (Mine.top.o_290 P) (.node (Mine.top.o_719 P) .nil .nil) (.node (Mine.top.o_1203 P) .nil .nil)) (.node (Mine.top.o_591 P) (.node (Mine.top.o_1069 P) .nil .nil) .nil)) (.node (Mine.top.o_226 P) (.node (Mine.top.o_354 P) (.node (Mine.top.o_783 P) .nil .nil) .nil) (.node (Mine.top.o_655 P) (.node (Mine.top.o_1136 P) .nil .nil) .nil))) (.node (Mine.top.o_118 P) (.node (Mine.top.o_194 P) (.node (Mine.top.o_322 P) (.node (Mine.top.o_751 P) .nil .nil) (.node (Mine.top.o_1235 P) .nil .nil)) (.node (Mine.top.o_623 P) (.node (Mine.top.o_1101 P) .nil .nil) .nil)) (.node (Mine.top.o_258 P) (.node (Mine.top.o_386 P) (.node (Mine.top.o_815 P) .nil .nil) .nil) (.node (Mine.top.o_687 P) (.node (Mine.top.o_1168 P) .nil .nil) .nil)))) (.node (Mine.top.o_63 P) (.node (Mine.top.o_95 P) (.node (Mine.top.o_178 P) (.node (Mine.top.o_306 P) (.node (Mine.top.o_735 P) .nil .nil) (.node (Mine.top.o_1219 P) .nil .nil)) (.node (Mine.top.o_607 P) (.node (Mine.top.o_1085 P) .nil .nil) .nil)) (.node (Mine.top.o_242 P) (.node (Mine.top.o_370 P) (.node (Mine.top.o_799 P) .nil .nil) .nil) (.node (Mine.top.o_671 P) (.node (Mine.top.o_1152 P) .nil .nil) .nil))) (.node (Mine.top.o_134 P) (.node (Mine.top.o_210 P) (.node (Mine.top.o_338 P) (.node (Mine.top.o_767 P) .nil .nil) (.node (t829 P) .nil .nil)) (.node (Mine.top.o_639 P) (.node (Mine.top.o_1117 P) .nil .nil) .nil)) (.node (Mine.top.o_274 P) (.node (Mine.top.o_402 P) (.node (Mine.top.o_1053 P) .nil .nil) .nil) (.node (Mine.top.o_703 P) (.node (Mine.top.o_1187 P) .nil .nil) .nil)))))))) (.node (Mine.top.o_98 P) (.node (PySem.W.boot_o_4 P) (.node (PySem.W.boot_o_8 P) (.node (Mine.top.o_9 P) (.node (Mine.top.o_25 P) (.node (Mine.top.o_66 P) (.node (Mine.top.o_137 P) (.node (Mine.top.o_277 P) (.node (Mine.top.o_706 P) .nil .nil) (.node (Mine.top.o_1190 P) .nil .nil)) (.node (Mine.top.o_578 P) (.node (Mine.top.o_1056 P) .nil .nil) .nil)) (.node (Mine.top.o_213 P) (.node (Mine.top.o_341 P) (.node (Mine.top.o_770 P) .nil .nil) (.node (t832 P) .nil .nil)) (.node (Mine.top.o_642 P) (.node (Mine.top.o_1120 P) .nil .nil) .nil))) (.node (Mine.top.o_102 P) (.node (Mine.top.o_181 P) (.node (Mine.top.o_309 P) (.node (Mine.top.o_738 P) .nil .nil) (.node (Mine.top.o_1222 P) .nil .nil)) (.node (Mine.top.o_610 P) (.node (Mine.top.o_1088 P) .nil .nil) .nil)) (.node (Mine.top.o_245 P) (.node (Mine.top.o_373 P) (.node (Mine.top.o_802 P) .nil .nil) .nil) (.node (Mine.top.o_674 P) (.node (Mine.top.o_1155 P) .nil .nil) .nil)))) (.node (Mine.top.o_41 P) (.node (Mine.top.o_82 P) (.node (Mine.top.o_161 P) (.node (Mine.top.o_293 P) (.node (Mine.top.o_722 P) .nil .nil) (.node (Mine.top.o_1206 P) .nil .nil)) (.node (Mine.top.o_594 P) (.node (Mine.top.o_1072 P) .nil .nil) .nil)) (.node (Mine.top.o_229 P) (.node (Mine.top.o_357 P) (.node (Mine.top.o_786 P) .nil .nil) .nil) (.node (Mine.top.o_658 P) (.node (Mine.top.o_1139 P) .nil .nil) .nil))) (.node (Mine.top.o_121 P) (.node (Mine.top.o_197 P) (.node (Mine.top.o_325 P) (.node (Mine.top.o_754 P) .nil .nil) (.node (t816 P) .nil .nil)) (.node (Mine.top.o_626 P) (.node (Mine.top.o_1104 P) .nil .nil) .nil)) (.node (Mine.top.o_261 P) (.node (Mine.top.o_389 P) (.node (Mine.top.o_818 P) .nil .nil) .nil) (.node (Mine.top.o_690 P) (.node (Mine.top.o_1171 P) .nil .nil) .nil))))) (.node (Mine.top.o_17 P) (.node (Mine.top.o_33 P) (.node (Mine.top.o_74 P) (.node (Mine.top.o_149 P) (.node (Mine.top.o_285 P) (.node (Mine.top.o_714 P) .nil .nil) (.node (Mine.top.o_1198 P) .nil .nil)) (.node (Mine.top.o_586 P) (.node (Mine.top.o_1064 P) .nil .nil) .nil)) (.node (Mine.top.o_221 P) (.node (Mine.top.o_349 P) (.node (Mine.top.o_778 P) .nil .nil) .nil) (.node (Mine.top.o_650 P) (.node (Mine.top.o_1128 P) .nil .nil) .nil))) (.node (Mine.top.o_110 P) (.node (Mine.top.o_189 P) (.node (Mine.top.o_317 P) (.node (Mine.top.o_746 P) .nil .nil) (.node (Mine.top.o_1230 P) .nil .nil)) (.node (Mine.top.o_618 P) (.node (Mine.top.o_1096 P) .nil .nil) .nil)) (.node (Mine.top.o_253 P) (.node (Mine.top.o_381 P) (.node (Mine.top.o_810 P) .nil .nil) .nil) (.node (Mine.top.o_682 P) (.node (Mine.top.o_1163 P) .nil .nil) .nil)))) (.node (Mine.top.o_53 P) (.node (Mine.top.o_90 P) (.node (Mine.top.o_169 P) (.node (Mine.top.o_301 P) (.node (Mine.top.o_730 P) .nil .nil) (.node (Mine.top.o_1214 P) .nil .nil)) (.node (Mine.top.o_602 P) (.node (Mine.top.o_1080 P) .nil .nil) .nil)) (.node (Mine.top.o_237 P) (.node (Mine.top.o_365 P) (.node (Mine.top.o_794 P) .nil .nil) .nil) (.node (Mine.top.o_666 P) (.node (Mine.top.o_1147 P) .nil .nil) .nil))) (.node (Mine.top.o_129 P) (.node (Mine.top.o_205 P) (.node (Mine.top.o_333 P) (.node (Mine.top.o_762 P) .nil .nil) (.node (t824 P) .nil .nil)) (.node (Mine.top.o_634 P) (.node (Mine.top.o_1112 P) .nil .nil) .nil)) (.node (Mine.top.o_269 P) (.node (Mine.top.o_397 P) (.node (Mine.top.o_1048 P) .nil .nil) .nil) (.node (Mine.top.o_698 P) (.node (Mine.top.o_1182 P) .nil .nil) .nil)))))) (.node (t12B P) (.node (Mine.top.o_13 P) (.node (Mine.top.o_29 P) (.node (Mine.top.o_70 P) (.node (Mine.top.o_145 P) (.node (Mine.top.o_281 P) (.node (Mine.top.o_710 P) .nil .nil) (.node (Mine.top.o_1194 P) .nil .nil)) (.node (Mine.top.o_582 P) (.node (Mine.top.o_1060 P) .nil .nil) .nil)) (.node (Mine.top.o_217 P) (.node (Mine.top.o_345 P) (.node (Mine.top.o_774 P) .nil .nil) .nil) (.node (Mine.top.o_646 P) (.node (Mine.top.o_1124 P) .nil .nil) .nil))) (.node (Mine.top.o_106 P) (.node (Mine.top.o_185 P) (.node (Mine.top.o_313 P) (.node (Mine.top.o_742 P) .nil .nil) (.node (Mine.top.o_1226 P) .nil .nil)) (.node (Mine.top.o_614 P) (.node (Mine.top.o_1092 P) .nil .nil) .nil)) (.node (Mine.top.o_249 P) (.node (Mine.top.o_377 P) (.node (Mine.top.o_806 P) .nil .nil) .nil) (.node (Mine.top.o_678 P) (.node (Mine.top.o_1159 P) .nil .nil) .nil)))) (.node (Mine.top.o_49 P) (.node (Mine.top.o_86 P) (.node (Mine.top.o_165 P) (.node (Mine.top.o_297 P) (.node (Mine.top.o_726 P) .nil .nil) (.node (Mine.top.o_1210 P) .nil .nil)) (.node (Mine.top.o_598 P) (.node (Mine.top.o_1076 P) .nil .nil) .nil)) (.node (Mine.top.o_233 P) (.node (Mine.top.o_361 P) (.node (Mine.top.o_790 P) .nil .nil) .nil) (.node (Mine.top.o_662 P) (.node (Mine.top.o_1143 P) .nil .nil) .nil))) (.node (Mine.top.o_125 P) (.node (Mine.top.o_201 P) (.node (Mine.top.o_329 P) (.node (Mine.top.o_758 P) .nil .nil) (.node (t820 P) .nil .nil)) (.node (Mine.top.o_630 P) (.node (Mine.top.o_1108 P) .nil .nil) .nil)) (.node (Mine.top.o_265 P) (.node (Mine.top.o_393 P) (.node (Mine.top.o_822 P) .nil .nil) .nil) (.node (Mine.top.o_694 P) (.node (Mine.top.o_1175 P) .nil .nil) .nil))))) (.node (Mine.top.o_21 P) (.node (Mine.top.o_37 P) (.node (Mine.top.o_78 P) (.node (Mine.top.o_153 P) (.node (Mine.top.o_289 P) (.node (Mine.top.o_718 P) .nil .nil) (.node (Mine.top.o_1202 P) .nil .nil)) (.node (Mine.top.o_590 P) (.node (Mine.top.o_1068 P) .nil .nil) .nil)) (.node (Mine.top.o_225 P) (.node (Mine.top.o_353 P) (.node (Mine.top.o_782 P) .nil .nil) .nil) (.node (Mine.top.o_654 P) (.node (Mine.top.o_1135 P) .nil .nil) .nil))) (.node (Mine.top.o_117 P) (.node (Mine.top.o_193 P) (.node (Mine.top.o_321 P) (.node (Mine.top.o_750 P) .nil .nil) (.node (Mine.top.o_1234 P) .nil .nil)) (.node (Mine.top.o_622 P) (.node (Mine.top.o_1100 P) .nil .nil) .nil)) (.node (Mine.top.o_257 P) (.node (Mine.top.o_385 P) (.node (Mine.top.o_814 P) .nil .nil) .nil) (.node (Mine.top.o_686 P) (.node (Mine.top.o_1167 P) .nil .nil) .nil)))) (.node (Mine.top.o_57 P) (.node (Mine.top.o_94 P) (.node (Mine.top.o_177 P) (.node (Mine.top.o_305 P) (.node (Mine.top.o_734 P) .nil .nil) (.node (Mine.top.o_1218 P) .nil .nil)) (.node (Mine.top.o_606 P) (.node (Mine.top.o_1084 P) .nil .nil) .nil)) (.node (Mine.top.o_241 P) (.node (Mine.top.o_369 P) (.node (Mine.top.o_798 P) .nil .nil) .nil) (.node (Mine.top.o_670 P) (.node (Mine.top.o_1151 P) .nil .nil) .nil))) (.node (Mine.top.o_158 P) (.node (Mine.top.o_209 P) (.node (Mine.top.o_337 P) (.node (Mine.top.o_766 P) .nil .nil) (.node (t828 P) .nil .nil)) (.node (Mine.top.o_638 P) (.node (Mine.top.o_1116 P) .nil .nil) .nil)) (.node (Mine.top.o_273 P) (.node (Mine.top.o_401 P) (.node (Mine.top.o_1052 P) .nil .nil) .nil) (.node (Mine.top.o_702 P) (.node (Mine.top.o_1186 P) .nil .nil) .nil))))))) (.node (PySem.W.boot_o_6 P) (.node (PySem.W.boot_o_10 P) (.node (Mine.top.o_11 P) (.node (Mine.top.o_27 P) (.node (Mine.top.o_68 P) (.node (Mine.top.o_143 P) (.node (Mine.top.o_279 P) (.node (Mine.top.o_708 P) .nil .nil) (.node (Mine.top.o_1192 P) .nil .nil)) (.node (Mine.top.o_580 P) (.node (Mine.top.o_1058 P) .nil .nil) .nil)) (.node (Mine.top.o_215 P) (.node (Mine.top.o_343 P) (.node (Mine.top.o_772 P) .nil .nil) .nil) (.node (Mine.top.o_644 P) (.node (Mine.top.o_1122 P) .nil .nil) .nil))) (.node (Mine.top.o_104 P) (.node (Mine.top.o_183 P) (.node (Mine.top.o_311 P) (.node (Mine.top.o_740 P) .nil .nil) (.node (Mine.top.o_1224 P) .nil .nil)) (.node (Mine.top.o_612 P) (.node (Mine.top.o_1090 P) .nil .nil) .nil)) (.node (Mine.top.o_247 P) (.node (Mine.top.o_375 P) (.node (Mine.top.o_804 P) .nil .nil) .nil) (.node (Mine.top.o_676 P) (.node (Mine.top.o_1157 P) .nil .nil) .nil)))) (.node (Mine.top.o_47 P) (.node (Mine.top.o_84 P) (.node (Mine.top.o_163 P) (.node (Mine.top.o_295 P) (.node (Mine.top.o_724 P) .nil .nil) (.node (Mine.top.o_1208 P) .nil .nil)) (.node (Mine.top.o_596 P) (.node (Mine.top.o_1074 P) .nil .nil) .nil)) (.node (Mine.top.o_231 P) (.node (Mine.top.o_359 P) (.node (Mine.top.o_788 P) .nil .nil) .nil) (.node (Mine.top.o_660 P) (.node (Mine.top.o_1141 P) .nil .nil) .nil))) (.node (Mine.top.o_123 P) (.node (Mine.top.o_199 P) (.node (Mine.top.o_327 P) (.node (Mine.top.o_756 P) .nil .nil) (.node (t818 P) .nil .nil)) (.node (Mine.top.o_628 P) (.node (Mine.top.o_1106 P) .nil .nil) .nil)) (.node (Mine.top.o_263 P) (.node (Mine.top.o_391 P) (.node (Mine.top.o_820 P) .nil .nil) .nil) (.node (Mine.top.o_692 P) (.node (Mine.top.o_1173 P) .nil .nil) .nil))))) (.node (Mine.top.o_19 P) (.node (Mine.top.o_35 P) (.node (Mine.top.o_76 P) (.node (Mine.top.o_151 P) (.node (Mine.top.o_287 P) (.node (Mine.top.o_716 P) .nil .nil) (.node (Mine.top.o_1200 P) .nil .nil)) (.node (Mine.top.o_588 P) (.node (Mine.top.o_1066 P) .nil .nil) .nil)) (.node (Mine.top.o_223 P) (.node (Mine.top.o_351 P) (.node (Mine.top.o_780 P) .nil .nil) .nil) (.node (Mine.top.o_652 P) (.node (Mine.top.o_1133 P) .nil .nil) .nil))) (.node (Mine.top.o_112 P) (.node (Mine.top.o_191 P) (.node (Mine.top.o_319 P) (.node (Mine.top.o_748 P) .nil .nil) (.node (Mine.top.o_1232 P) .nil .nil)) (.node (Mine.top.o_620 P) (.node (Mine.top.o_1098 P) .nil .nil) .nil)) (.node (Mine.top.o_255 P) (.node (Mine.top.o_383 P) (.node (Mine.top.o_812 P) .nil .nil) .nil) (.node (Mine.top.o_684 P) (.node (Mine.top.o_1165 P) .nil .nil) .nil)))) (.node (Mine.top.o_55 P) (.node (Mine.top.o_92 P) (.node (Mine.top.o_175 P) (.node (Mine.top.o_303 P) (.node (Mine.top.o_732 P) .nil .nil) (.node (Mine.top.o_1216 P) .nil .nil)) (.node (Mine.top.o_604 P) (.node (Mine.top.o_1082 P) .nil .nil) .nil)) (.node (Mine.top.o_239 P) (.node (Mine.top.o_367 P) (.node (Mine.top.o_796 P) .nil .nil) .nil) (.node (Mine.top.o_668 P) (.node (Mine.top.o_1149 P) .nil .nil) .nil))) (.node (Mine.top.o_131 P) (.node (Mine.top.o_207 P) (.node (Mine.top.o_335 P) (.node (Mine.top.o_764 P) .nil .nil) (.node (t826 P) .nil .nil)) (.node (Mine.top.o_636 P) (.node (Mine.top.o_1114 P) .nil .nil) .nil)) (.node (Mine.top.o_271 P) (.node (Mine.top.o_399 P) (.node (Mine.top.o_1050 P) .nil .nil) .nil) (.node (Mine.top.o_700 P) (.node (Mine.top.o_1184 P) .nil .nil) .nil)))))) (.node (Mine.top.o_4 P) (.node (Mine.top.o_15 P) (.node (Mine.top.o_31 P) (.node (Mine.top.o_72 P) (.node (Mine.top.o_147 P) (.node (Mine.top.o_283 P) (.node (Mine.top.o_712 P) .nil .nil) (.node (Mine.top.o_1196 P) .nil .nil)) (.node (Mine.top.o_584 P) (.node (Mine.top.o_1062 P) .nil .nil) .nil)) (.node (Mine.top.o_219 P) (.node (Mine.top.o_347 P) (.node (Mine.top.o_776 P) .nil .nil) .nil) (.node (Mine.top.o_648 P) (.node (Mine.top.o_1126 P) .nil .nil) .nil))) (.node (Mine.top.o_108 P) (.node (Mine.top.o_187 P) (.node (Mine.top.o_315 P) (.node (Mine.top.o_744 P) .nil .nil) (.node (Mine.top.o_1228 P) .nil .nil)) (.node (Mine.top.o_616 P) (.node (Mine.top.o_1094 P) .nil .nil) .nil)) (.node (Mine.top.o_251 P) (.node (Mine.top.o_379 P) (.node (Mine.top.o_808 P) .nil .nil) .nil) (.node (Mine.top.o_680 P) (.node (Mine.top.o_1161 P) .nil .nil) .nil)))) (.node (Mine.top.o_51 P) (.node (Mine.top.o_88 P) (.node (Mine.top.o_167 P) (.node (Mine.top.o_299 P) (.node (Mine.top.o_728 P) .nil .nil) (.node (Mine.top.o_1212 P) .nil .nil)) (.node (Mine.top.o_600 P) (.node (Mine.top.o_1078 P) .nil .nil) .nil)) (.node (Mine.top.o_235 P) (.node (Mine.top.o_363 P) (.node (Mine.top.o_792 P) .nil .nil) .nil) (.node (Mine.top.o_664 P) (.node (Mine.top.o_1145 P) .nil .nil) .nil))) (.node (Mine.top.o_127 P) (.node (Mine.top.o_203 P) (.node (Mine.top.o_331 P) (.node (Mine.top.o_760 P) .nil .nil) (.node (t822 P) .nil .nil)) (.node (Mine.top.o_632 P) (.node (Mine.top.o_1110 P) .nil .nil) .nil)) (.node (Mine.top.o_267 P) (.node (Mine.top.o_395 P) (.node (Mine.top.o_824 P) .nil .nil) .nil) (.node (Mine.top.o_696 P) (.node (Mine.top.o_1180 P) .nil .nil) .nil))))) (.node (Mine.top.o_23 P) (.node (Mine.top.o_39 P) (.node (Mine.top.o_80 P) (.node (Mine.top.o_159 P) (.node (Mine.top.o_291 P) (.node (Mine.top.o_720 P) .nil .nil) (.node (Mine.top.o_1204 P) .nil .nil)) (.node (Mine.top.o_592 P) (.node (Mine.top.o_1070 P) .nil .nil) .nil)) (.node (Mine.top.o_227 P) (.node (Mine.top.o_355 P) (.node (Mine.top.o_784 P) .nil .nil) .nil) (.node (Mine.top.o_656 P) (.node (Mine.top.o_1137 P) .nil .nil) .nil))) (.node (Mine.top.o_119 P) (.node (Mine.top.o_195 P) (.node (Mine.top.o_323 P) (.node (Mine.top.o_752 P) .nil .nil) (.node (Mine.top.o_1236 P) .nil .nil)) (.node (Mine.top.o_624 P) (.node (Mine.top.o_1102 P) .nil .nil) .nil)) (.node (Mine.top.o_259 P) (.node (Mine.top.o_387 P) (.node (Mine.top.o_816 P) .nil .nil) .nil) (.node (Mine.top.o_688 P) (.node (Mine.top.o_1169 P) .nil .nil) .nil)))) (.node (Mine.top.o_64 P) (.node (Mine.top.o_96 P) (.node (Mine.top.o_179 P) (.node (Mine.top.o_307 P) (.node (Mine.top.o_736 P) .nil .nil) (.node (Mine.top.o_1220 P) .nil .nil)) (.node (Mine.top.o_608 P) (.node (Mine.top.o_1086 P) .nil .nil) .nil)) (.node (Mine.top.o_243 P) (.node (Mine.top.o_371 P) (.node (Mine.top.o_800 P) .nil .nil) .nil) (.node (Mine.top.o_672 P) (.node (Mine.top.o_1153 P) .nil .nil) .nil))) (.node (Mine.top.o_135 P) (.node (Mine.top.o_211 P) (.node (Mine.top.o_339 P) (.node (Mine.top.o_768 P) .nil .nil) (.node (t830 P) .nil .nil)) (.node (Mine.top.o_640 P) (.node (Mine.top.o_1118 P) .nil .nil) .nil)) (.node (Mine.top.o_275 P) (.node (Mine.top.o_403 P) (.node (Mine.top.o_1054 P) .nil .nil) .nil) (.node (Mine.top.o_704 P) (.node (Mine.top.o_1188 P) .nil .nil) .nil)))))))))
noncomputable def posB : Pos := (PySem.Pos.mk 661 0 663 61)
-- B: 53..59 steps 105 objs 833 toks 1234 gens 0
noncomputable def t3C : Params → Obj := fun P =>
  PySem.Obj.mk (PySem.Value.type "dict") Option.none
    (PySem.Data.dict
      #[PySem.DictEntry.mk (PySem.PyData.keyHash P (PySem.Str.ofString "__name__")) (PySem.Value.str (PySem.Str.ofString "__name__") 165) (PySem.Value.str (PySem.Str.ofString "btclib.script.sig_ops") 1193),
        PySem.DictEntry.mk (PySem.PyData.keyHash P (PySem.Str.ofString "__doc__")) (PySem.Value.str (PySem.Str.ofString "__doc__") 166) PySem.Value.none,
        PySem.DictEntry.mk (PySem.PyData.keyHash P (PySem.Str.ofString "__package__")) (PySem.Value.str (PySem.Str.ofString "__package__") 167) PySem.Value.none,
        PySem.DictEntry.mk (PySem.PyData.keyHash P (PySem.Str.ofString "__loader__")) (PySem.Value.str (PySem.Str.ofString "__loader__") 168) (PySem.Value.builtin "__main__.__loader__#opaque"),
        PySem.DictEntry.mk (PySem.PyData.keyHash P (PySem.Str.ofString "__spec__")) (PySem.Value.str (PySem.Str.ofString "__spec__") 169) PySem.Value.none,
        PySem.DictEntry.mk (PySem.PyData.keyHash P (PySem.Str.ofString "__annotations__")) (PySem.Value.str (PySem.Str.ofString "__annotations__") 170) (PySem.Value.ref 6),
        PySem.DictEntry.mk (PySem.PyData.keyHash P (PySem.Str.ofString "__builtins__")) (PySem.Value.str (PySem.Str.ofString "__builtins__") 171) (PySem.Value.ref 4),
        PySem.DictEntry.mk (PySem.PyData.keyHash P (PySem.Str.ofString "__file__")) (PySem.Value.str (PySem.Str.ofString "__file__") 173) (PySem.Value.str (PySem.Str.ofString "/claim/cut.py") 172),
        PySem.DictEntry.mk (PySem.PyData.keyHash P (PySem.Str.ofString "__cached__")) (PySem.Value.str (PySem.Str.ofString "__cached__") 174) PySem.Value.none,
        PySem.DictEntry.mk (PySem.PyData.keyHash P (PySem.Str.ofString "_wall")) (PySem.Value.str (PySem.Str.ofString "_wall") 193) (PySem.Value.ref 21),
        PySem.DictEntry.mk (PySem.PyData.keyHash P (PySem.Str.ofString "MAX_PUBKEYS_PER_MULTISIG")) (PySem.Value.str (PySem.Str.ofString "MAX_PUBKEYS_PER_MULTISIG") 195) (PySem.Value.int 20 194),
        PySem.DictEntry.mk (PySem.PyData.keyHash P (PySem.Str.ofString "read_op_code")) (PySem.Value.str (PySem.Str.ofString "read_op_code") 209) (PySem.Value.ref 28),
        PySem.DictEntry.mk (PySem.PyData.keyHash P (PySem.Str.ofString "op_code_spans")) (PySem.Value.str (PySem.Str.ofString "op_code_spans") 220) (PySem.Value.ref 35),
        PySem.DictEntry.mk (PySem.PyData.keyHash P (PySem.Str.ofString "BTClibException")) (PySem.Value.str (PySem.Str.ofString "BTClibException") 242) (PySem.Value.ref 45),
        PySem.DictEntry.mk (PySem.PyData.keyHash P (PySem.Str.ofString "BTClibValueError")) (PySem.Value.str (PySem.Str.ofString "BTClibValueError") 258) (PySem.Value.ref 58),
        PySem.DictEntry.mk (PySem.PyData.keyHash P (PySem.Str.ofString "BTClibTypeError")) (PySem.Value.str (PySem.Str.ofString "BTClibTypeError") 276) (PySem.Value.ref 70),
        PySem.DictEntry.mk (PySem.PyData.keyHash P (PySem.Str.ofString "bytes_from_octets")) (PySem.Value.str (PySem.Str.ofString "bytes_from_octets") 290) (PySem.Value.ref 80),
        PySem.DictEntry.mk (PySem.PyData.keyHash P (PySem.Str.ofString "_whence")) (PySem.Value.str (PySem.Str.ofString "_whence") 300) (PySem.Value.ref 87),
        PySem.DictEntry.mk (PySem.PyData.keyHash P (PySem.Str.ofString "_index")) (PySem.Value.str (PySem.Str.ofString "_index") 308) (PySem.Value.ref 94),
        PySem.DictEntry.mk (PySem.PyData.keyHash P (PySem.Str.ofString "UnsupportedOperation")) (PySem.Value.str (PySem.Str.ofString "UnsupportedOperation") 330) (PySem.Value.ref 104),
        PySem.DictEntry.mk (PySem.PyData.keyHash P (PySem.Str.ofString "IOBase")) (PySem.Value.str (PySem.Str.ofString "IOBase") 362) (PySem.Value.ref 124),
        PySem.DictEntry.mk (PySem.PyData.keyHash P (PySem.Str.ofString "BufferedIOBase")) (PySem.Value.str (PySem.Str.ofString "BufferedIOBase") 380) (PySem.Value.ref 139),
        PySem.DictEntry.mk (PySem.PyData.keyHash P (PySem.Str.ofString "TextIOBase")) (PySem.Value.str (PySem.Str.ofString "TextIOBase") 398) (PySem.Value.ref 151),
        PySem.DictEntry.mk (PySem.PyData.keyHash P (PySem.Str.ofString "BytesIO")) (PySem.Value.str (PySem.Str.ofString "BytesIO") 660) (PySem.Value.ref 381),
        PySem.DictEntry.mk (PySem.PyData.keyHash P (PySem.Str.ofString "StringIO")) (PySem.Value.str (PySem.Str.ofString "StringIO") 947) (PySem.Value.ref 628),
        PySem.DictEntry.mk (PySem.PyData.keyHash P (PySem.Str.ofString "bytesio_from_binarydata")) (PySem.Value.str (PySem.Str.ofString "bytesio_from_binarydata") 956) (PySem.Value.ref 637),
        PySem.DictEntry.mk (PySem.PyData.keyHash P (PySem.Str.ofString "assert_no_trailing")) (PySem.Value.str (PySem.Str.ofString "assert_no_trailing") 966) (PySem.Value.ref 644),
        PySem.DictEntry.mk (PySem.PyData.keyHash P (PySem.Str.ofString "_message_text")) (PySem.Value.str (PySem.Str.ofString "_message_text") 973) (PySem.Value.ref 651),
        PySem.DictEntry.mk (PySem.PyData.keyHash P (PySem.Str.ofString "is_integer")) (PySem.Value.str (PySem.Str.ofString "is_integer") 980) (PySem.Value.ref 658),
        PySem.DictEntry.mk (PySem.PyData.keyHash P (PySem.Str.ofString "is_octets")) (PySem.Value.str (PySem.Str.ofString "is_octets") 987) (PySem.Value.ref 665),
        PySem.DictEntry.mk (PySem.PyData.keyHash P (PySem.Str.ofString "assert_type")) (PySem.Value.str (PySem.Str.ofString "assert_type") 996) (PySem.Value.ref 672),
        PySem.DictEntry.mk (PySem.PyData.keyHash P (PySem.Str.ofString "int_from_integer")) (PySem.Value.str (PySem.Str.ofString "int_from_integer") 1006) (PySem.Value.ref 679),
        PySem.DictEntry.mk (PySem.PyData.keyHash P (PySem.Str.ofString "hex_string")) (PySem.Value.str (PySem.Str.ofString "hex_string") 1012) (PySem.Value.ref 684),
        PySem.DictEntry.mk (PySem.PyData.keyHash P (PySem.Str.ofString "_is_funct")) (PySem.Value.str (PySem.Str.ofString "_is_funct") 1022) (PySem.Value.ref 691),
        PySem.DictEntry.mk (PySem.PyData.keyHash P (PySem.Str.ofString "assert_p2sh")) (PySem.Value.str (PySem.Str.ofString "assert_p2sh") 1030) (PySem.Value.ref 698),
        PySem.DictEntry.mk (PySem.PyData.keyHash P (PySem.Str.ofString "is_p2sh")) (PySem.Value.str (PySem.Str.ofString "is_p2sh") 1037) (PySem.Value.ref 705),
        PySem.DictEntry.mk (PySem.PyData.keyHash P (PySem.Str.ofString "assert_segwit")) (PySem.Value.str (PySem.Str.ofString "assert_segwit") 1044) (PySem.Value.ref 712),
        PySem.DictEntry.mk (PySem.PyData.keyHash P (PySem.Str.ofString "is_segwit")) (PySem.Value.str (PySem.Str.ofString "is_segwit") 1051) (PySem.Value.ref 719),
        PySem.DictEntry.mk (PySem.PyData.keyHash P (PySem.Str.ofString "MAX_SIZE")) (PySem.Value.str (PySem.Str.ofString "MAX_SIZE") 1055) (PySem.Value.int 33554432 1054),
        PySem.DictEntry.mk (PySem.PyData.keyHash P (PySem.Str.ofString "_parse_number")) (PySem.Value.str (PySem.Str.ofString "_parse_number") 1067) (PySem.Value.ref 726),
        PySem.DictEntry.mk (PySem.PyData.keyHash P (PySem.Str.ofString "parse")) (PySem.Value.str (PySem.Str.ofString "parse") 1078) (PySem.Value.ref 749),
        PySem.DictEntry.mk (PySem.PyData.keyHash P (PySem.Str.ofString "parse_var_int")) (PySem.Value.str (PySem.Str.ofString "parse_var_int") 1079) (PySem.Value.ref 734),
        PySem.DictEntry.mk (PySem.PyData.keyHash P (PySem.Str.ofString "serialize")) (PySem.Value.str (PySem.Str.ofString "serialize") 1086) (PySem.Value.ref 756),
        PySem.DictEntry.mk (PySem.PyData.keyHash P (PySem.Str.ofString "serialize_var_int")) (PySem.Value.str (PySem.Str.ofString "serialize_var_int") 1087) (PySem.Value.ref 741),
        PySem.DictEntry.mk (PySem.PyData.keyHash P (PySem.Str.ofString "parse_var_bytes")) (PySem.Value.str (PySem.Str.ofString "parse_var_bytes") 1100) (PySem.Value.ref 749),
        PySem.DictEntry.mk (PySem.PyData.keyHash P (PySem.Str.ofString "serialize_var_bytes")) (PySem.Value.str (PySem.Str.ofString "serialize_var_bytes") 1109) (PySem.Value.ref 756),
        PySem.DictEntry.mk (PySem.PyData.keyHash P (PySem.Str.ofString "MAX_WITNESS_STACK_ITEMS")) (PySem.Value.str (PySem.Str.ofString "MAX_WITNESS_STACK_ITEMS") 1111) (PySem.Value.int 4000000 1110),
        PySem.DictEntry.mk (PySem.PyData.keyHash P (PySem.Str.ofString "Witness")) (PySem.Value.str (PySem.Str.ofString "Witness") 1192) (PySem.Value.ref 811),
        PySem.DictEntry.mk (PySem.PyData.keyHash P (PySem.Str.ofString "_CHECKSIG")) (PySem.Value.str (PySem.Str.ofString "_CHECKSIG") 1199) (PySem.Value.ref 816),
        PySem.DictEntry.mk (PySem.PyData.keyHash P (PySem.Str.ofString "_CHECKMULTISIG")) (PySem.Value.str (PySem.Str.ofString "_CHECKMULTISIG") 1204) (PySem.Value.ref 817),
        PySem.DictEntry.mk (PySem.PyData.keyHash P (PySem.Str.ofString "_OP_PUSHDATA1")) (PySem.Value.str (PySem.Str.ofString "_OP_PUSHDATA1") 1206) (PySem.Value.int 76 1205),
        PySem.DictEntry.mk (PySem.PyData.keyHash P (PySem.Str.ofString "_OP_PUSHDATA4")) (PySem.Value.str (PySem.Str.ofString "_OP_PUSHDATA4") 1208) (PySem.Value.int 78 1207),
        PySem.DictEntry.mk (PySem.PyData.keyHash P (PySem.Str.ofString "_OP_1")) (PySem.Value.str (PySem.Str.ofString "_OP_1") 1210) (PySem.Value.int 81 1209),
        PySem.DictEntry.mk (PySem.PyData.keyHash P (PySem.Str.ofString "_OP_16")) (PySem.Value.str (PySem.Str.ofString "_OP_16") 1212) (PySem.Value.int 96 1211),
        PySem.DictEntry.mk (PySem.PyData.keyHash P (PySem.Str.ofString "_sig_op_count")) (PySem.Value.str (PySem.Str.ofString "_sig_op_count") 1224) (PySem.Value.ref 824),
        PySem.DictEntry.mk (PySem.PyData.keyHash P (PySem.Str.ofString "sig_op_count")) (PySem.Value.str (PySem.Str.ofString "sig_op_count") 1233) (PySem.Value.ref 832),
        PySem.DictEntry.mk (PySem.PyData.keyHash P (PySem.Str.ofString "_last_push")) (PySem.Value.str (PySem.Str.ofString "_last_push") 1246) (PySem.Value.ref 839),
        PySem.DictEntry.mk (PySem.PyData.keyHash P (PySem.Str.ofString "p2sh_sig_op_count")) (PySem.Value.str (PySem.Str.ofString "p2sh_sig_op_count") 1257) (PySem.Value.ref 846),
        PySem.DictEntry.mk (PySem.PyData.keyHash P (PySem.Str.ofString "_witness_program_sig_op_count")) (PySem.Value.str (PySem.Str.ofString "_witness_program_sig_op_count") 1265) (PySem.Value.ref 853),
        PySem.DictEntry.mk (PySem.PyData.keyHash P (PySem.Str.ofString "witness_sig_op_count")) (PySem.Value.str (PySem.Str.ofString "witness_sig_op_count") 1277) (PySem.Value.ref 860)]
      60)
    #[]
noncomputable def t12C : Params → Obj := fun P =>
  PySem.Obj.mk PySem.Value.none Option.none
    (PySem.Data.fields
      #[PySem.Value.int 1 0, PySem.Value.int 0 0, PySem.Value.ref 20, PySem.Value.int 6 0, PySem.Value.int 0 0, PySem.Value.ref 27, PySem.Value.int 23 0, PySem.Value.int 0 0, PySem.Value.ref 34, PySem.Value.int 30 0, PySem.Value.int 0 0,
        PySem.Value.ref 41, PySem.Value.int 32 0, PySem.Value.int 0 0, PySem.Value.ref 54, PySem.Value.int 34 0, PySem.Value.int 0 0, PySem.Value.ref 66, PySem.Value.int 37 0, PySem.Value.int 0 0, PySem.Value.ref 79, PySem.Value.int 68 0,
        PySem.Value.int 0 0, PySem.Value.ref 86, PySem.Value.int 73 0, PySem.Value.int 0 0, PySem.Value.ref 93, PySem.Value.int 80 0, PySem.Value.int 0 0, PySem.Value.ref 100, PySem.Value.int 82 0, PySem.Value.int 0 0, PySem.Value.ref 113,
        PySem.Value.int 89 0, PySem.Value.int 0 0, PySem.Value.ref 135, PySem.Value.int 91 0, PySem.Value.int 0 0, PySem.Value.ref 147, PySem.Value.int 93 0, PySem.Value.int 0 0, PySem.Value.ref 159, PySem.Value.int 263 0,
        PySem.Value.int 0 0, PySem.Value.ref 389, PySem.Value.int 469 0, PySem.Value.int 0 0, PySem.Value.ref 636, PySem.Value.int 473 0, PySem.Value.int 0 0, PySem.Value.ref 643, PySem.Value.int 479 0, PySem.Value.int 0 0,
        PySem.Value.ref 650, PySem.Value.int 481 0, PySem.Value.int 0 0, PySem.Value.ref 657, PySem.Value.int 483 0, PySem.Value.int 0 0, PySem.Value.ref 664, PySem.Value.int 485 0, PySem.Value.int 0 0, PySem.Value.ref 671,
        PySem.Value.int 488 0, PySem.Value.int 0 0, PySem.Value.ref 678, PySem.Value.int 505 0, PySem.Value.int 0 0, PySem.Value.ref 683, PySem.Value.int 517 0, PySem.Value.int 0 0, PySem.Value.ref 690, PySem.Value.int 523 0,
        PySem.Value.int 0 0, PySem.Value.ref 697, PySem.Value.int 533 0, PySem.Value.int 0 0, PySem.Value.ref 704, PySem.Value.int 535 0, PySem.Value.int 0 0, PySem.Value.ref 711, PySem.Value.int 545 0, PySem.Value.int 0 0,
        PySem.Value.ref 718, PySem.Value.int 549 0, PySem.Value.int 0 0, PySem.Value.ref 725, PySem.Value.int 558 0, PySem.Value.int 0 0, PySem.Value.ref 733, PySem.Value.int 577 0, PySem.Value.int 0 0, PySem.Value.ref 740,
        PySem.Value.int 593 0, PySem.Value.int 0 0, PySem.Value.ref 748, PySem.Value.int 603 0, PySem.Value.int 0 0, PySem.Value.ref 755, PySem.Value.int 609 0, PySem.Value.int 0 0, PySem.Value.ref 762, PySem.Value.int 648 0,
        PySem.Value.int 0 0, PySem.Value.ref 823, PySem.Value.int 661 0, PySem.Value.int 0 0, PySem.Value.ref 831, PySem.Value.int 664 0, PySem.Value.int 0 0, PySem.Value.ref 838, PySem.Value.int 676 0, PySem.Value.int 0 0,
        PySem.Value.ref 845, PySem.Value.int 685 0, PySem.Value.int 0 0, PySem.Value.ref 852, PySem.Value.int 692 0, PySem.Value.int 0 0, PySem.Value.ref 859])
    #[]
noncomputable def t833 : Params → Obj := fun P =>
  PySem.Obj.mk (PySem.Value.type "tuple") Option.none (PySem.Data.seq #[]) #[]
noncomputable def t834 : Params → Obj := fun P =>
  PySem.Obj.mk PySem.Value.none Option.none (PySem.Data.fields #[]) #[]
noncomputable def t835 : Params → Obj := fun P =>
  PySem.Obj.mk (PySem.Value.type "tuple") Option.none
    (PySem.Data.seq
      #[PySem.Value.str (PySem.Str.ofString "script_sig") 1237, PySem.Value.str (PySem.Str.ofString "data") 1238, PySem.Value.str (PySem.Str.ofString "end") 1239, PySem.Value.str (PySem.Str.ofString "op_code") 1240,
        PySem.Value.str (PySem.Str.ofString "start") 1241, PySem.Value.str (PySem.Str.ofString "stop") 1242, PySem.Value.str (PySem.Str.ofString "header") 1243])
    #[]
noncomputable def t836 : Params → Obj := fun P =>
  PySem.Obj.mk (PySem.Value.type "tuple") Option.none (PySem.Data.seq #[]) #[]
noncomputable def t838 : Params → Obj := fun P =>
  PySem.Obj.mk (PySem.Value.type "code") Option.none
    (PySem.Data.fields
      #[PySem.Value.str (PySem.Str.ofString "_last_push") 1234, PySem.Value.str (PySem.Str.ofString "_last_push") 1235, PySem.Value.str (PySem.Str.ofString "/claim/cut.py") 1236, PySem.Value.int 664 0, PySem.Value.int 1 0,
        PySem.Value.int 0 0, PySem.Value.int 0 0, PySem.Value.int 3 0, PySem.Value.ref 833, PySem.Value.bool Bool.true, PySem.Value.int 181 0, PySem.Value.ref 834, PySem.Value.none, PySem.Value.ref 835, PySem.Value.ref 836,
        PySem.Value.ref 837, PySem.Value.int 1244 0, PySem.Value.int 664 0, PySem.Value.str (PySem.Str.ofString "/claim/cut.py") 1245])
    #[]
noncomputable def t839 : Params → Obj := fun P =>
  PySem.Obj.mk (PySem.Value.type "function") Option.none (PySem.Data.func (fnS (nth pw.main.body 59) PySem.Value.none (PySem.Value.none) (PySem.Value.str (PySem.Str.ofString "btclib.script.sig_ops") 1193) (PySem.Value.ref 838))) #[]
noncomputable def t840 : Params → Obj := fun P =>
  PySem.Obj.mk (PySem.Value.type "tuple") Option.none (PySem.Data.seq #[]) #[]
noncomputable def t841 : Params → Obj := fun P =>
  PySem.Obj.mk PySem.Value.none Option.none (PySem.Data.fields #[]) #[]
noncomputable def t842 : Params → Obj := fun P =>
  PySem.Obj.mk (PySem.Value.type "tuple") Option.none
    (PySem.Data.seq
      #[PySem.Value.str (PySem.Str.ofString "script_sig") 1250, PySem.Value.str (PySem.Str.ofString "script_pub_key") 1251, PySem.Value.str (PySem.Str.ofString "script_sig_") 1252, PySem.Value.str (PySem.Str.ofString "script_pub_key_") 1253,
        PySem.Value.str (PySem.Str.ofString "redeem_script") 1254])
    #[]
noncomputable def t843 : Params → Obj := fun P =>
  PySem.Obj.mk (PySem.Value.type "tuple") Option.none (PySem.Data.seq #[]) #[]
noncomputable def t845 : Params → Obj := fun P =>
  PySem.Obj.mk (PySem.Value.type "code") Option.none
    (PySem.Data.fields
      #[PySem.Value.str (PySem.Str.ofString "p2sh_sig_op_count") 1247, PySem.Value.str (PySem.Str.ofString "p2sh_sig_op_count") 1248, PySem.Value.str (PySem.Str.ofString "/claim/cut.py") 1249, PySem.Value.int 676 0, PySem.Value.int 2 0,
        PySem.Value.int 0 0, PySem.Value.int 0 0, PySem.Value.int 3 0, PySem.Value.ref 840, PySem.Value.bool Bool.true, PySem.Value.int 181 0, PySem.Value.ref 841, PySem.Value.none, PySem.Value.ref 842, PySem.Value.ref 843,
        PySem.Value.ref 844, PySem.Value.int 1255 0, PySem.Value.int 676 0, PySem.Value.str (PySem.Str.ofString "/claim/cut.py") 1256])
    #[]
noncomputable def t846 : Params → Obj := fun P =>
  PySem.Obj.mk (PySem.Value.type "function") Option.none (PySem.Data.func (fnS (nth pw.main.body 60) PySem.Value.none (PySem.Value.none) (PySem.Value.str (PySem.Str.ofString "btclib.script.sig_ops") 1193) (PySem.Value.ref 845))) #[]
noncomputable def t847 : Params → Obj := fun P =>
  PySem.Obj.mk (PySem.Value.type "tuple") Option.none (PySem.Data.seq #[]) #[]
noncomputable def t848 : Params → Obj := fun P =>
  PySem.Obj.mk PySem.Value.none Option.none (PySem.Data.fields #[]) #[]
noncomputable def t849 : Params → Obj := fun P =>
  PySem.Obj.mk (PySem.Value.type "tuple") Option.none (PySem.Data.seq #[PySem.Value.str (PySem.Str.ofString "program") 1261, PySem.Value.str (PySem.Str.ofString "witness") 1262]) #[]
noncomputable def t850 : Params → Obj := fun P =>
  PySem.Obj.mk (PySem.Value.type "tuple") Option.none (PySem.Data.seq #[]) #[]
noncomputable def t852 : Params → Obj := fun P =>
  PySem.Obj.mk (PySem.Value.type "code") Option.none
    (PySem.Data.fields
      #[PySem.Value.str (PySem.Str.ofString "_witness_program_sig_op_count") 1258, PySem.Value.str (PySem.Str.ofString "_witness_program_sig_op_count") 1259, PySem.Value.str (PySem.Str.ofString "/claim/cut.py") 1260, PySem.Value.int 685 0,
        PySem.Value.int 2 0, PySem.Value.int 0 0, PySem.Value.int 0 0, PySem.Value.int 3 0, PySem.Value.ref 847, PySem.Value.bool Bool.true, PySem.Value.int 181 0, PySem.Value.ref 848, PySem.Value.none, PySem.Value.ref 849,
        PySem.Value.ref 850, PySem.Value.ref 851, PySem.Value.int 1263 0, PySem.Value.int 685 0, PySem.Value.str (PySem.Str.ofString "/claim/cut.py") 1264])
    #[]
noncomputable def t853 : Params → Obj := fun P =>
  PySem.Obj.mk (PySem.Value.type "function") Option.none (PySem.Data.func (fnS (nth pw.main.body 61) PySem.Value.none (PySem.Value.none) (PySem.Value.str (PySem.Str.ofString "btclib.script.sig_ops") 1193) (PySem.Value.ref 852))) #[]
noncomputable def t854 : Params → Obj := fun P =>
  PySem.Obj.mk (PySem.Value.type "tuple") Option.none (PySem.Data.seq #[]) #[]
noncomputable def t855 : Params → Obj := fun P =>
  PySem.Obj.mk PySem.Value.none Option.none (PySem.Data.fields #[]) #[]
noncomputable def t856 : Params → Obj := fun P =>
  PySem.Obj.mk (PySem.Value.type "tuple") Option.none
    (PySem.Data.seq
      #[PySem.Value.str (PySem.Str.ofString "script_sig") 1269, PySem.Value.str (PySem.Str.ofString "script_pub_key") 1270, PySem.Value.str (PySem.Str.ofString "witness") 1271, PySem.Value.str (PySem.Str.ofString "script_sig_") 1272,
        PySem.Value.str (PySem.Str.ofString "script_pub_key_") 1273, PySem.Value.str (PySem.Str.ofString "redeem_script") 1274])
    #[]
noncomputable def t857 : Params → Obj := fun P =>
  PySem.Obj.mk (PySem.Value.type "tuple") Option.none (PySem.Data.seq #[]) #[]
noncomputable def t859 : Params → Obj := fun P =>
  PySem.Obj.mk (PySem.Value.type "code") Option.none
    (PySem.Data.fields
      #[PySem.Value.str (PySem.Str.ofString "witness_sig_op_count") 1266, PySem.Value.str (PySem.Str.ofString "witness_sig_op_count") 1267, PySem.Value.str (PySem.Str.ofString "/claim/cut.py") 1268, PySem.Value.int 692 0, PySem.Value.int 3 0,
        PySem.Value.int 0 0, PySem.Value.int 0 0, PySem.Value.int 3 0, PySem.Value.ref 854, PySem.Value.bool Bool.true, PySem.Value.int 181 0, PySem.Value.ref 855, PySem.Value.none, PySem.Value.ref 856, PySem.Value.ref 857,
        PySem.Value.ref 858, PySem.Value.int 1275 0, PySem.Value.int 692 0, PySem.Value.str (PySem.Str.ofString "/claim/cut.py") 1276])
    #[]
noncomputable def t860 : Params → Obj := fun P =>
  PySem.Obj.mk (PySem.Value.type "function") Option.none (PySem.Data.func (fnS (nth pw.main.body 62) PySem.Value.none (PySem.Value.none) (PySem.Value.str (PySem.Str.ofString "btclib.script.sig_ops") 1193) (PySem.Value.ref 859))) #[]
noncomputable def t837 : Params → Obj := fun P => bare (t839 P)
noncomputable def t844 : Params → Obj := fun P => bare (t846 P)
noncomputable def t851 : Params → Obj := fun P => bare (t853 P)
noncomputable def t858 : Params → Obj := fun P => bare (t860 P)
noncomputable def treeC : Params → BT := fun P =>
  (.node (PySem.W.boot_o_0 P) (.node (PySem.W.boot_o_1 P) (.node (t3C P) (.node (PySem.W.boot_o_7 P) (.node (Mine.top.o_8 P) (.node (Mine.top.o_24 P) (.node (Mine.top.o_65 P) (.node (Mine.top.o_136 P) (.node (Mine.top.o_276 P) (.node (Mine.top.o_705 P) .nil .nil) (.node (Mine.top.o_1189 P) .nil .nil)) (.node (Mine.top.o_404 P) (.node (Mine.top.o_1055 P) .nil .nil) .nil)) (.node (Mine.top.o_212 P) (.node (Mine.top.o_340 P) (.node (Mine.top.o_769 P) .nil .nil) (.node (t831 P) .nil .nil)) (.node (Mine.top.o_641 P) (.node (Mine.top.o_1119 P) .nil .nil) .nil))) (.node (Mine.top.o_101 P) (.node (Mine.top.o_180 P) (.node (Mine.top.o_308 P) (.node (Mine.top.o_737 P) .nil .nil) (.node (Mine.top.o_1221 P) .nil .nil)) (.node (Mine.top.o_609 P) (.node (Mine.top.o_1087 P) .nil .nil) .nil)) (.node (Mine.top.o_244 P) (.node (Mine.top.o_372 P) (.node (Mine.top.o_801 P) .nil .nil) .nil) (.node (Mine.top.o_673 P) (.node (Mine.top.o_1154 P) .nil .nil) .nil)))) (.node (Mine.top.o_40 P) (.node (Mine.top.o_81 P) (.node (Mine.top.o_160 P) (.node (Mine.top.o_292 P) (.node (Mine.top.o_721 P) .nil .nil) (.node (Mine.top.o_1205 P) .nil .nil)) (.node (Mine.top.o_593 P) (.node (Mine.top.o_1071 P) .nil .nil) .nil)) (.node (Mine.top.o_228 P) (.node (Mine.top.o_356 P) (.node (Mine.top.o_785 P) .nil .nil) (.node (t847 P) .nil .nil)) (.node (Mine.top.o_657 P) (.node (Mine.top.o_1138 P) .nil .nil) .nil))) (.node (Mine.top.o_120 P) (.node (Mine.top.o_196 P) (.node (Mine.top.o_324 P) (.node (Mine.top.o_753 P) .nil .nil) (.node (Mine.top.o_1237 P) .nil .nil)) (.node (Mine.top.o_625 P) (.node (Mine.top.o_1103 P) .nil .nil) .nil)) (.node (Mine.top.o_260 P) (.node (Mine.top.o_388 P) (.node (Mine.top.o_817 P) .nil .nil) .nil) (.node (Mine.top.o_689 P) (.node (Mine.top.o_1170 P) .nil .nil) .nil))))) (.node (Mine.top.o_16 P) (.node (Mine.top.o_32 P) (.node (Mine.top.o_73 P) (.node (Mine.top.o_148 P) (.node (Mine.top.o_284 P) (.node (Mine.top.o_713 P) .nil .nil) (.node (Mine.top.o_1197 P) .nil .nil)) (.node (Mine.top.o_585 P) (.node (Mine.top.o_1063 P) .nil .nil) .nil)) (.node (Mine.top.o_220 P) (.node (Mine.top.o_348 P) (.node (Mine.top.o_777 P) .nil .nil) (.node (t839 P) .nil .nil)) (.node (Mine.top.o_649 P) (.node (Mine.top.o_1127 P) .nil .nil) .nil))) (.node (Mine.top.o_109 P) (.node (Mine.top.o_188 P) (.node (Mine.top.o_316 P) (.node (Mine.top.o_745 P) .nil .nil) (.node (Mine.top.o_1229 P) .nil .nil)) (.node (Mine.top.o_617 P) (.node (Mine.top.o_1095 P) .nil .nil) .nil)) (.node (Mine.top.o_252 P) (.node (Mine.top.o_380 P) (.node (Mine.top.o_809 P) .nil .nil) .nil) (.node (Mine.top.o_681 P) (.node (Mine.top.o_1162 P) .nil .nil) .nil)))) (.node (Mine.top.o_52 P) (.node (Mine.top.o_89 P) (.node (Mine.top.o_577 P) (.node (Mine.top.o_300 P) (.node (Mine.top.o_729 P) .nil .nil) (.node (Mine.top.o_1213 P) .nil .nil)) (.node (Mine.top.o_601 P) (.node (Mine.top.o_1079 P) .nil .nil) .nil)) (.node (Mine.top.o_236 P) (.node (Mine.top.o_364 P) (.node (Mine.top.o_793 P) .nil .nil) (.node (t855 P) .nil .nil)) (.node (Mine.top.o_665 P) (.node (Mine.top.o_1146 P) .nil .nil) .nil))) (.node (Mine.top.o_128 P) (.node (Mine.top.o_204 P) (.node (Mine.top.o_332 P) (.node (Mine.top.o_761 P) .nil .nil) (.node (t823 P) .nil .nil)) (.node (Mine.top.o_633 P) (.node (Mine.top.o_1111 P) .nil .nil) .nil)) (.node (Mine.top.o_268 P) (.node (Mine.top.o_396 P) (.node (Mine.top.o_1047 P) .nil .nil) .nil) (.node (Mine.top.o_697 P) (.node (Mine.top.o_1181 P) .nil .nil) .nil)))))) (.node (Mine.top.o_1 P) (.node (Mine.top.o_12 P) (.node (Mine.top.o_28 P) (.node (Mine.top.o_69 P) (.node (Mine.top.o_144 P) (.node (Mine.top.o_280 P) (.node (Mine.top.o_709 P) .nil .nil) (.node (Mine.top.o_1193 P) .nil .nil)) (.node (Mine.top.o_581 P) (.node (Mine.top.o_1059 P) .nil .nil) .nil)) (.node (Mine.top.o_216 P) (.node (Mine.top.o_344 P) (.node (Mine.top.o_773 P) .nil .nil) (.node (t835 P) .nil .nil)) (.node (Mine.top.o_645 P) (.node (Mine.top.o_1123 P) .nil .nil) .nil))) (.node (Mine.top.o_105 P) (.node (Mine.top.o_184 P) (.node (Mine.top.o_312 P) (.node (Mine.top.o_741 P) .nil .nil) (.node (Mine.top.o_1225 P) .nil .nil)) (.node (Mine.top.o_613 P) (.node (Mine.top.o_1091 P) .nil .nil) .nil)) (.node (Mine.top.o_248 P) (.node (Mine.top.o_376 P) (.node (Mine.top.o_805 P) .nil .nil) .nil) (.node (Mine.top.o_677 P) (.node (Mine.top.o_1158 P) .nil .nil) .nil)))) (.node (Mine.top.o_48 P) (.node (Mine.top.o_85 P) (.node (Mine.top.o_164 P) (.node (Mine.top.o_296 P) (.node (Mine.top.o_725 P) .nil .nil) (.node (Mine.top.o_1209 P) .nil .nil)) (.node (Mine.top.o_597 P) (.node (Mine.top.o_1075 P) .nil .nil) .nil)) (.node (Mine.top.o_232 P) (.node (Mine.top.o_360 P) (.node (Mine.top.o_789 P) .nil .nil) (.node (t851 P) .nil .nil)) (.node (Mine.top.o_661 P) (.node (Mine.top.o_1142 P) .nil .nil) .nil))) (.node (Mine.top.o_124 P) (.node (Mine.top.o_200 P) (.node (Mine.top.o_328 P) (.node (Mine.top.o_757 P) .nil .nil) (.node (t819 P) .nil .nil)) (.node (Mine.top.o_629 P) (.node (Mine.top.o_1107 P) .nil .nil) .nil)) (.node (Mine.top.o_264 P) (.node (Mine.top.o_392 P) (.node (Mine.top.o_821 P) .nil .nil) .nil) (.node (Mine.top.o_693 P) (.node (Mine.top.o_1174 P) .nil .nil) .nil))))) (.node (Mine.top.o_20 P) (.node (Mine.top.o_36 P) (.node (Mine.top.o_77 P) (.node (Mine.top.o_174 P) (.node (Mine.top.o_288 P) (.node (Mine.top.o_717 P) .nil .nil) (.node (Mine.top.o_1201 P) .nil .nil)) (.node (Mine.top.o_589 P) (.node (Mine.top.o_1067 P) .nil .nil) .nil)) (.node (Mine.top.o_224 P) (.node (Mine.top.o_352 P) (.node (Mine.top.o_781 P) .nil .nil) (.node (t843 P) .nil .nil)) (.node (Mine.top.o_653 P) (.node (Mine.top.o_1134 P) .nil .nil) .nil))) (.node (Mine.top.o_113 P) (.node (Mine.top.o_192 P) (.node (Mine.top.o_320 P) (.node (Mine.top.o_749 P) .nil .nil) (.node (Mine.top.o_1233 P) .nil .nil)) (.node (Mine.top.o_621 P) (.node (Mine.top.o_1099 P) .nil .nil) .nil)) (.node (Mine.top.o_256 P) (.node (Mine.top.o_384 P) (.node (Mine.top.o_813 P) .nil .nil) .nil) (.node (Mine.top.o_685 P) (.node (Mine.top.o_1166 P) .nil .nil) .nil)))) (.node (Mine.top.o_56 P) (.node (Mine.top.o_93 P) (.node (Mine.top.o_176 P) (.node (Mine.top.o_304 P) (.node (Mine.top.o_733 P) .nil .nil) (.node (Mine.top.o_1217 P) .nil .nil)) (.node (Mine.top.o_605 P) (.node (Mine.top.o_1083 P) .nil .nil) .nil)) (.node (Mine.top.o_240 P) (.node (Mine.top.o_368 P) (.node (Mine.top.o_797 P) .nil .nil) (.node (t859 P) .nil .nil)) (.node (Mine.top.o_669 P) (.node (Mine.top.o_1150 P) .nil .nil) .nil))) (.node (Mine.top.o_132 P) (.node (Mine.top.o_208 P) (.node (Mine.top.o_336 P) (.node (Mine.top.o_765 P) .nil .nil) (.node (t827 P) .nil .nil)) (.node (Mine.top.o_637 P) (.node (Mine.top.o_1115 P) .nil .nil) .nil)) (.node (Mine.top.o_272 P) (.node (Mine.top.o_400 P) (.node (Mine.top.o_1051 P) .nil .nil) .nil) (.node (Mine.top.o_701 P) (.node (Mine.top.o_1185 P) .nil .nil) .nil))))))) (.node (PySem.W.boot_o_5 P) (.node (PySem.W.boot_o_9 P) (.node (Mine.top.o_10 P) (.node (Mine.top.o_26 P) (.node (Mine.top.o_67 P) (.node (Mine.top.o_138 P) (.node (Mine.top.o_278 P) (.node (Mine.top.o_707 P) .nil .nil) (.node (Mine.top.o_1191 P) .nil .nil)) (.node (Mine.top.o_579 P) (.node (Mine.top.o_1057 P) .nil .nil) .nil)) (.node (Mine.top.o_214 P) (.node (Mine.top.o_342 P) (.node (Mine.top.o_771 P) .nil .nil) (.node (t833 P) .nil .nil)) (.node (Mine.top.o_643 P) (.node (Mine.top.o_1121 P) .nil .nil) .nil))) (.node (Mine.top.o_103 P) (.node (Mine.top.o_182 P) (.node (Mine.top.o_310 P) (.node (Mine.top.o_739 P) .nil .nil) (.node (Mine.top.o_1223 P) .nil .nil)) (.node (Mine.top.o_611 P) (.node (Mine.top.o_1089 P) .nil .nil) .nil)) (.node (Mine.top.o_246 P) (.node (Mine.top.o_374 P) (.node (Mine.top.o_803 P) .nil .nil) .nil) (.node (Mine.top.o_675 P) (.node (Mine.top.o_1156 P) .nil .nil) .nil)))) (.node (Mine.top.o_46 P) (.node (Mine.top.o_83 P) (.node (Mine.top.o_162 P) (.node (Mine.top.o_294 P) (.node (Mine.top.o_723 P) .nil .nil) (.node (Mine.top.o_1207 P) .nil .nil)) (.node (Mine.top.o_595 P) (.node (Mine.top.o_1073 P) .nil .nil) .nil)) (.node (Mine.top.o_230 P) (.node (Mine.top.o_358 P) (.node (Mine.top.o_787 P) .nil .nil) (.node (t849 P) .nil .nil)) (.node (Mine.top.o_659 P) (.node (Mine.top.o_1140 P) .nil .nil) .nil))) (.node (Mine.top.o_122 P) (.node (Mine.top.o_198 P) (.node (Mine.top.o_326 P) (.node (Mine.top.o_755 P) .nil .nil) (.node (t817 P) .nil .nil)) (.node (Mine.top.o_627 P) (.node (Mine.top.o_1105 P) .nil .nil) .nil)) (.node (Mine.top.o_262 P) (.node (Mine.top.o_390 P) (.node (Mine.top.o_819 P) .nil .nil) .nil) (.node (Mine.top.o_691 P) (.node (Mine.top.o_1172 P) .nil .nil) .nil))))) (.node (Mine.top.o_18 P) (.node (Mine.top.o_34 P) (.node (Mine.top.o_75 P) (.node (Mine.top.o_150 P) (.node (Mine.top.o_286 P) (.node (Mine.top.o_715 P) .nil .nil) (.node (Mine.top.o_1199 P) .nil .nil)) (.node (Mine.top.o_587 P) (.node (Mine.top.o_1065 P) .nil .nil) .nil)) (.node (Mine.top.o_222 P) (.node (Mine.top.o_350 P) (.node (Mine.top.o_779 P) .nil .nil) (.node (t841 P) .nil .nil)) (.node (Mine.top.o_651 P) (.node (Mine.top.o_1132 P) .nil .nil) .nil))) (.node (Mine.top.o_111 P) (.node (Mine.top.o_190 P) (.node (Mine.top.o_318 P) (.node (Mine.top.o_747 P) .nil .nil) (.node (Mine.top.o_1231 P) .nil .nil)) (.node (Mine.top.o_619 P) (.node (Mine.top.o_1097 P) .nil .nil) .nil)) (.node (Mine.top.o_254 P) (.node (Mine.top.o_382 P) (.node (Mine.top.o_811 P) .nil .nil) .nil) (.node (Mine.top.o_683 P) (.node (Mine.top.o_1164 P) .nil .nil) .nil)))) (.node (Mine.top.o_54 P) (.node (Mine.top.o_91 P) (.node (Mine.top.o_170 P) (.node (Mine.top.o_302 P) (.node (Mine.top.o_731 P) .nil .nil) (.node (Mine.top.o_1215 P) .nil .nil)) (.node (Mine.top.o_603 P) (.node (Mine.top.o_1081 P) .nil .nil) .nil)) (.node (Mine.top.o_238 P) (.node (Mine.top.o_366 P) (.node (Mine.top.o_795 P) .nil .nil) (.node (t857 P) .nil .nil)) (.node (Mine.top.o_667 P) (.node (Mine.top.o_1148 P) .nil .nil) .nil))) (.node (Mine.top.o_130 P) (.node (Mine.top.o_206 P) (.node (Mine.top.o_334 P) (.node (Mine.top.o_763 P) .nil .nil) (.node (t825 P) .nil .nil)) (.node (Mine.top.o_635 P) (.node (Mine.top.o_1113 P) .nil .nil) .nil)) (.node (Mine.top.o_270 P) (.node (Mine.top.o_398 P) (.node (Mine.top.o_1049 P) .nil .nil) .nil) (.node (Mine.top.o_699 P) (.node (Mine.top.o_1183 P) .nil .nil) .nil)))))) (.node (Mine.top.o_3 P) (.node (Mine.top.o_14 P) (.node (Mine.top.o_30 P) (.node (Mine.top.o_71 P) (.node (Mine.top.o_146 P) (.node (Mine.top.o_282 P) (.node (Mine.top.o_711 P) .nil .nil) (.node (Mine.top.o_1195 P) .nil .nil)) (.node (Mine.top.o_583 P) (.node (Mine.top.o_1061 P) .nil .nil) .nil)) (.node (Mine.top.o_218 P) (.node (Mine.top.o_346 P) (.node (Mine.top.o_775 P) .nil .nil) (.node (t837 P) .nil .nil)) (.node (Mine.top.o_647 P) (.node (Mine.top.o_1125 P) .nil .nil) .nil))) (.node (Mine.top.o_107 P) (.node (Mine.top.o_186 P) (.node (Mine.top.o_314 P) (.node (Mine.top.o_743 P) .nil .nil) (.node (Mine.top.o_1227 P) .nil .nil)) (.node (Mine.top.o_615 P) (.node (Mine.top.o_1093 P) .nil .nil) .nil)) (.node (Mine.top.o_250 P) (.node (Mine.top.o_378 P) (.node (Mine.top.o_807 P) .nil .nil) .nil) (.node (Mine.top.o_679 P) (.node (Mine.top.o_1160 P) .nil .nil) .nil)))) (.node (Mine.top.o_50 P) (.node (Mine.top.o_87 P) (.node (Mine.top.o_166 P) (.node (Mine.top.o_298 P) (.node (Mine.top.o_727 P) .nil .nil) (.node (Mine.top.o_1211 P) .nil .nil)) (.node (Mine.top.o_599 P) (.node (Mine.top.o_1077 P) .nil .nil) .nil)) (.node (Mine.top.o_234 P) (.node (Mine.top.o_362 P) (.node (Mine.top.o_791 P) .nil .nil) (.node (t853 P) .nil .nil)) (.node (Mine.top.o_663 P) (.node (Mine.top.o_1144 P) .nil .nil) .nil))) (.node (Mine.top.o_126 P) (.node (Mine.top.o_202 P) (.node (Mine.top.o_330 P) (.node (Mine.top.o_759 P) .nil .nil) (.node (t821 P) .nil .nil)) (.node (Mine.top.o_631 P) (.node (Mine.top.o_1109 P) .nil .nil) .nil)) (.node (Mine.top.o_266 P) (.node (Mine.top.o_394 P) (.node (Mine.top.o_823 P) .nil .nil) .nil) (.node (Mine.top.o_695 P) (.node (Mine.top.o_1179 P) .nil .nil) .nil))))) (.node (Mine.top.o_22 P) (.node (Mine.top.o_62 P) (.node (Mine.top.o_79 P) (.node (Mine.top.o_154 P) (.node (Mine.top.o_290 P) (.node (Mine.top.o_719 P) .nil .nil) (.node (Mine.top.o_1203 P) .nil .nil)) (.node (Mine.top.o_591 P) (.node (Mine.top.o_1069 P) .nil .nil) .nil)) (.node (Mine.top.o_226 P) (.node (Mine.top.o_354 P) (.node (Mine.top.o_783 P) .nil .nil) (.node (t845 P) .nil .nil)) (.node (Mine.top.o_655 P) (.node (Mine.top.o_1136 P) .nil .nil) .nil))) (.node (Mine.top.o_118 P) (.node (Mine.top.o_194 P) (.node (Mine.top.o_322 P) (.node (Mine.top.o_751 P) .nil .nil) (.node (Mine.top.o_1235 P) .nil .nil)) (.node (Mine.top.o_623 P) (.node (Mine.top.o_1101 P) .nil .nil) .nil)) (.node (Mine.top.o_258 P) (.node (Mine.top.o_386 P) (.node (Mine.top.o_815 P) .nil .nil) .nil) (.node (Mine.top.o_687 P) (.node (Mine.top.o_1168 P) .nil .nil) .nil)))) (.node (Mine.top.o_63 P) (.node (Mine.top.o_95 P) (.node (Mine.top.o_178 P) (.node (Mine.top.o_306 P) (.node (Mine.top.o_735 P) .nil .nil) (.node (Mine.top.o_1219 P) .nil .nil)) (.node (Mine.top.o_607 P) (.node (Mine.top.o_1085 P) .nil .nil) .nil)) (.node (Mine.top.o_242 P) (.node (Mine.top.o_370 P) (.node (Mine.top.o_799 P) .nil .nil) .nil) (.node (Mine.top.o_671 P) (.node (Mine.top.o_1152 P) .nil .nil) .nil))) (.node (Mine.top.o_134 P) (.node (Mine.top.o_210 P) (.node (Mine.top.o_338 P) (.node (Mine.top.o_767 P) .nil .nil) (.node (t829 P) .nil .nil)) (.node (Mine.top.o_639 P) (.node (Mine.top.o_1117 P) .nil .nil) .nil)) (.node (Mine.top.o_274 P) (.node (Mine.top.o_402 P) (.node (Mine.top.o_1053 P) .nil .nil) .nil) (.node (Mine.top.o_703 P) (.node (Mine.top.o_1187 P) .nil .nil) .nil)))))))) (.node (Mine.top.o_98 P) (.node (PySem.W.boot_o_4 P) (.node (PySem.W.boot_o_8 P) (.node (Mine.top.o_9 P) (.node (Mine.top.o_25 P) (.node (Mine.top.o_66 P) (.node (Mine.top.o_137 P) (.node (Mine.top.o_277 P) (.node (Mine.top.o_706 P) .nil .nil) (.node (Mine.top.o_1190 P) .nil .nil)) (.node (Mine.top.o_578 P) (.node (Mine.top.o_1056 P) .nil .nil) .nil)) (.node (Mine.top.o_213 P) (.node (Mine.top.o_341 P) (.node (Mine.top.o_770 P) .nil .nil) (.node (t832 P) .nil .nil)) (.node (Mine.top.o_642 P) (.node (Mine.top.o_1120 P) .nil .nil) .nil))) (.node (Mine.top.o_102 P) (.node (Mine.top.o_181 P) (.node (Mine.top.o_309 P) (.node (Mine.top.o_738 P) .nil .nil) (.node (Mine.top.o_1222 P) .nil .nil)) (.node (Mine.top.o_610 P) (.node (Mine.top.o_1088 P) .nil .nil) .nil)) (.node (Mine.top.o_245 P) (.node (Mine.top.o_373 P) (.node (Mine.top.o_802 P) .nil .nil) .nil) (.node (Mine.top.o_674 P) (.node (Mine.top.o_1155 P) .nil .nil) .nil)))) (.node (Mine.top.o_41 P) (.node (Mine.top.o_82 P) (.node (Mine.top.o_161 P) (.node (Mine.top.o_293 P) (.node (Mine.top.o_722 P) .nil .nil) (.node (Mine.top.o_1206 P) .nil .nil)) (.node (Mine.top.o_594 P) (.node (Mine.top.o_1072 P) .nil .nil) .nil)) (.node (Mine.top.o_229 P) (.node (Mine.top.o_357 P) (.node (Mine.top.o_786 P) .nil .nil) (.node (t848 P) .nil .nil)) (.node (Mine.top.o_658 P) (.node (Mine.top.o_1139 P) .nil .nil) .nil))) (.node (Mine.top.o_121 P) (.node (Mine.top.o_197 P) (.node (Mine.top.o_325 P) (.node (Mine.top.o_754 P) .nil .nil) (.node (t816 P) .nil .nil)) (.node (Mine.top.o_626 P) (.node (Mine.top.o_1104 P) .nil .nil) .nil)) (.node (Mine.top.o_261 P) (.node (Mine.top.o_389 P) (.node (Mine.top.o_818 P) .nil .nil) .nil) (.node (Mine.top.o_690 P) (.node (Mine.top.o_1171 P) .nil .nil) .nil))))) (.node (Mine.top.o_17 P) (.node (Mine.top.o_33 P) (.node (Mine.top.o_74 P) (.node (Mine.top.o_149 P) (.node (Mine.top.o_285 P) (.node (Mine.top.o_714 P) .nil .nil) (.node (Mine.top.o_1198 P) .nil .nil)) (.node (Mine.top.o_586 P) (.node (Mine.top.o_1064 P) .nil .nil) .nil)) (.node (Mine.top.o_221 P) (.node (Mine.top.o_349 P) (.node (Mine.top.o_778 P) .nil .nil) (.node (t840 P) .nil .nil)) (.node (Mine.top.o_650 P) (.node (Mine.top.o_1128 P) .nil .nil) .nil))) (.node (Mine.top.o_110 P) (.node (Mine.top.o_189 P) (.node (Mine.top.o_317 P) (.node (Mine.top.o_746 P) .nil .nil) (.node (Mine.top.o_1230 P) .nil .nil)) (.node (Mine.top.o_618 P) (.node (Mine.top.o_1096 P) .nil .nil) .nil)) (.node (Mine.top.o_253 P) (.node (Mine.top.o_381 P) (.node (Mine.top.o_810 P) .nil .nil) .nil) (.node (Mine.top.o_682 P) (.node (Mine.top.o_1163 P) .nil .nil) .nil)))) (.node (Mine.top.o_53 P) (.node (Mine.top.o_90 P) (.node (Mine.top.o_169 P) (.node (Mine.top.o_301 P) (.node (Mine.top.o_730 P) .nil .nil) (.node (Mine.top.o_1214 P) .nil .nil)) (.node (Mine.top.o_602 P) (.node (Mine.top.o_1080 P) .nil .nil) .nil)) (.node (Mine.top.o_237 P) (.node (Mine.top.o_365 P) (.node (Mine.top.o_794 P) .nil .nil) (.node (t856 P) .nil .nil)) (.node (Mine.top.o_666 P) (.node (Mine.top.o_1147 P) .nil .nil) .nil))) (.node (Mine.top.o_129 P) (.node (Mine.top.o_205 P) (.node (Mine.top.o_333 P) (.node (Mine.top.o_762 P) .nil .nil) (.node (t824 P) .nil .nil)) (.node (Mine.top.o_634 P) (.node (Mine.top.o_1112 P) .nil .nil) .nil)) (.node (Mine.top.o_269 P) (.node (Mine.top.o_397 P) (.node (Mine.top.o_1048 P) .nil .nil) .nil) (.node (Mine.top.o_698 P) (.node (Mine.top.o_1182 P) .nil .nil) .nil)))))) (.node (t12C P) (.node (Mine.top.o_13 P) (.node (Mine.top.o_29 P) (.node (Mine.top.o_70 P) (.node (Mine.top.o_145 P) (.node (Mine.top.o_281 P) (.node (Mine.top.o_710 P) .nil .nil) (.node (Mine.top.o_1194 P) .nil .nil)) (.node (Mine.top.o_582 P) (.node (Mine.top.o_1060 P) .nil .nil) .nil)) (.node (Mine.top.o_217 P) (.node (Mine.top.o_345 P) (.node (Mine.top.o_774 P) .nil .nil) (.node (t836 P) .nil .nil)) (.node (Mine.top.o_646 P) (.node (Mine.top.o_1124 P) .nil .nil) .nil))) (.node (Mine.top.o_106 P) (.node (Mine.top.o_185 P) (.node (Mine.top.o_313 P) (.node (Mine.top.o_742 P) .nil .nil) (.node (Mine.top.o_1226 P) .nil .nil)) (.node (Mine.top.o_614 P) (.node (Mine.top.o_1092 P) .nil .nil) .nil)) (.node (Mine.top.o_249 P) (.node (Mine.top.o_377 P) (.node (Mine.top.o_806 P) .nil .nil) .nil) (.node (Mine.top.o_678 P) (.node (Mine.top.o_1159 P) .nil .nil) .nil)))) (.node (Mine.top.o_49 P) (.node (Mine.top.o_86 P) (.node (Mine.top.o_165 P) (.node (Mine.top.o_297 P) (.node (Mine.top.o_726 P) .nil .nil) (.node (Mine.top.o_1210 P) .nil .nil)) (.node (Mine.top.o_598 P) (.node (Mine.top.o_1076 P) .nil .nil) .nil)) (.node (Mine.top.o_233 P) (.node (Mine.top.o_361 P) (.node (Mine.top.o_790 P) .nil .nil) (.node (t852 P) .nil .nil)) (.node (Mine.top.o_662 P) (.node (Mine.top.o_1143 P) .nil .nil) .nil))) (.node (Mine.top.o_125 P) (.node (Mine.top.o_201 P) (.node (Mine.top.o_329 P) (.node (Mine.top.o_758 P) .nil .nil) (.node (t820 P) .nil .nil)) (.node (Mine.top.o_630 P) (.node (Mine.top.o_1108 P) .nil .nil) .nil)) (.node (Mine.top.o_265 P) (.node (Mine.top.o_393 P) (.node (Mine.top.o_822 P) .nil .nil) .nil) (.node (Mine.top.o_694 P) (.node (Mine.top.o_1175 P) .nil .nil) .nil))))) (.node (Mine.top.o_21 P) (.node (Mine.top.o_37 P) (.node (Mine.top.o_78 P) (.node (Mine.top.o_153 P) (.node (Mine.top.o_289 P) (.node (Mine.top.o_718 P) .nil .nil) (.node (Mine.top.o_1202 P) .nil .nil)) (.node (Mine.top.o_590 P) (.node (Mine.top.o_1068 P) .nil .nil) .nil)) (.node (Mine.top.o_225 P) (.node (Mine.top.o_353 P) (.node (Mine.top.o_782 P) .nil .nil) (.node (t844 P) .nil .nil)) (.node (Mine.top.o_654 P) (.node (Mine.top.o_1135 P) .nil .nil) .nil))) (.node (Mine.top.o_117 P) (.node (Mine.top.o_193 P) (.node (Mine.top.o_321 P) (.node (Mine.top.o_750 P) .nil .nil) (.node (Mine.top.o_1234 P) .nil .nil)) (.node (Mine.top.o_622 P) (.node (Mine.top.o_1100 P) .nil .nil) .nil)) (.node (Mine.top.o_257 P) (.node (Mine.top.o_385 P) (.node (Mine.top.o_814 P) .nil .nil) .nil) (.node (Mine.top.o_686 P) (.node (Mine.top.o_1167 P) .nil .nil) .nil)))) (.node (Mine.top.o_57 P) (.node (Mine.top.o_94 P) (.node (Mine.top.o_177 P) (.node (Mine.top.o_305 P) (.node (Mine.top.o_734 P) .nil .nil) (.node (Mine.top.o_1218 P) .nil .nil)) (.node (Mine.top.o_606 P) (.node (Mine.top.o_1084 P) .nil .nil) .nil)) (.node (Mine.top.o_241 P) (.node (Mine.top.o_369 P) (.node (Mine.top.o_798 P) .nil .nil) (.node (t860 P) .nil .nil)) (.node (Mine.top.o_670 P) (.node (Mine.top.o_1151 P) .nil .nil) .nil))) (.node (Mine.top.o_158 P) (.node (Mine.top.o_209 P) (.node (Mine.top.o_337 P) (.node (Mine.top.o_766 P) .nil .nil) (.node (t828 P) .nil .nil)) (.node (Mine.top.o_638 P) (.node (Mine.top.o_1116 P) .nil .nil) .nil)) (.node (Mine.top.o_273 P) (.node (Mine.top.o_401 P) (.node (Mine.top.o_1052 P) .nil .nil) .nil) (.node (Mine.top.o_702 P) (.node (Mine.top.o_1186 P) .nil .nil) .nil))))))) (.node (PySem.W.boot_o_6 P) (.node (PySem.W.boot_o_10 P) (.node (Mine.top.o_11 P) (.node (Mine.top.o_27 P) (.node (Mine.top.o_68 P) (.node (Mine.top.o_143 P) (.node (Mine.top.o_279 P) (.node (Mine.top.o_708 P) .nil .nil) (.node (Mine.top.o_1192 P) .nil .nil)) (.node (Mine.top.o_580 P) (.node (Mine.top.o_1058 P) .nil .nil) .nil)) (.node (Mine.top.o_215 P) (.node (Mine.top.o_343 P) (.node (Mine.top.o_772 P) .nil .nil) (.node (t834 P) .nil .nil)) (.node (Mine.top.o_644 P) (.node (Mine.top.o_1122 P) .nil .nil) .nil))) (.node (Mine.top.o_104 P) (.node (Mine.top.o_183 P) (.node (Mine.top.o_311 P) (.node (Mine.top.o_740 P) .nil .nil) (.node (Mine.top.o_1224 P) .nil .nil)) (.node (Mine.top.o_612 P) (.node (Mine.top.o_1090 P) .nil .nil) .nil)) (.node (Mine.top.o_247 P) (.node (Mine.top.o_375 P) (.node (Mine.top.o_804 P) .nil .nil) .nil) (.node (Mine.top.o_676 P) (.node (Mine.top.o_1157 P) .nil .nil) .nil)))) (.node (Mine.top.o_47 P) (.node (Mine.top.o_84 P) (.node (Mine.top.o_163 P) (.node (Mine.top.o_295 P) (.node (Mine.top.o_724 P) .nil .nil) (.node (Mine.top.o_1208 P) .nil .nil)) (.node (Mine.top.o_596 P) (.node (Mine.top.o_1074 P) .nil .nil) .nil)) (.node (Mine.top.o_231 P) (.node (Mine.top.o_359 P) (.node (Mine.top.o_788 P) .nil .nil) (.node (t850 P) .nil .nil)) (.node (Mine.top.o_660 P) (.node (Mine.top.o_1141 P) .nil .nil) .nil))) (.node (Mine.top.o_123 P) (.node (Mine.top.o_199 P) (.node (Mine.top.o_327 P) (.node (Mine.top.o_756 P) .nil .nil) (.node (t818 P) .nil .nil)) (.node (Mine.top.o_628 P) (.node (Mine.top.o_1106 P) .nil .nil) .nil)) (.node (Mine.top.o_263 P) (.node (Mine.top.o_391 P) (.node (Mine.top.o_820 P) .nil .nil) .nil) (.node (Mine.top.o_692 P) (.node (Mine.top.o_1173 P) .nil .nil) .nil))))) (.node (Mine.top.o_19 P) (.node (Mine.top.o_35 P) (.node (Mine.top.o_76 P) (.node (Mine.top.o_151 P) (.node (Mine.top.o_287 P) (.node (Mine.top.o_716 P) .nil .nil) (.node (Mine.top.o_1200 P) .nil .nil)) (.node (Mine.top.o_588 P) (.node (Mine.top.o_1066 P) .nil .nil) .nil)) (.node (Mine.top.o_223 P) (.node (Mine.top.o_351 P) (.node (Mine.top.o_780 P) .nil .nil) (.node (t842 P) .nil .nil)) (.node (Mine.top.o_652 P) (.node (Mine.top.o_1133 P) .nil .nil) .nil))) (.node (Mine.top.o_112 P) (.node (Mine.top.o_191 P) (.node (Mine.top.o_319 P) (.node (Mine.top.o_748 P) .nil .nil) (.node (Mine.top.o_1232 P) .nil .nil)) (.node (Mine.top.o_620 P) (.node (Mine.top.o_1098 P) .nil .nil) .nil)) (.node (Mine.top.o_255 P) (.node (Mine.top.o_383 P) (.node (Mine.top.o_812 P) .nil .nil) .nil) (.node (Mine.top.o_684 P) (.node (Mine.top.o_1165 P) .nil .nil) .nil)))) (.node (Mine.top.o_55 P) (.node (Mine.top.o_92 P) (.node (Mine.top.o_175 P) (.node (Mine.top.o_303 P) (.node (Mine.top.o_732 P) .nil .nil) (.node (Mine.top.o_1216 P) .nil .nil)) (.node (Mine.top.o_604 P) (.node (Mine.top.o_1082 P) .nil .nil) .nil)) (.node (Mine.top.o_239 P) (.node (Mine.top.o_367 P) (.node (Mine.top.o_796 P) .nil .nil) (.node (t858 P) .nil .nil)) (.node (Mine.top.o_668 P) (.node (Mine.top.o_1149 P) .nil .nil) .nil))) (.node (Mine.top.o_131 P) (.node (Mine.top.o_207 P) (.node (Mine.top.o_335 P) (.node (Mine.top.o_764 P) .nil .nil) (.node (t826 P) .nil .nil)) (.node (Mine.top.o_636 P) (.node (Mine.top.o_1114 P) .nil .nil) .nil)) (.node (Mine.top.o_271 P) (.node (Mine.top.o_399 P) (.node (Mine.top.o_1050 P) .nil .nil) .nil) (.node (Mine.top.o_700 P) (.node (Mine.top.o_1184 P) .nil .nil) .nil)))))) (.node (Mine.top.o_4 P) (.node (Mine.top.o_15 P) (.node (Mine.top.o_31 P) (.node (Mine.top.o_72 P) (.node (Mine.top.o_147 P) (.node (Mine.top.o_283 P) (.node (Mine.top.o_712 P) .nil .nil) (.node (Mine.top.o_1196 P) .nil .nil)) (.node (Mine.top.o_584 P) (.node (Mine.top.o_1062 P) .nil .nil) .nil)) (.node (Mine.top.o_219 P) (.node (Mine.top.o_347 P) (.node (Mine.top.o_776 P) .nil .nil) (.node (t838 P) .nil .nil)) (.node (Mine.top.o_648 P) (.node (Mine.top.o_1126 P) .nil .nil) .nil))) (.node (Mine.top.o_108 P) (.node (Mine.top.o_187 P) (.node (Mine.top.o_315 P) (.node (Mine.top.o_744 P) .nil .nil) (.node (Mine.top.o_1228 P) .nil .nil)) (.node (Mine.top.o_616 P) (.node (Mine.top.o_1094 P) .nil .nil) .nil)) (.node (Mine.top.o_251 P) (.node (Mine.top.o_379 P) (.node (Mine.top.o_808 P) .nil .nil) .nil) (.node (Mine.top.o_680 P) (.node (Mine.top.o_1161 P) .nil .nil) .nil)))) (.node (Mine.top.o_51 P) (.node (Mine.top.o_88 P) (.node (Mine.top.o_167 P) (.node (Mine.top.o_299 P) (.node (Mine.top.o_728 P) .nil .nil) (.node (Mine.top.o_1212 P) .nil .nil)) (.node (Mine.top.o_600 P) (.node (Mine.top.o_1078 P) .nil .nil) .nil)) (.node (Mine.top.o_235 P) (.node (Mine.top.o_363 P) (.node (Mine.top.o_792 P) .nil .nil) (.node (t854 P) .nil .nil)) (.node (Mine.top.o_664 P) (.node (Mine.top.o_1145 P) .nil .nil) .nil))) (.node (Mine.top.o_127 P) (.node (Mine.top.o_203 P) (.node (Mine.top.o_331 P) (.node (Mine.top.o_760 P) .nil .nil) (.node (t822 P) .nil .nil)) (.node (Mine.top.o_632 P) (.node (Mine.top.o_1110 P) .nil .nil) .nil)) (.node (Mine.top.o_267 P) (.node (Mine.top.o_395 P) (.node (Mine.top.o_824 P) .nil .nil) .nil) (.node (Mine.top.o_696 P) (.node (Mine.top.o_1180 P) .nil .nil) .nil))))) (.node (Mine.top.o_23 P) (.node (Mine.top.o_39 P) (.node (Mine.top.o_80 P) (.node (Mine.top.o_159 P) (.node (Mine.top.o_291 P) (.node (Mine.top.o_720 P) .nil .nil) (.node (Mine.top.o_1204 P) .nil .nil)) (.node (Mine.top.o_592 P) (.node (Mine.top.o_1070 P) .nil .nil) .nil)) (.node (Mine.top.o_227 P) (.node (Mine.top.o_355 P) (.node (Mine.top.o_784 P) .nil .nil) (.node (t846 P) .nil .nil)) (.node (Mine.top.o_656 P) (.node (Mine.top.o_1137 P) .nil .nil) .nil))) (.node (Mine.top.o_119 P) (.node (Mine.top.o_195 P) (.node (Mine.top.o_323 P) (.node (Mine.top.o_752 P) .nil .nil) (.node (Mine.top.o_1236 P) .nil .nil)) (.node (Mine.top.o_624 P) (.node (Mine.top.o_1102 P) .nil .nil) .nil)) (.node (Mine.top.o_259 P) (.node (Mine.top.o_387 P) (.node (Mine.top.o_816 P) .nil .nil) .nil) (.node (Mine.top.o_688 P) (.node (Mine.top.o_1169 P) .nil .nil) .nil)))) (.node (Mine.top.o_64 P) (.node (Mine.top.o_96 P) (.node (Mine.top.o_179 P) (.node (Mine.top.o_307 P) (.node (Mine.top.o_736 P) .nil .nil) (.node (Mine.top.o_1220 P) .nil .nil)) (.node (Mine.top.o_608 P) (.node (Mine.top.o_1086 P) .nil .nil) .nil)) (.node (Mine.top.o_243 P) (.node (Mine.top.o_371 P) (.node (Mine.top.o_800 P) .nil .nil) .nil) (.node (Mine.top.o_672 P) (.node (Mine.top.o_1153 P) .nil .nil) .nil))) (.node (Mine.top.o_135 P) (.node (Mine.top.o_211 P) (.node (Mine.top.o_339 P) (.node (Mine.top.o_768 P) .nil .nil) (.node (t830 P) .nil .nil)) (.node (Mine.top.o_640 P) (.node (Mine.top.o_1118 P) .nil .nil) .nil)) (.node (Mine.top.o_275 P) (.node (Mine.top.o_403 P) (.node (Mine.top.o_1054 P) .nil .nil) .nil) (.node (Mine.top.o_704 P) (.node (Mine.top.o_1188 P) .nil .nil) .nil)))))))))
noncomputable def posC : Pos := (PySem.Pos.mk 692 0 702 12)
-- C: 59..63 steps 132 objs 861 toks 1278 gens 0
noncomputable def t3D : Params → Obj := fun P =>
  PySem.Obj.mk (PySem.Value.type "dict") Option.none
    (PySem.Data.dict
      #[PySem.DictEntry.mk (PySem.PyData.keyHash P (PySem.Str.ofString "__name__")) (PySem.Value.str (PySem.Str.ofString "__name__") 165) (PySem.Value.str (PySem.Str.ofString "law_ez0016_01") 1278),
        PySem.DictEntry.mk (PySem.PyData.keyHash P (PySem.Str.ofString "__doc__")) (PySem.Value.str (PySem.Str.ofString "__doc__") 166) PySem.Value.none,
        PySem.DictEntry.mk (PySem.PyData.keyHash P (PySem.Str.ofString "__package__")) (PySem.Value.str (PySem.Str.ofString "__package__") 167) PySem.Value.none,
        PySem.DictEntry.mk (PySem.PyData.keyHash P (PySem.Str.ofString "__loader__")) (PySem.Value.str (PySem.Str.ofString "__loader__") 168) (PySem.Value.builtin "__main__.__loader__#opaque"),
        PySem.DictEntry.mk (PySem.PyData.keyHash P (PySem.Str.ofString "__spec__")) (PySem.Value.str (PySem.Str.ofString "__spec__") 169) PySem.Value.none,
        PySem.DictEntry.mk (PySem.PyData.keyHash P (PySem.Str.ofString "__annotations__")) (PySem.Value.str (PySem.Str.ofString "__annotations__") 170) (PySem.Value.ref 6),
        PySem.DictEntry.mk (PySem.PyData.keyHash P (PySem.Str.ofString "__builtins__")) (PySem.Value.str (PySem.Str.ofString "__builtins__") 171) (PySem.Value.ref 4),
        PySem.DictEntry.mk (PySem.PyData.keyHash P (PySem.Str.ofString "__file__")) (PySem.Value.str (PySem.Str.ofString "__file__") 173) (PySem.Value.str (PySem.Str.ofString "/claim/cut.py") 172),
        PySem.DictEntry.mk (PySem.PyData.keyHash P (PySem.Str.ofString "__cached__")) (PySem.Value.str (PySem.Str.ofString "__cached__") 174) PySem.Value.none,
        PySem.DictEntry.mk (PySem.PyData.keyHash P (PySem.Str.ofString "_wall")) (PySem.Value.str (PySem.Str.ofString "_wall") 193) (PySem.Value.ref 21),
        PySem.DictEntry.mk (PySem.PyData.keyHash P (PySem.Str.ofString "MAX_PUBKEYS_PER_MULTISIG")) (PySem.Value.str (PySem.Str.ofString "MAX_PUBKEYS_PER_MULTISIG") 195) (PySem.Value.int 20 194),
        PySem.DictEntry.mk (PySem.PyData.keyHash P (PySem.Str.ofString "read_op_code")) (PySem.Value.str (PySem.Str.ofString "read_op_code") 209) (PySem.Value.ref 28),
        PySem.DictEntry.mk (PySem.PyData.keyHash P (PySem.Str.ofString "op_code_spans")) (PySem.Value.str (PySem.Str.ofString "op_code_spans") 220) (PySem.Value.ref 35),
        PySem.DictEntry.mk (PySem.PyData.keyHash P (PySem.Str.ofString "BTClibException")) (PySem.Value.str (PySem.Str.ofString "BTClibException") 242) (PySem.Value.ref 45),
        PySem.DictEntry.mk (PySem.PyData.keyHash P (PySem.Str.ofString "BTClibValueError")) (PySem.Value.str (PySem.Str.ofString "BTClibValueError") 258) (PySem.Value.ref 58),
        PySem.DictEntry.mk (PySem.PyData.keyHash P (PySem.Str.ofString "BTClibTypeError")) (PySem.Value.str (PySem.Str.ofString "BTClibTypeError") 276) (PySem.Value.ref 70),
        PySem.DictEntry.mk (PySem.PyData.keyHash P (PySem.Str.ofString "bytes_from_octets")) (PySem.Value.str (PySem.Str.ofString "bytes_from_octets") 290) (PySem.Value.ref 80),
        PySem.DictEntry.mk (PySem.PyData.keyHash P (PySem.Str.ofString "_whence")) (PySem.Value.str (PySem.Str.ofString "_whence") 300) (PySem.Value.ref 87),
        PySem.DictEntry.mk (PySem.PyData.keyHash P (PySem.Str.ofString "_index")) (PySem.Value.str (PySem.Str.ofString "_index") 308) (PySem.Value.ref 94),
        PySem.DictEntry.mk (PySem.PyData.keyHash P (PySem.Str.ofString "UnsupportedOperation")) (PySem.Value.str (PySem.Str.ofString "UnsupportedOperation") 330) (PySem.Value.ref 104),
        PySem.DictEntry.mk (PySem.PyData.keyHash P (PySem.Str.ofString "IOBase")) (PySem.Value.str (PySem.Str.ofString "IOBase") 362) (PySem.Value.ref 124),
        PySem.DictEntry.mk (PySem.PyData.keyHash P (PySem.Str.ofString "BufferedIOBase")) (PySem.Value.str (PySem.Str.ofString "BufferedIOBase") 380) (PySem.Value.ref 139),
        PySem.DictEntry.mk (PySem.PyData.keyHash P (PySem.Str.ofString "TextIOBase")) (PySem.Value.str (PySem.Str.ofString "TextIOBase") 398) (PySem.Value.ref 151),
        PySem.DictEntry.mk (PySem.PyData.keyHash P (PySem.Str.ofString "BytesIO")) (PySem.Value.str (PySem.Str.ofString "BytesIO") 660) (PySem.Value.ref 381),
        PySem.DictEntry.mk (PySem.PyData.keyHash P (PySem.Str.ofString "StringIO")) (PySem.Value.str (PySem.Str.ofString "StringIO") 947) (PySem.Value.ref 628),
        PySem.DictEntry.mk (PySem.PyData.keyHash P (PySem.Str.ofString "bytesio_from_binarydata")) (PySem.Value.str (PySem.Str.ofString "bytesio_from_binarydata") 956) (PySem.Value.ref 637),
        PySem.DictEntry.mk (PySem.PyData.keyHash P (PySem.Str.ofString "assert_no_trailing")) (PySem.Value.str (PySem.Str.ofString "assert_no_trailing") 966) (PySem.Value.ref 644),
        PySem.DictEntry.mk (PySem.PyData.keyHash P (PySem.Str.ofString "_message_text")) (PySem.Value.str (PySem.Str.ofString "_message_text") 973) (PySem.Value.ref 651),
        PySem.DictEntry.mk (PySem.PyData.keyHash P (PySem.Str.ofString "is_integer")) (PySem.Value.str (PySem.Str.ofString "is_integer") 980) (PySem.Value.ref 658),
        PySem.DictEntry.mk (PySem.PyData.keyHash P (PySem.Str.ofString "is_octets")) (PySem.Value.str (PySem.Str.ofString "is_octets") 987) (PySem.Value.ref 665),
        PySem.DictEntry.mk (PySem.PyData.keyHash P (PySem.Str.ofString "assert_type")) (PySem.Value.str (PySem.Str.ofString "assert_type") 996) (PySem.Value.ref 672),
        PySem.DictEntry.mk (PySem.PyData.keyHash P (PySem.Str.ofString "int_from_integer")) (PySem.Value.str (PySem.Str.ofString "int_from_integer") 1006) (PySem.Value.ref 679),
        PySem.DictEntry.mk (PySem.PyData.keyHash P (PySem.Str.ofString "hex_string")) (PySem.Value.str (PySem.Str.ofString "hex_string") 1012) (PySem.Value.ref 684),
        PySem.DictEntry.mk (PySem.PyData.keyHash P (PySem.Str.ofString "_is_funct")) (PySem.Value.str (PySem.Str.ofString "_is_funct") 1022) (PySem.Value.ref 691),
        PySem.DictEntry.mk (PySem.PyData.keyHash P (PySem.Str.ofString "assert_p2sh")) (PySem.Value.str (PySem.Str.ofString "assert_p2sh") 1030) (PySem.Value.ref 698),
        PySem.DictEntry.mk (PySem.PyData.keyHash P (PySem.Str.ofString "is_p2sh")) (PySem.Value.str (PySem.Str.ofString "is_p2sh") 1037) (PySem.Value.ref 705),
        PySem.DictEntry.mk (PySem.PyData.keyHash P (PySem.Str.ofString "assert_segwit")) (PySem.Value.str (PySem.Str.ofString "assert_segwit") 1044) (PySem.Value.ref 712),
        PySem.DictEntry.mk (PySem.PyData.keyHash P (PySem.Str.ofString "is_segwit")) (PySem.Value.str (PySem.Str.ofString "is_segwit") 1051) (PySem.Value.ref 719),
        PySem.DictEntry.mk (PySem.PyData.keyHash P (PySem.Str.ofString "MAX_SIZE")) (PySem.Value.str (PySem.Str.ofString "MAX_SIZE") 1055) (PySem.Value.int 33554432 1054),
        PySem.DictEntry.mk (PySem.PyData.keyHash P (PySem.Str.ofString "_parse_number")) (PySem.Value.str (PySem.Str.ofString "_parse_number") 1067) (PySem.Value.ref 726),
        PySem.DictEntry.mk (PySem.PyData.keyHash P (PySem.Str.ofString "parse")) (PySem.Value.str (PySem.Str.ofString "parse") 1078) (PySem.Value.ref 749),
        PySem.DictEntry.mk (PySem.PyData.keyHash P (PySem.Str.ofString "parse_var_int")) (PySem.Value.str (PySem.Str.ofString "parse_var_int") 1079) (PySem.Value.ref 734),
        PySem.DictEntry.mk (PySem.PyData.keyHash P (PySem.Str.ofString "serialize")) (PySem.Value.str (PySem.Str.ofString "serialize") 1086) (PySem.Value.ref 756),
        PySem.DictEntry.mk (PySem.PyData.keyHash P (PySem.Str.ofString "serialize_var_int")) (PySem.Value.str (PySem.Str.ofString "serialize_var_int") 1087) (PySem.Value.ref 741),
        PySem.DictEntry.mk (PySem.PyData.keyHash P (PySem.Str.ofString "parse_var_bytes")) (PySem.Value.str (PySem.Str.ofString "parse_var_bytes") 1100) (PySem.Value.ref 749),
        PySem.DictEntry.mk (PySem.PyData.keyHash P (PySem.Str.ofString "serialize_var_bytes")) (PySem.Value.str (PySem.Str.ofString "serialize_var_bytes") 1109) (PySem.Value.ref 756),
        PySem.DictEntry.mk (PySem.PyData.keyHash P (PySem.Str.ofString "MAX_WITNESS_STACK_ITEMS")) (PySem.Value.str (PySem.Str.ofString "MAX_WITNESS_STACK_ITEMS") 1111) (PySem.Value.int 4000000 1110),
        PySem.DictEntry.mk (PySem.PyData.keyHash P (PySem.Str.ofString "Witness")) (PySem.Value.str (PySem.Str.ofString "Witness") 1192) (PySem.Value.ref 811),
        PySem.DictEntry.mk (PySem.PyData.keyHash P (PySem.Str.ofString "_CHECKSIG")) (PySem.Value.str (PySem.Str.ofString "_CHECKSIG") 1199) (PySem.Value.ref 816),
        PySem.DictEntry.mk (PySem.PyData.keyHash P (PySem.Str.ofString "_CHECKMULTISIG")) (PySem.Value.str (PySem.Str.ofString "_CHECKMULTISIG") 1204) (PySem.Value.ref 817),
        PySem.DictEntry.mk (PySem.PyData.keyHash P (PySem.Str.ofString "_OP_PUSHDATA1")) (PySem.Value.str (PySem.Str.ofString "_OP_PUSHDATA1") 1206) (PySem.Value.int 76 1205),
        PySem.DictEntry.mk (PySem.PyData.keyHash P (PySem.Str.ofString "_OP_PUSHDATA4")) (PySem.Value.str (PySem.Str.ofString "_OP_PUSHDATA4") 1208) (PySem.Value.int 78 1207),
        PySem.DictEntry.mk (PySem.PyData.keyHash P (PySem.Str.ofString "_OP_1")) (PySem.Value.str (PySem.Str.ofString "_OP_1") 1210) (PySem.Value.int 81 1209),
        PySem.DictEntry.mk (PySem.PyData.keyHash P (PySem.Str.ofString "_OP_16")) (PySem.Value.str (PySem.Str.ofString "_OP_16") 1212) (PySem.Value.int 96 1211),
        PySem.DictEntry.mk (PySem.PyData.keyHash P (PySem.Str.ofString "_sig_op_count")) (PySem.Value.str (PySem.Str.ofString "_sig_op_count") 1224) (PySem.Value.ref 824),
        PySem.DictEntry.mk (PySem.PyData.keyHash P (PySem.Str.ofString "sig_op_count")) (PySem.Value.str (PySem.Str.ofString "sig_op_count") 1233) (PySem.Value.ref 832),
        PySem.DictEntry.mk (PySem.PyData.keyHash P (PySem.Str.ofString "_last_push")) (PySem.Value.str (PySem.Str.ofString "_last_push") 1246) (PySem.Value.ref 839),
        PySem.DictEntry.mk (PySem.PyData.keyHash P (PySem.Str.ofString "p2sh_sig_op_count")) (PySem.Value.str (PySem.Str.ofString "p2sh_sig_op_count") 1257) (PySem.Value.ref 846),
        PySem.DictEntry.mk (PySem.PyData.keyHash P (PySem.Str.ofString "_witness_program_sig_op_count")) (PySem.Value.str (PySem.Str.ofString "_witness_program_sig_op_count") 1265) (PySem.Value.ref 853),
        PySem.DictEntry.mk (PySem.PyData.keyHash P (PySem.Str.ofString "witness_sig_op_count")) (PySem.Value.str (PySem.Str.ofString "witness_sig_op_count") 1277) (PySem.Value.ref 860),
        PySem.DictEntry.mk (PySem.PyData.keyHash P (PySem.Str.ofString "_law_steps")) (PySem.Value.str (PySem.Str.ofString "_law_steps") 1285) (PySem.Value.ref 865),
        PySem.DictEntry.mk (PySem.PyData.keyHash P (PySem.Str.ofString "_law_count")) (PySem.Value.str (PySem.Str.ofString "_law_count") 1297) (PySem.Value.ref 872),
        PySem.DictEntry.mk (PySem.PyData.keyHash P (PySem.Str.ofString "_law_program")) (PySem.Value.str (PySem.Str.ofString "_law_program") 1305) (PySem.Value.ref 879),
        PySem.DictEntry.mk (PySem.PyData.keyHash P (PySem.Str.ofString "_law_is_program")) (PySem.Value.str (PySem.Str.ofString "_law_is_program") 1312) (PySem.Value.ref 886)]
      64)
    #[]
noncomputable def t12D : Params → Obj := fun P =>
  PySem.Obj.mk PySem.Value.none Option.none
    (PySem.Data.fields
      #[PySem.Value.int 1 0, PySem.Value.int 0 0, PySem.Value.ref 20, PySem.Value.int 6 0, PySem.Value.int 0 0, PySem.Value.ref 27, PySem.Value.int 23 0, PySem.Value.int 0 0, PySem.Value.ref 34, PySem.Value.int 30 0, PySem.Value.int 0 0,
        PySem.Value.ref 41, PySem.Value.int 32 0, PySem.Value.int 0 0, PySem.Value.ref 54, PySem.Value.int 34 0, PySem.Value.int 0 0, PySem.Value.ref 66, PySem.Value.int 37 0, PySem.Value.int 0 0, PySem.Value.ref 79, PySem.Value.int 68 0,
        PySem.Value.int 0 0, PySem.Value.ref 86, PySem.Value.int 73 0, PySem.Value.int 0 0, PySem.Value.ref 93, PySem.Value.int 80 0, PySem.Value.int 0 0, PySem.Value.ref 100, PySem.Value.int 82 0, PySem.Value.int 0 0, PySem.Value.ref 113,
        PySem.Value.int 89 0, PySem.Value.int 0 0, PySem.Value.ref 135, PySem.Value.int 91 0, PySem.Value.int 0 0, PySem.Value.ref 147, PySem.Value.int 93 0, PySem.Value.int 0 0, PySem.Value.ref 159, PySem.Value.int 263 0,
        PySem.Value.int 0 0, PySem.Value.ref 389, PySem.Value.int 469 0, PySem.Value.int 0 0, PySem.Value.ref 636, PySem.Value.int 473 0, PySem.Value.int 0 0, PySem.Value.ref 643, PySem.Value.int 479 0, PySem.Value.int 0 0,
        PySem.Value.ref 650, PySem.Value.int 481 0, PySem.Value.int 0 0, PySem.Value.ref 657, PySem.Value.int 483 0, PySem.Value.int 0 0, PySem.Value.ref 664, PySem.Value.int 485 0, PySem.Value.int 0 0, PySem.Value.ref 671,
        PySem.Value.int 488 0, PySem.Value.int 0 0, PySem.Value.ref 678, PySem.Value.int 505 0, PySem.Value.int 0 0, PySem.Value.ref 683, PySem.Value.int 517 0, PySem.Value.int 0 0, PySem.Value.ref 690, PySem.Value.int 523 0,
        PySem.Value.int 0 0, PySem.Value.ref 697, PySem.Value.int 533 0, PySem.Value.int 0 0, PySem.Value.ref 704, PySem.Value.int 535 0, PySem.Value.int 0 0, PySem.Value.ref 711, PySem.Value.int 545 0, PySem.Value.int 0 0,
        PySem.Value.ref 718, PySem.Value.int 549 0, PySem.Value.int 0 0, PySem.Value.ref 725, PySem.Value.int 558 0, PySem.Value.int 0 0, PySem.Value.ref 733, PySem.Value.int 577 0, PySem.Value.int 0 0, PySem.Value.ref 740,
        PySem.Value.int 593 0, PySem.Value.int 0 0, PySem.Value.ref 748, PySem.Value.int 603 0, PySem.Value.int 0 0, PySem.Value.ref 755, PySem.Value.int 609 0, PySem.Value.int 0 0, PySem.Value.ref 762, PySem.Value.int 648 0,
        PySem.Value.int 0 0, PySem.Value.ref 823, PySem.Value.int 661 0, PySem.Value.int 0 0, PySem.Value.ref 831, PySem.Value.int 664 0, PySem.Value.int 0 0, PySem.Value.ref 838, PySem.Value.int 676 0, PySem.Value.int 0 0,
        PySem.Value.ref 845, PySem.Value.int 685 0, PySem.Value.int 0 0, PySem.Value.ref 852, PySem.Value.int 692 0, PySem.Value.int 0 0, PySem.Value.ref 859, PySem.Value.int 704 0, PySem.Value.int 0 0, PySem.Value.ref 864,
        PySem.Value.int 722 0, PySem.Value.int 0 0, PySem.Value.ref 871, PySem.Value.int 732 0, PySem.Value.int 0 0, PySem.Value.ref 878, PySem.Value.int 738 0, PySem.Value.int 0 0, PySem.Value.ref 885])
    #[]
noncomputable def t861 : Params → Obj := fun P =>
  PySem.Obj.mk (PySem.Value.type "tuple") Option.none (PySem.Data.seq #[]) #[]
noncomputable def t862 : Params → Obj := fun P =>
  PySem.Obj.mk PySem.Value.none Option.none (PySem.Data.fields #[]) #[]
noncomputable def t864 : Params → Obj := fun P =>
  PySem.Obj.mk (PySem.Value.type "code") Option.none
    (PySem.Data.fields
      #[PySem.Value.str (PySem.Str.ofString "_law_steps") 1280, PySem.Value.str (PySem.Str.ofString "_law_steps") 1281, PySem.Value.str (PySem.Str.ofString "/claim/cut.py") 1282, PySem.Value.int 704 0, PySem.Value.int 1 0,
        PySem.Value.int 0 0, PySem.Value.int 0 0, PySem.Value.int 3 0, PySem.Value.ref 861, PySem.Value.bool Bool.true, PySem.Value.int 181 0, PySem.Value.ref 862, PySem.Value.none, PySem.Value.none, PySem.Value.none, PySem.Value.ref 863,
        PySem.Value.int 1283 0, PySem.Value.int 704 0, PySem.Value.str (PySem.Str.ofString "/claim/cut.py") 1284])
    #[]
noncomputable def t865 : Params → Obj := fun P =>
  PySem.Obj.mk (PySem.Value.type "function") Option.none (PySem.Data.func (fnS (nth pw.main.body 64) PySem.Value.none (PySem.Value.none) (PySem.Value.str (PySem.Str.ofString "law_ez0016_01") 1278) (PySem.Value.ref 864))) #[]
noncomputable def t866 : Params → Obj := fun P =>
  PySem.Obj.mk (PySem.Value.type "tuple") Option.none (PySem.Data.seq #[]) #[]
noncomputable def t867 : Params → Obj := fun P =>
  PySem.Obj.mk PySem.Value.none Option.none (PySem.Data.fields #[]) #[]
noncomputable def t868 : Params → Obj := fun P =>
  PySem.Obj.mk (PySem.Value.type "tuple") Option.none
    (PySem.Data.seq
      #[PySem.Value.str (PySem.Str.ofString "octets") 1289, PySem.Value.str (PySem.Str.ofString "accurate") 1290, PySem.Value.str (PySem.Str.ofString "whole") 1291, PySem.Value.str (PySem.Str.ofString "ahead") 1292,
        PySem.Value.str (PySem.Str.ofString "code") 1293, PySem.Value.str (PySem.Str.ofString "data") 1294])
    #[]
noncomputable def t869 : Params → Obj := fun P =>
  PySem.Obj.mk (PySem.Value.type "tuple") Option.none (PySem.Data.seq #[]) #[]
noncomputable def t871 : Params → Obj := fun P =>
  PySem.Obj.mk (PySem.Value.type "code") Option.none
    (PySem.Data.fields
      #[PySem.Value.str (PySem.Str.ofString "_law_count") 1286, PySem.Value.str (PySem.Str.ofString "_law_count") 1287, PySem.Value.str (PySem.Str.ofString "/claim/cut.py") 1288, PySem.Value.int 722 0, PySem.Value.int 2 0,
        PySem.Value.int 0 0, PySem.Value.int 0 0, PySem.Value.int 3 0, PySem.Value.ref 866, PySem.Value.bool Bool.true, PySem.Value.int 181 0, PySem.Value.ref 867, PySem.Value.none, PySem.Value.ref 868, PySem.Value.ref 869,
        PySem.Value.ref 870, PySem.Value.int 1295 0, PySem.Value.int 722 0, PySem.Value.str (PySem.Str.ofString "/claim/cut.py") 1296])
    #[]
noncomputable def t872 : Params → Obj := fun P =>
  PySem.Obj.mk (PySem.Value.type "function") Option.none (PySem.Data.func (fnS (nth pw.main.body 65) PySem.Value.none (PySem.Value.none) (PySem.Value.str (PySem.Str.ofString "law_ez0016_01") 1278) (PySem.Value.ref 871))) #[]
noncomputable def t873 : Params → Obj := fun P =>
  PySem.Obj.mk (PySem.Value.type "tuple") Option.none (PySem.Data.seq #[]) #[]
noncomputable def t874 : Params → Obj := fun P =>
  PySem.Obj.mk PySem.Value.none Option.none (PySem.Data.fields #[]) #[]
noncomputable def t875 : Params → Obj := fun P =>
  PySem.Obj.mk (PySem.Value.type "tuple") Option.none (PySem.Data.seq #[PySem.Value.str (PySem.Str.ofString "program") 1301, PySem.Value.str (PySem.Str.ofString "rows") 1302]) #[]
noncomputable def t876 : Params → Obj := fun P =>
  PySem.Obj.mk (PySem.Value.type "tuple") Option.none (PySem.Data.seq #[]) #[]
noncomputable def t878 : Params → Obj := fun P =>
  PySem.Obj.mk (PySem.Value.type "code") Option.none
    (PySem.Data.fields
      #[PySem.Value.str (PySem.Str.ofString "_law_program") 1298, PySem.Value.str (PySem.Str.ofString "_law_program") 1299, PySem.Value.str (PySem.Str.ofString "/claim/cut.py") 1300, PySem.Value.int 732 0, PySem.Value.int 2 0,
        PySem.Value.int 0 0, PySem.Value.int 0 0, PySem.Value.int 3 0, PySem.Value.ref 873, PySem.Value.bool Bool.true, PySem.Value.int 181 0, PySem.Value.ref 874, PySem.Value.none, PySem.Value.ref 875, PySem.Value.ref 876,
        PySem.Value.ref 877, PySem.Value.int 1303 0, PySem.Value.int 732 0, PySem.Value.str (PySem.Str.ofString "/claim/cut.py") 1304])
    #[]
noncomputable def t879 : Params → Obj := fun P =>
  PySem.Obj.mk (PySem.Value.type "function") Option.none (PySem.Data.func (fnS (nth pw.main.body 66) PySem.Value.none (PySem.Value.none) (PySem.Value.str (PySem.Str.ofString "law_ez0016_01") 1278) (PySem.Value.ref 878))) #[]
noncomputable def t880 : Params → Obj := fun P =>
  PySem.Obj.mk (PySem.Value.type "tuple") Option.none (PySem.Data.seq #[]) #[]
noncomputable def t881 : Params → Obj := fun P =>
  PySem.Obj.mk PySem.Value.none Option.none (PySem.Data.fields #[]) #[]
noncomputable def t882 : Params → Obj := fun P =>
  PySem.Obj.mk (PySem.Value.type "tuple") Option.none (PySem.Data.seq #[PySem.Value.str (PySem.Str.ofString "octets") 1309]) #[]
noncomputable def t883 : Params → Obj := fun P =>
  PySem.Obj.mk (PySem.Value.type "tuple") Option.none (PySem.Data.seq #[]) #[]
noncomputable def t885 : Params → Obj := fun P =>
  PySem.Obj.mk (PySem.Value.type "code") Option.none
    (PySem.Data.fields
      #[PySem.Value.str (PySem.Str.ofString "_law_is_program") 1306, PySem.Value.str (PySem.Str.ofString "_law_is_program") 1307, PySem.Value.str (PySem.Str.ofString "/claim/cut.py") 1308, PySem.Value.int 738 0, PySem.Value.int 1 0,
        PySem.Value.int 0 0, PySem.Value.int 0 0, PySem.Value.int 3 0, PySem.Value.ref 880, PySem.Value.bool Bool.true, PySem.Value.int 181 0, PySem.Value.ref 881, PySem.Value.none, PySem.Value.ref 882, PySem.Value.ref 883,
        PySem.Value.ref 884, PySem.Value.int 1310 0, PySem.Value.int 738 0, PySem.Value.str (PySem.Str.ofString "/claim/cut.py") 1311])
    #[]
noncomputable def t886 : Params → Obj := fun P =>
  PySem.Obj.mk (PySem.Value.type "function") Option.none (PySem.Data.func (fnS (nth pw.main.body 67) PySem.Value.none (PySem.Value.none) (PySem.Value.str (PySem.Str.ofString "law_ez0016_01") 1278) (PySem.Value.ref 885))) #[]
noncomputable def t863 : Params → Obj := fun P => bare (t865 P)
noncomputable def t870 : Params → Obj := fun P => bare (t872 P)
noncomputable def t877 : Params → Obj := fun P => bare (t879 P)
noncomputable def t884 : Params → Obj := fun P => bare (t886 P)
noncomputable def treeD : Params → BT := fun P =>
  (.node (PySem.W.boot_o_0 P) (.node (PySem.W.boot_o_1 P) (.node (t3D P) (.node (PySem.W.boot_o_7 P) (.node (Mine.top.o_8 P) (.node (Mine.top.o_24 P) (.node (Mine.top.o_65 P) (.node (Mine.top.o_136 P) (.node (Mine.top.o_276 P) (.node (Mine.top.o_705 P) .nil .nil) (.node (Mine.top.o_1189 P) .nil .nil)) (.node (Mine.top.o_404 P) (.node (Mine.top.o_1055 P) .nil .nil) .nil)) (.node (Mine.top.o_212 P) (.node (Mine.top.o_340 P) (.node (Mine.top.o_769 P) .nil .nil) (.node (t831 P) .nil .nil)) (.node (Mine.top.o_641 P) (.node (Mine.top.o_1119 P) .nil .nil) .nil))) (.node (Mine.top.o_101 P) (.node (Mine.top.o_180 P) (.node (Mine.top.o_308 P) (.node (Mine.top.o_737 P) .nil .nil) (.node (Mine.top.o_1221 P) .nil .nil)) (.node (Mine.top.o_609 P) (.node (Mine.top.o_1087 P) .nil .nil) .nil)) (.node (Mine.top.o_244 P) (.node (Mine.top.o_372 P) (.node (Mine.top.o_801 P) .nil .nil) (.node (t863 P) .nil .nil)) (.node (Mine.top.o_673 P) (.node (Mine.top.o_1154 P) .nil .nil) .nil)))) (.node (Mine.top.o_40 P) (.node (Mine.top.o_81 P) (.node (Mine.top.o_160 P) (.node (Mine.top.o_292 P) (.node (Mine.top.o_721 P) .nil .nil) (.node (Mine.top.o_1205 P) .nil .nil)) (.node (Mine.top.o_593 P) (.node (Mine.top.o_1071 P) .nil .nil) .nil)) (.node (Mine.top.o_228 P) (.node (Mine.top.o_356 P) (.node (Mine.top.o_785 P) .nil .nil) (.node (t847 P) .nil .nil)) (.node (Mine.top.o_657 P) (.node (Mine.top.o_1138 P) .nil .nil) .nil))) (.node (Mine.top.o_120 P) (.node (Mine.top.o_196 P) (.node (Mine.top.o_324 P) (.node (Mine.top.o_753 P) .nil .nil) (.node (Mine.top.o_1237 P) .nil .nil)) (.node (Mine.top.o_625 P) (.node (Mine.top.o_1103 P) .nil .nil) .nil)) (.node (Mine.top.o_260 P) (.node (Mine.top.o_388 P) (.node (Mine.top.o_817 P) .nil .nil) (.node (t879 P) .nil .nil)) (.node (Mine.top.o_689 P) (.node (Mine.top.o_1170 P) .nil .nil) .nil))))) (.node (Mine.top.o_16 P) (.node (Mine.top.o_32 P) (.node (Mine.top.o_73 P) (.node (Mine.top.o_148 P) (.node (Mine.top.o_284 P) (.node (Mine.top.o_713 P) .nil .nil) (.node (Mine.top.o_1197 P) .nil .nil)) (.node (Mine.top.o_585 P) (.node (Mine.top.o_1063 P) .nil .nil) .nil)) (.node (Mine.top.o_220 P) (.node (Mine.top.o_348 P) (.node (Mine.top.o_777 P) .nil .nil) (.node (t839 P) .nil .nil)) (.node (Mine.top.o_649 P) (.node (Mine.top.o_1127 P) .nil .nil) .nil))) (.node (Mine.top.o_109 P) (.node (Mine.top.o_188 P) (.node (Mine.top.o_316 P) (.node (Mine.top.o_745 P) .nil .nil) (.node (Mine.top.o_1229 P) .nil .nil)) (.node (Mine.top.o_617 P) (.node (Mine.top.o_1095 P) .nil .nil) .nil)) (.node (Mine.top.o_252 P) (.node (Mine.top.o_380 P) (.node (Mine.top.o_809 P) .nil .nil) (.node (t871 P) .nil .nil)) (.node (Mine.top.o_681 P) (.node (Mine.top.o_1162 P) .nil .nil) .nil)))) (.node (Mine.top.o_52 P) (.node (Mine.top.o_89 P) (.node (Mine.top.o_577 P) (.node (Mine.top.o_300 P) (.node (Mine.top.o_729 P) .nil .nil) (.node (Mine.top.o_1213 P) .nil .nil)) (.node (Mine.top.o_601 P) (.node (Mine.top.o_1079 P) .nil .nil) .nil)) (.node (Mine.top.o_236 P) (.node (Mine.top.o_364 P) (.node (Mine.top.o_793 P) .nil .nil) (.node (t855 P) .nil .nil)) (.node (Mine.top.o_665 P) (.node (Mine.top.o_1146 P) .nil .nil) .nil))) (.node (Mine.top.o_128 P) (.node (Mine.top.o_204 P) (.node (Mine.top.o_332 P) (.node (Mine.top.o_761 P) .nil .nil) (.node (t823 P) .nil .nil)) (.node (Mine.top.o_633 P) (.node (Mine.top.o_1111 P) .nil .nil) .nil)) (.node (Mine.top.o_268 P) (.node (Mine.top.o_396 P) (.node (Mine.top.o_1047 P) .nil .nil) .nil) (.node (Mine.top.o_697 P) (.node (Mine.top.o_1181 P) .nil .nil) .nil)))))) (.node (Mine.top.o_1 P) (.node (Mine.top.o_12 P) (.node (Mine.top.o_28 P) (.node (Mine.top.o_69 P) (.node (Mine.top.o_144 P) (.node (Mine.top.o_280 P) (.node (Mine.top.o_709 P) .nil .nil) (.node (Mine.top.o_1193 P) .nil .nil)) (.node (Mine.top.o_581 P) (.node (Mine.top.o_1059 P) .nil .nil) .nil)) (.node (Mine.top.o_216 P) (.node (Mine.top.o_344 P) (.node (Mine.top.o_773 P) .nil .nil) (.node (t835 P) .nil .nil)) (.node (Mine.top.o_645 P) (.node (Mine.top.o_1123 P) .nil .nil) .nil))) (.node (Mine.top.o_105 P) (.node (Mine.top.o_184 P) (.node (Mine.top.o_312 P) (.node (Mine.top.o_741 P) .nil .nil) (.node (Mine.top.o_1225 P) .nil .nil)) (.node (Mine.top.o_613 P) (.node (Mine.top.o_1091 P) .nil .nil) .nil)) (.node (Mine.top.o_248 P) (.node (Mine.top.o_376 P) (.node (Mine.top.o_805 P) .nil .nil) (.node (t867 P) .nil .nil)) (.node (Mine.top.o_677 P) (.node (Mine.top.o_1158 P) .nil .nil) .nil)))) (.node (Mine.top.o_48 P) (.node (Mine.top.o_85 P) (.node (Mine.top.o_164 P) (.node (Mine.top.o_296 P) (.node (Mine.top.o_725 P) .nil .nil) (.node (Mine.top.o_1209 P) .nil .nil)) (.node (Mine.top.o_597 P) (.node (Mine.top.o_1075 P) .nil .nil) .nil)) (.node (Mine.top.o_232 P) (.node (Mine.top.o_360 P) (.node (Mine.top.o_789 P) .nil .nil) (.node (t851 P) .nil .nil)) (.node (Mine.top.o_661 P) (.node (Mine.top.o_1142 P) .nil .nil) .nil))) (.node (Mine.top.o_124 P) (.node (Mine.top.o_200 P) (.node (Mine.top.o_328 P) (.node (Mine.top.o_757 P) .nil .nil) (.node (t819 P) .nil .nil)) (.node (Mine.top.o_629 P) (.node (Mine.top.o_1107 P) .nil .nil) .nil)) (.node (Mine.top.o_264 P) (.node (Mine.top.o_392 P) (.node (Mine.top.o_821 P) .nil .nil) (.node (t883 P) .nil .nil)) (.node (Mine.top.o_693 P) (.node (Mine.top.o_1174 P) .nil .nil) .nil))))) (.node (Mine.top.o_20 P) (.node (Mine.top.o_36 P) (.node (Mine.top.o_77 P) (.node (Mine.top.o_174 P) (.node (Mine.top.o_288 P) (.node (Mine.top.o_717 P) .nil .nil) (.node (Mine.top.o_1201 P) .nil .nil)) (.node (Mine.top.o_589 P) (.node (Mine.top.o_1067 P) .nil .nil) .nil)) (.node (Mine.top.o_224 P) (.node (Mine.top.o_352 P) (.node (Mine.top.o_781 P) .nil .nil) (.node (t843 P) .nil .nil)) (.node (Mine.top.o_653 P) (.node (Mine.top.o_1134 P) .nil .nil) .nil))) (.node (Mine.top.o_113 P) (.node (Mine.top.o_192 P) (.node (Mine.top.o_320 P) (.node (Mine.top.o_749 P) .nil .nil) (.node (Mine.top.o_1233 P) .nil .nil)) (.node (Mine.top.o_621 P) (.node (Mine.top.o_1099 P) .nil .nil) .nil)) (.node (Mine.top.o_256 P) (.node (Mine.top.o_384 P) (.node (Mine.top.o_813 P) .nil .nil) (.node (t875 P) .nil .nil)) (.node (Mine.top.o_685 P) (.node (Mine.top.o_1166 P) .nil .nil) .nil)))) (.node (Mine.top.o_56 P) (.node (Mine.top.o_93 P) (.node (Mine.top.o_176 P) (.node (Mine.top.o_304 P) (.node (Mine.top.o_733 P) .nil .nil) (.node (Mine.top.o_1217 P) .nil .nil)) (.node (Mine.top.o_605 P) (.node (Mine.top.o_1083 P) .nil .nil) .nil)) (.node (Mine.top.o_240 P) (.node (Mine.top.o_368 P) (.node (Mine.top.o_797 P) .nil .nil) (.node (t859 P) .nil .nil)) (.node (Mine.top.o_669 P) (.node (Mine.top.o_1150 P) .nil .nil) .nil))) (.node (Mine.top.o_132 P) (.node (Mine.top.o_208 P) (.node (Mine.top.o_336 P) (.node (Mine.top.o_765 P) .nil .nil) (.node (t827 P) .nil .nil)) (.node (Mine.top.o_637 P) (.node (Mine.top.o_1115 P) .nil .nil) .nil)) (.node (Mine.top.o_272 P) (.node (Mine.top.o_400 P) (.node (Mine.top.o_1051 P) .nil .nil) .nil) (.node (Mine.top.o_701 P) (.node (Mine.top.o_1185 P) .nil .nil) .nil))))))) (.node (PySem.W.boot_o_5 P) (.node (PySem.W.boot_o_9 P) (.node (Mine.top.o_10 P) (.node (Mine.top.o_26 P) (.node (Mine.top.o_67 P) (.node (Mine.top.o_138 P) (.node (Mine.top.o_278 P) (.node (Mine.top.o_707 P) .nil .nil) (.node (Mine.top.o_1191 P) .nil .nil)) (.node (Mine.top.o_579 P) (.node (Mine.top.o_1057 P) .nil .nil) .nil)) (.node (Mine.top.o_214 P) (.node (Mine.top.o_342 P) (.node (Mine.top.o_771 P) .nil .nil) (.node (t833 P) .nil .nil)) (.node (Mine.top.o_643 P) (.node (Mine.top.o_1121 P) .nil .nil) .nil))) (.node (Mine.top.o_103 P) (.node (Mine.top.o_182 P) (.node (Mine.top.o_310 P) (.node (Mine.top.o_739 P) .nil .nil) (.node (Mine.top.o_1223 P) .nil .nil)) (.node (Mine.top.o_611 P) (.node (Mine.top.o_1089 P) .nil .nil) .nil)) (.node (Mine.top.o_246 P) (.node (Mine.top.o_374 P) (.node (Mine.top.o_803 P) .nil .nil) (.node (t865 P) .nil .nil)) (.node (Mine.top.o_675 P) (.node (Mine.top.o_1156 P) .nil .nil) .nil)))) (.node (Mine.top.o_46 P) (.node (Mine.top.o_83 P) (.node (Mine.top.o_162 P) (.node (Mine.top.o_294 P) (.node (Mine.top.o_723 P) .nil .nil) (.node (Mine.top.o_1207 P) .nil .nil)) (.node (Mine.top.o_595 P) (.node (Mine.top.o_1073 P) .nil .nil) .nil)) (.node (Mine.top.o_230 P) (.node (Mine.top.o_358 P) (.node (Mine.top.o_787 P) .nil .nil) (.node (t849 P) .nil .nil)) (.node (Mine.top.o_659 P) (.node (Mine.top.o_1140 P) .nil .nil) .nil))) (.node (Mine.top.o_122 P) (.node (Mine.top.o_198 P) (.node (Mine.top.o_326 P) (.node (Mine.top.o_755 P) .nil .nil) (.node (t817 P) .nil .nil)) (.node (Mine.top.o_627 P) (.node (Mine.top.o_1105 P) .nil .nil) .nil)) (.node (Mine.top.o_262 P) (.node (Mine.top.o_390 P) (.node (Mine.top.o_819 P) .nil .nil) (.node (t881 P) .nil .nil)) (.node (Mine.top.o_691 P) (.node (Mine.top.o_1172 P) .nil .nil) .nil))))) (.node (Mine.top.o_18 P) (.node (Mine.top.o_34 P) (.node (Mine.top.o_75 P) (.node (Mine.top.o_150 P) (.node (Mine.top.o_286 P) (.node (Mine.top.o_715 P) .nil .nil) (.node (Mine.top.o_1199 P) .nil .nil)) (.node (Mine.top.o_587 P) (.node (Mine.top.o_1065 P) .nil .nil) .nil)) (.node (Mine.top.o_222 P) (.node (Mine.top.o_350 P) (.node (Mine.top.o_779 P) .nil .nil) (.node (t841 P) .nil .nil)) (.node (Mine.top.o_651 P) (.node (Mine.top.o_1132 P) .nil .nil) .nil))) (.node (Mine.top.o_111 P) (.node (Mine.top.o_190 P) (.node (Mine.top.o_318 P) (.node (Mine.top.o_747 P) .nil .nil) (.node (Mine.top.o_1231 P) .nil .nil)) (.node (Mine.top.o_619 P) (.node (Mine.top.o_1097 P) .nil .nil) .nil)) (.node (Mine.top.o_254 P) (.node (Mine.top.o_382 P) (.node (Mine.top.o_811 P) .nil .nil) (.node (t873 P) .nil .nil)) (.node (Mine.top.o_683 P) (.node (Mine.top.o_1164 P) .nil .nil) .nil)))) (.node (Mine.top.o_54 P) (.node (Mine.top.o_91 P) (.node (Mine.top.o_170 P) (.node (Mine.top.o_302 P) (.node (Mine.top.o_731 P) .nil .nil) (.node (Mine.top.o_1215 P) .nil .nil)) (.node (Mine.top.o_603 P) (.node (Mine.top.o_1081 P) .nil .nil) .nil)) (.node (Mine.top.o_238 P) (.node (Mine.top.o_366 P) (.node (Mine.top.o_795 P) .nil .nil) (.node (t857 P) .nil .nil)) (.node (Mine.top.o_667 P) (.node (Mine.top.o_1148 P) .nil .nil) .nil))) (.node (Mine.top.o_130 P) (.node (Mine.top.o_206 P) (.node (Mine.top.o_334 P) (.node (Mine.top.o_763 P) .nil .nil) (.node (t825 P) .nil .nil)) (.node (Mine.top.o_635 P) (.node (Mine.top.o_1113 P) .nil .nil) .nil)) (.node (Mine.top.o_270 P) (.node (Mine.top.o_398 P) (.node (Mine.top.o_1049 P) .nil .nil) .nil) (.node (Mine.top.o_699 P) (.node (Mine.top.o_1183 P) .nil .nil) .nil)))))) (.node (Mine.top.o_3 P) (.node (Mine.top.o_14 P) (.node (Mine.top.o_30 P) (.node (Mine.top.o_71 P) (.node (Mine.top.o_146 P) (.node (Mine.top.o_282 P) (.node (Mine.top.o_711 P) .nil .nil) (.node (Mine.top.o_1195 P) .nil .nil)) (.node (Mine.top.o_583 P) (.node (Mine.top.o_1061 P) .nil .nil) .nil)) (.node (Mine.top.o_218 P) (.node (Mine.top.o_346 P) (.node (Mine.top.o_775 P) .nil .nil) (.node (t837 P) .nil .nil)) (.node (Mine.top.o_647 P) (.node (Mine.top.o_1125 P) .nil .nil) .nil))) (.node (Mine.top.o_107 P) (.node (Mine.top.o_186 P) (.node (Mine.top.o_314 P) (.node (Mine.top.o_743 P) .nil .nil) (.node (Mine.top.o_1227 P) .nil .nil)) (.node (Mine.top.o_615 P) (.node (Mine.top.o_1093 P) .nil .nil) .nil)) (.node (Mine.top.o_250 P) (.node (Mine.top.o_378 P) (.node (Mine.top.o_807 P) .nil .nil) (.node (t869 P) .nil .nil)) (.node (Mine.top.o_679 P) (.node (Mine.top.o_1160 P) .nil .nil) .nil)))) (.node (Mine.top.o_50 P) (.node (Mine.top.o_87 P) (.node (Mine.top.o_166 P) (.node (Mine.top.o_298 P) (.node (Mine.top.o_727 P) .nil .nil) (.node (Mine.top.o_1211 P) .nil .nil)) (.node (Mine.top.o_599 P) (.node (Mine.top.o_1077 P) .nil .nil) .nil)) (.node (Mine.top.o_234 P) (.node (Mine.top.o_362 P) (.node (Mine.top.o_791 P) .nil .nil) (.node (t853 P) .nil .nil)) (.node (Mine.top.o_663 P) (.node (Mine.top.o_1144 P) .nil .nil) .nil))) (.node (Mine.top.o_126 P) (.node (Mine.top.o_202 P) (.node (Mine.top.o_330 P) (.node (Mine.top.o_759 P) .nil .nil) (.node (t821 P) .nil .nil)) (.node (Mine.top.o_631 P) (.node (Mine.top.o_1109 P) .nil .nil) .nil)) (.node (Mine.top.o_266 P) (.node (Mine.top.o_394 P) (.node (Mine.top.o_823 P) .nil .nil) (.node (t885 P) .nil .nil)) (.node (Mine.top.o_695 P) (.node (Mine.top.o_1179 P) .nil .nil) .nil))))) (.node (Mine.top.o_22 P) (.node (Mine.top.o_62 P) (.node (Mine.top.o_79 P) (.node (Mine.top.o_154 P) (.node (Mine.top.o_290 P) (.node (Mine.top.o_719 P) .nil .nil) (.node (Mine.top.o_1203 P) .nil .nil)) (.node (Mine.top.o_591 P) (.node (Mine.top.o_1069 P) .nil .nil) .nil)) (.node (Mine.top.o_226 P) (.node (Mine.top.o_354 P) (.node (Mine.top.o_783 P) .nil .nil) (.node (t845 P) .nil .nil)) (.node (Mine.top.o_655 P) (.node (Mine.top.o_1136 P) .nil .nil) .nil))) (.node (Mine.top.o_118 P) (.node (Mine.top.o_194 P) (.node (Mine.top.o_322 P) (.node (Mine.top.o_751 P) .nil .nil) (.node (Mine.top.o_1235 P) .nil .nil)) (.node (Mine.top.o_623 P) (.node (Mine.top.o_1101 P) .nil .nil) .nil)) (.node (Mine.top.o_258 P) (.node (Mine.top.o_386 P) (.node (Mine.top.o_815 P) .nil .nil) (.node (t877 P) .nil .nil)) (.node (Mine.top.o_687 P) (.node (Mine.top.o_1168 P) .nil .nil) .nil)))) (.node (Mine.top.o_63 P) (.node (Mine.top.o_95 P) (.node (Mine.top.o_178 P) (.node (Mine.top.o_306 P) (.node (Mine.top.o_735 P) .nil .nil) (.node (Mine.top.o_1219 P) .nil .nil)) (.node (Mine.top.o_607 P) (.node (Mine.top.o_1085 P) .nil .nil) .nil)) (.node (Mine.top.o_242 P) (.node (Mine.top.o_370 P) (.node (Mine.top.o_799 P) .nil .nil) (.node (t861 P) .nil .nil)) (.node (Mine.top.o_671 P) (.node (Mine.top.o_1152 P) .nil .nil) .nil))) (.node (Mine.top.o_134 P) (.node (Mine.top.o_210 P) (.node (Mine.top.o_338 P) (.node (Mine.top.o_767 P) .nil .nil) (.node (t829 P) .nil .nil)) (.node (Mine.top.o_639 P) (.node (Mine.top.o_1117 P) .nil .nil) .nil)) (.node (Mine.top.o_274 P) (.node (Mine.top.o_402 P) (.node (Mine.top.o_1053 P) .nil .nil) .nil) (.node (Mine.top.o_703 P) (.node (Mine.top.o_1187 P) .nil .nil) .nil)))))))) (.node (Mine.top.o_98 P) (.node (PySem.W.boot_o_4 P) (.node (PySem.W.boot_o_8 P) (.node (Mine.top.o_9 P) (.node (Mine.top.o_25 P) (.node (Mine.top.o_66 P) (.node (Mine.top.o_137 P) (.node (Mine.top.o_277 P) (.node (Mine.top.o_706 P) .nil .nil) (.node (Mine.top.o_1190 P) .nil .nil)) (.node (Mine.top.o_578 P) (.node (Mine.top.o_1056 P) .nil .nil) .nil)) (.node (Mine.top.o_213 P) (.node (Mine.top.o_341 P) (.node (Mine.top.o_770 P) .nil .nil) (.node (t832 P) .nil .nil)) (.node (Mine.top.o_642 P) (.node (Mine.top.o_1120 P) .nil .nil) .nil))) (.node (Mine.top.o_102 P) (.node (Mine.top.o_181 P) (.node (Mine.top.o_309 P) (.node (Mine.top.o_738 P) .nil .nil) (.node (Mine.top.o_1222 P) .nil .nil)) (.node (Mine.top.o_610 P) (.node (Mine.top.o_1088 P) .nil .nil) .nil)) (.node (Mine.top.o_245 P) (.node (Mine.top.o_373 P) (.node (Mine.top.o_802 P) .nil .nil) (.node (t864 P) .nil .nil)) (.node (Mine.top.o_674 P) (.node (Mine.top.o_1155 P) .nil .nil) .nil)))) (.node (Mine.top.o_41 P) (.node (Mine.top.o_82 P) (.node (Mine.top.o_161 P) (.node (Mine.top.o_293 P) (.node (Mine.top.o_722 P) .nil .nil) (.node (Mine.top.o_1206 P) .nil .nil)) (.node (Mine.top.o_594 P) (.node (Mine.top.o_1072 P) .nil .nil) .nil)) (.node (Mine.top.o_229 P) (.node (Mine.top.o_357 P) (.node (Mine.top.o_786 P) .nil .nil) (.node (t848 P) .nil .nil)) (.node (Mine.top.o_658 P) (.node (Mine.top.o_1139 P) .nil .nil) .nil))) (.node (Mine.top.o_121 P) (.node (Mine.top.o_197 P) (.node (Mine.top.o_325 P) (.node (Mine.top.o_754 P) .nil .nil) (.node (t816 P) .nil .nil)) (.node (Mine.top.o_626 P) (.node (Mine.top.o_1104 P) .nil .nil) .nil)) (.node (Mine.top.o_261 P) (.node (Mine.top.o_389 P) (.node (Mine.top.o_818 P) .nil .nil) (.node (t880 P) .nil .nil)) (.node (Mine.top.o_690 P) (.node (Mine.top.o_1171 P) .nil .nil) .nil))))) (.node (Mine.top.o_17 P) (.node (Mine.top.o_33 P) (.node (Mine.top.o_74 P) (.node (Mine.top.o_149 P) (.node (Mine.top.o_285 P) (.node (Mine.top.o_714 P) .nil .nil) (.node (Mine.top.o_1198 P) .nil .nil)) (.node (Mine.top.o_586 P) (.node (Mine.top.o_1064 P) .nil .nil) .nil)) (.node (Mine.top.o_221 P) (.node (Mine.top.o_349 P) (.node (Mine.top.o_778 P) .nil .nil) (.node (t840 P) .nil .nil)) (.node (Mine.top.o_650 P) (.node (Mine.top.o_1128 P) .nil .nil) .nil))) (.node (Mine.top.o_110 P) (.node (Mine.top.o_189 P) (.node (Mine.top.o_317 P) (.node (Mine.top.o_746 P) .nil .nil) (.node (Mine.top.o_1230 P) .nil .nil)) (.node (Mine.top.o_618 P) (.node (Mine.top.o_1096 P) .nil .nil) .nil)) (.node (Mine.top.o_253 P) (.node (Mine.top.o_381 P) (.node (Mine.top.o_810 P) .nil .nil) (.node (t872 P) .nil .nil)) (.node (Mine.top.o_682 P) (.node (Mine.top.o_1163 P) .nil .nil) .nil)))) (.node (Mine.top.o_53 P) (.node (Mine.top.o_90 P) (.node (Mine.top.o_169 P) (.node (Mine.top.o_301 P) (.node (Mine.top.o_730 P) .nil .nil) (.node (Mine.top.o_1214 P) .nil .nil)) (.node (Mine.top.o_602 P) (.node (Mine.top.o_1080 P) .nil .nil) .nil)) (.node (Mine.top.o_237 P) (.node (Mine.top.o_365 P) (.node (Mine.top.o_794 P) .nil .nil) (.node (t856 P) .nil .nil)) (.node (Mine.top.o_666 P) (.node (Mine.top.o_1147 P) .nil .nil) .nil))) (.node (Mine.top.o_129 P) (.node (Mine.top.o_205 P) (.node (Mine.top.o_333 P) (.node (Mine.top.o_762 P) .nil .nil) (.node (t824 P) .nil .nil)) (.node (Mine.top.o_634 P) (.node (Mine.top.o_1112 P) .nil .nil) .nil)) (.node (Mine.top.o_269 P) (.node (Mine.top.o_397 P) (.node (Mine.top.o_1048 P) .nil .nil) .nil) (.node (Mine.top.o_698 P) (.node (Mine.top.o_1182 P) .nil .nil) .nil)))))) (.node (t12D P) (.node (Mine.top.o_13 P) (.node (Mine.top.o_29 P) (.node (Mine.top.o_70 P) (.node (Mine.top.o_145 P) (.node (Mine.top.o_281 P) (.node (Mine.top.o_710 P) .nil .nil) (.node (Mine.top.o_1194 P) .nil .nil)) (.node (Mine.top.o_582 P) (.node (Mine.top.o_1060 P) .nil .nil) .nil)) (.node (Mine.top.o_217 P) (.node (Mine.top.o_345 P) (.node (Mine.top.o_774 P) .nil .nil) (.node (t836 P) .nil .nil)) (.node (Mine.top.o_646 P) (.node (Mine.top.o_1124 P) .nil .nil) .nil))) (.node (Mine.top.o_106 P) (.node (Mine.top.o_185 P) (.node (Mine.top.o_313 P) (.node (Mine.top.o_742 P) .nil .nil) (.node (Mine.top.o_1226 P) .nil .nil)) (.node (Mine.top.o_614 P) (.node (Mine.top.o_1092 P) .nil .nil) .nil)) (.node (Mine.top.o_249 P) (.node (Mine.top.o_377 P) (.node (Mine.top.o_806 P) .nil .nil) (.node (t868 P) .nil .nil)) (.node (Mine.top.o_678 P) (.node (Mine.top.o_1159 P) .nil .nil) .nil)))) (.node (Mine.top.o_49 P) (.node (Mine.top.o_86 P) (.node (Mine.top.o_165 P) (.node (Mine.top.o_297 P) (.node (Mine.top.o_726 P) .nil .nil) (.node (Mine.top.o_1210 P) .nil .nil)) (.node (Mine.top.o_598 P) (.node (Mine.top.o_1076 P) .nil .nil) .nil)) (.node (Mine.top.o_233 P) (.node (Mine.top.o_361 P) (.node (Mine.top.o_790 P) .nil .nil) (.node (t852 P) .nil .nil)) (.node (Mine.top.o_662 P) (.node (Mine.top.o_1143 P) .nil .nil) .nil))) (.node (Mine.top.o_125 P) (.node (Mine.top.o_201 P) (.node (Mine.top.o_329 P) (.node (Mine.top.o_758 P) .nil .nil) (.node (t820 P) .nil .nil)) (.node (Mine.top.o_630 P) (.node (Mine.top.o_1108 P) .nil .nil) .nil)) (.node (Mine.top.o_265 P) (.node (Mine.top.o_393 P) (.node (Mine.top.o_822 P) .nil .nil) (.node (t884 P) .nil .nil)) (.node (Mine.top.o_694 P) (.node (Mine.top.o_1175 P) .nil .nil) .nil))))) (.node (Mine.top.o_21 P) (.node (Mine.top.o_37 P) (.node (Mine.top.o_78 P) (.node (Mine.top.o_153 P) (.node (Mine.top.o_289 P) (.node (Mine.top.o_718 P) .nil .nil) (.node (Mine.top.o_1202 P) .nil .nil)) (.node (Mine.top.o_590 P) (.node (Mine.top.o_1068 P) .nil .nil) .nil)) (.node (Mine.top.o_225 P) (.node (Mine.top.o_353 P) (.node (Mine.top.o_782 P) .nil .nil) (.node (t844 P) .nil .nil)) (.node (Mine.top.o_654 P) (.node (Mine.top.o_1135 P) .nil .nil) .nil))) (.node (Mine.top.o_117 P) (.node (Mine.top.o_193 P) (.node (Mine.top.o_321 P) (.node (Mine.top.o_750 P) .nil .nil) (.node (Mine.top.o_1234 P) .nil .nil)) (.node (Mine.top.o_622 P) (.node (Mine.top.o_1100 P) .nil .nil) .nil)) (.node (Mine.top.o_257 P) (.node (Mine.top.o_385 P) (.node (Mine.top.o_814 P) .nil .nil) (.node (t876 P) .nil .nil)) (.node (Mine.top.o_686 P) (.node (Mine.top.o_1167 P) .nil .nil) .nil)))) (.node (Mine.top.o_57 P) (.node (Mine.top.o_94 P) (.node (Mine.top.o_177 P) (.node (Mine.top.o_305 P) (.node (Mine.top.o_734 P) .nil .nil) (.node (Mine.top.o_1218 P) .nil .nil)) (.node (Mine.top.o_606 P) (.node (Mine.top.o_1084 P) .nil .nil) .nil)) (.node (Mine.top.o_241 P) (.node (Mine.top.o_369 P) (.node (Mine.top.o_798 P) .nil .nil) (.node (t860 P) .nil .nil)) (.node (Mine.top.o_670 P) (.node (Mine.top.o_1151 P) .nil .nil) .nil))) (.node (Mine.top.o_158 P) (.node (Mine.top.o_209 P) (.node (Mine.top.o_337 P) (.node (Mine.top.o_766 P) .nil .nil) (.node (t828 P) .nil .nil)) (.node (Mine.top.o_638 P) (.node (Mine.top.o_1116 P) .nil .nil) .nil)) (.node (Mine.top.o_273 P) (.node (Mine.top.o_401 P) (.node (Mine.top.o_1052 P) .nil .nil) .nil) (.node (Mine.top.o_702 P) (.node (Mine.top.o_1186 P) .nil .nil) .nil))))))) (.node (PySem.W.boot_o_6 P) (.node (PySem.W.boot_o_10 P) (.node (Mine.top.o_11 P) (.node (Mine.top.o_27 P) (.node (Mine.top.o_68 P) (.node (Mine.top.o_143 P) (.node (Mine.top.o_279 P) (.node (Mine.top.o_708 P) .nil .nil) (.node (Mine.top.o_1192 P) .nil .nil)) (.node (Mine.top.o_580 P) (.node (Mine.top.o_1058 P) .nil .nil) .nil)) (.node (Mine.top.o_215 P) (.node (Mine.top.o_343 P) (.node (Mine.top.o_772 P) .nil .nil) (.node (t834 P) .nil .nil)) (.node (Mine.top.o_644 P) (.node (Mine.top.o_1122 P) .nil .nil) .nil))) (.node (Mine.top.o_104 P) (.node (Mine.top.o_183 P) (.node (Mine.top.o_311 P) (.node (Mine.top.o_740 P) .nil .nil) (.node (Mine.top.o_1224 P) .nil .nil)) (.node (Mine.top.o_612 P) (.node (Mine.top.o_1090 P) .nil .nil) .nil)) (.node (Mine.top.o_247 P) (.node (Mine.top.o_375 P) (.node (Mine.top.o_804 P) .nil .nil) (.node (t866 P) .nil .nil)) (.node (Mine.top.o_676 P) (.node (Mine.top.o_1157 P) .nil .nil) .nil)))) (.node (Mine.top.o_47 P) (.node (Mine.top.o_84 P) (.node (Mine.top.o_163 P) (.node (Mine.top.o_295 P) (.node (Mine.top.o_724 P) .nil .nil) (.node (Mine.top.o_1208 P) .nil .nil)) (.node (Mine.top.o_596 P) (.node (Mine.top.o_1074 P) .nil .nil) .nil)) (.node (Mine.top.o_231 P) (.node (Mine.top.o_359 P) (.node (Mine.top.o_788 P) .nil .nil) (.node (t850 P) .nil .nil)) (.node (Mine.top.o_660 P) (.node (Mine.top.o_1141 P) .nil .nil) .nil))) (.node (Mine.top.o_123 P) (.node (Mine.top.o_199 P) (.node (Mine.top.o_327 P) (.node (Mine.top.o_756 P) .nil .nil) (.node (t818 P) .nil .nil)) (.node (Mine.top.o_628 P) (.node (Mine.top.o_1106 P) .nil .nil) .nil)) (.node (Mine.top.o_263 P) (.node (Mine.top.o_391 P) (.node (Mine.top.o_820 P) .nil .nil) (.node (t882 P) .nil .nil)) (.node (Mine.top.o_692 P) (.node (Mine.top.o_1173 P) .nil .nil) .nil))))) (.node (Mine.top.o_19 P) (.node (Mine.top.o_35 P) (.node (Mine.top.o_76 P) (.node (Mine.top.o_151 P) (.node (Mine.top.o_287 P) (.node (Mine.top.o_716 P) .nil .nil) (.node (Mine.top.o_1200 P) .nil .nil)) (.node (Mine.top.o_588 P) (.node (Mine.top.o_1066 P) .nil .nil) .nil)) (.node (Mine.top.o_223 P) (.node (Mine.top.o_351 P) (.node (Mine.top.o_780 P) .nil .nil) (.node (t842 P) .nil .nil)) (.node (Mine.top.o_652 P) (.node (Mine.top.o_1133 P) .nil .nil) .nil))) (.node (Mine.top.o_112 P) (.node (Mine.top.o_191 P) (.node (Mine.top.o_319 P) (.node (Mine.top.o_748 P) .nil .nil) (.node (Mine.top.o_1232 P) .nil .nil)) (.node (Mine.top.o_620 P) (.node (Mine.top.o_1098 P) .nil .nil) .nil)) (.node (Mine.top.o_255 P) (.node (Mine.top.o_383 P) (.node (Mine.top.o_812 P) .nil .nil) (.node (t874 P) .nil .nil)) (.node (Mine.top.o_684 P) (.node (Mine.top.o_1165 P) .nil .nil) .nil)))) (.node (Mine.top.o_55 P) (.node (Mine.top.o_92 P) (.node (Mine.top.o_175 P) (.node (Mine.top.o_303 P) (.node (Mine.top.o_732 P) .nil .nil) (.node (Mine.top.o_1216 P) .nil .nil)) (.node (Mine.top.o_604 P) (.node (Mine.top.o_1082 P) .nil .nil) .nil)) (.node (Mine.top.o_239 P) (.node (Mine.top.o_367 P) (.node (Mine.top.o_796 P) .nil .nil) (.node (t858 P) .nil .nil)) (.node (Mine.top.o_668 P) (.node (Mine.top.o_1149 P) .nil .nil) .nil))) (.node (Mine.top.o_131 P) (.node (Mine.top.o_207 P) (.node (Mine.top.o_335 P) (.node (Mine.top.o_764 P) .nil .nil) (.node (t826 P) .nil .nil)) (.node (Mine.top.o_636 P) (.node (Mine.top.o_1114 P) .nil .nil) .nil)) (.node (Mine.top.o_271 P) (.node (Mine.top.o_399 P) (.node (Mine.top.o_1050 P) .nil .nil) .nil) (.node (Mine.top.o_700 P) (.node (Mine.top.o_1184 P) .nil .nil) .nil)))))) (.node (Mine.top.o_4 P) (.node (Mine.top.o_15 P) (.node (Mine.top.o_31 P) (.node (Mine.top.o_72 P) (.node (Mine.top.o_147 P) (.node (Mine.top.o_283 P) (.node (Mine.top.o_712 P) .nil .nil) (.node (Mine.top.o_1196 P) .nil .nil)) (.node (Mine.top.o_584 P) (.node (Mine.top.o_1062 P) .nil .nil) .nil)) (.node (Mine.top.o_219 P) (.node (Mine.top.o_347 P) (.node (Mine.top.o_776 P) .nil .nil) (.node (t838 P) .nil .nil)) (.node (Mine.top.o_648 P) (.node (Mine.top.o_1126 P) .nil .nil) .nil))) (.node (Mine.top.o_108 P) (.node (Mine.top.o_187 P) (.node (Mine.top.o_315 P) (.node (Mine.top.o_744 P) .nil .nil) (.node (Mine.top.o_1228 P) .nil .nil)) (.node (Mine.top.o_616 P) (.node (Mine.top.o_1094 P) .nil .nil) .nil)) (.node (Mine.top.o_251 P) (.node (Mine.top.o_379 P) (.node (Mine.top.o_808 P) .nil .nil) (.node (t870 P) .nil .nil)) (.node (Mine.top.o_680 P) (.node (Mine.top.o_1161 P) .nil .nil) .nil)))) (.node (Mine.top.o_51 P) (.node (Mine.top.o_88 P) (.node (Mine.top.o_167 P) (.node (Mine.top.o_299 P) (.node (Mine.top.o_728 P) .nil .nil) (.node (Mine.top.o_1212 P) .nil .nil)) (.node (Mine.top.o_600 P) (.node (Mine.top.o_1078 P) .nil .nil) .nil)) (.node (Mine.top.o_235 P) (.node (Mine.top.o_363 P) (.node (Mine.top.o_792 P) .nil .nil) (.node (t854 P) .nil .nil)) (.node (Mine.top.o_664 P) (.node (Mine.top.o_1145 P) .nil .nil) .nil))) (.node (Mine.top.o_127 P) (.node (Mine.top.o_203 P) (.node (Mine.top.o_331 P) (.node (Mine.top.o_760 P) .nil .nil) (.node (t822 P) .nil .nil)) (.node (Mine.top.o_632 P) (.node (Mine.top.o_1110 P) .nil .nil) .nil)) (.node (Mine.top.o_267 P) (.node (Mine.top.o_395 P) (.node (Mine.top.o_824 P) .nil .nil) (.node (t886 P) .nil .nil)) (.node (Mine.top.o_696 P) (.node (Mine.top.o_1180 P) .nil .nil) .nil))))) (.node (Mine.top.o_23 P) (.node (Mine.top.o_39 P) (.node (Mine.top.o_80 P) (.node (Mine.top.o_159 P) (.node (Mine.top.o_291 P) (.node (Mine.top.o_720 P) .nil .nil) (.node (Mine.top.o_1204 P) .nil .nil)) (.node (Mine.top.o_592 P) (.node (Mine.top.o_1070 P) .nil .nil) .nil)) (.node (Mine.top.o_227 P) (.node (Mine.top.o_355 P) (.node (Mine.top.o_784 P) .nil .nil) (.node (t846 P) .nil .nil)) (.node (Mine.top.o_656 P) (.node (Mine.top.o_1137 P) .nil .nil) .nil))) (.node (Mine.top.o_119 P) (.node (Mine.top.o_195 P) (.node (Mine.top.o_323 P) (.node (Mine.top.o_752 P) .nil .nil) (.node (Mine.top.o_1236 P) .nil .nil)) (.node (Mine.top.o_624 P) (.node (Mine.top.o_1102 P) .nil .nil) .nil)) (.node (Mine.top.o_259 P) (.node (Mine.top.o_387 P) (.node (Mine.top.o_816 P) .nil .nil) (.node (t878 P) .nil .nil)) (.node (Mine.top.o_688 P) (.node (Mine.top.o_1169 P) .nil .nil) .nil)))) (.node (Mine.top.o_64 P) (.node (Mine.top.o_96 P) (.node (Mine.top.o_179 P) (.node (Mine.top.o_307 P) (.node (Mine.top.o_736 P) .nil .nil) (.node (Mine.top.o_1220 P) .nil .nil)) (.node (Mine.top.o_608 P) (.node (Mine.top.o_1086 P) .nil .nil) .nil)) (.node (Mine.top.o_243 P) (.node (Mine.top.o_371 P) (.node (Mine.top.o_800 P) .nil .nil) (.node (t862 P) .nil .nil)) (.node (Mine.top.o_672 P) (.node (Mine.top.o_1153 P) .nil .nil) .nil))) (.node (Mine.top.o_135 P) (.node (Mine.top.o_211 P) (.node (Mine.top.o_339 P) (.node (Mine.top.o_768 P) .nil .nil) (.node (t830 P) .nil .nil)) (.node (Mine.top.o_640 P) (.node (Mine.top.o_1118 P) .nil .nil) .nil)) (.node (Mine.top.o_275 P) (.node (Mine.top.o_403 P) (.node (Mine.top.o_1054 P) .nil .nil) .nil) (.node (Mine.top.o_704 P) (.node (Mine.top.o_1188 P) .nil .nil) .nil)))))))))
noncomputable def posD : Pos := (PySem.Pos.mk 738 0 739 141)
-- D: 63..68 steps 128 objs 887 toks 1313 gens 0
noncomputable def t3F : Params → Obj := fun P =>
  PySem.Obj.mk (PySem.Value.type "dict") Option.none
    (PySem.Data.dict
      #[PySem.DictEntry.mk (PySem.PyData.keyHash P (PySem.Str.ofString "__name__")) (PySem.Value.str (PySem.Str.ofString "__name__") 165) (PySem.Value.str (PySem.Str.ofString "law_ez0016_01") 1278),
        PySem.DictEntry.mk (PySem.PyData.keyHash P (PySem.Str.ofString "__doc__")) (PySem.Value.str (PySem.Str.ofString "__doc__") 166) PySem.Value.none,
        PySem.DictEntry.mk (PySem.PyData.keyHash P (PySem.Str.ofString "__package__")) (PySem.Value.str (PySem.Str.ofString "__package__") 167) PySem.Value.none,
        PySem.DictEntry.mk (PySem.PyData.keyHash P (PySem.Str.ofString "__loader__")) (PySem.Value.str (PySem.Str.ofString "__loader__") 168) (PySem.Value.builtin "__main__.__loader__#opaque"),
        PySem.DictEntry.mk (PySem.PyData.keyHash P (PySem.Str.ofString "__spec__")) (PySem.Value.str (PySem.Str.ofString "__spec__") 169) PySem.Value.none,
        PySem.DictEntry.mk (PySem.PyData.keyHash P (PySem.Str.ofString "__annotations__")) (PySem.Value.str (PySem.Str.ofString "__annotations__") 170) (PySem.Value.ref 6),
        PySem.DictEntry.mk (PySem.PyData.keyHash P (PySem.Str.ofString "__builtins__")) (PySem.Value.str (PySem.Str.ofString "__builtins__") 171) (PySem.Value.ref 4),
        PySem.DictEntry.mk (PySem.PyData.keyHash P (PySem.Str.ofString "__file__")) (PySem.Value.str (PySem.Str.ofString "__file__") 173) (PySem.Value.str (PySem.Str.ofString "/claim/cut.py") 172),
        PySem.DictEntry.mk (PySem.PyData.keyHash P (PySem.Str.ofString "__cached__")) (PySem.Value.str (PySem.Str.ofString "__cached__") 174) PySem.Value.none,
        PySem.DictEntry.mk (PySem.PyData.keyHash P (PySem.Str.ofString "_wall")) (PySem.Value.str (PySem.Str.ofString "_wall") 193) (PySem.Value.ref 21),
        PySem.DictEntry.mk (PySem.PyData.keyHash P (PySem.Str.ofString "MAX_PUBKEYS_PER_MULTISIG")) (PySem.Value.str (PySem.Str.ofString "MAX_PUBKEYS_PER_MULTISIG") 195) (PySem.Value.int 20 194),
        PySem.DictEntry.mk (PySem.PyData.keyHash P (PySem.Str.ofString "read_op_code")) (PySem.Value.str (PySem.Str.ofString "read_op_code") 209) (PySem.Value.ref 28),
        PySem.DictEntry.mk (PySem.PyData.keyHash P (PySem.Str.ofString "op_code_spans")) (PySem.Value.str (PySem.Str.ofString "op_code_spans") 220) (PySem.Value.ref 35),
        PySem.DictEntry.mk (PySem.PyData.keyHash P (PySem.Str.ofString "BTClibException")) (PySem.Value.str (PySem.Str.ofString "BTClibException") 242) (PySem.Value.ref 45),
        PySem.DictEntry.mk (PySem.PyData.keyHash P (PySem.Str.ofString "BTClibValueError")) (PySem.Value.str (PySem.Str.ofString "BTClibValueError") 258) (PySem.Value.ref 58),
        PySem.DictEntry.mk (PySem.PyData.keyHash P (PySem.Str.ofString "BTClibTypeError")) (PySem.Value.str (PySem.Str.ofString "BTClibTypeError") 276) (PySem.Value.ref 70),
        PySem.DictEntry.mk (PySem.PyData.keyHash P (PySem.Str.ofString "bytes_from_octets")) (PySem.Value.str (PySem.Str.ofString "bytes_from_octets") 290) (PySem.Value.ref 80),
        PySem.DictEntry.mk (PySem.PyData.keyHash P (PySem.Str.ofString "_whence")) (PySem.Value.str (PySem.Str.ofString "_whence") 300) (PySem.Value.ref 87),
        PySem.DictEntry.mk (PySem.PyData.keyHash P (PySem.Str.ofString "_index")) (PySem.Value.str (PySem.Str.ofString "_index") 308) (PySem.Value.ref 94),
        PySem.DictEntry.mk (PySem.PyData.keyHash P (PySem.Str.ofString "UnsupportedOperation")) (PySem.Value.str (PySem.Str.ofString "UnsupportedOperation") 330) (PySem.Value.ref 104),
        PySem.DictEntry.mk (PySem.PyData.keyHash P (PySem.Str.ofString "IOBase")) (PySem.Value.str (PySem.Str.ofString "IOBase") 362) (PySem.Value.ref 124),
        PySem.DictEntry.mk (PySem.PyData.keyHash P (PySem.Str.ofString "BufferedIOBase")) (PySem.Value.str (PySem.Str.ofString "BufferedIOBase") 380) (PySem.Value.ref 139),
        PySem.DictEntry.mk (PySem.PyData.keyHash P (PySem.Str.ofString "TextIOBase")) (PySem.Value.str (PySem.Str.ofString "TextIOBase") 398) (PySem.Value.ref 151),
        PySem.DictEntry.mk (PySem.PyData.keyHash P (PySem.Str.ofString "BytesIO")) (PySem.Value.str (PySem.Str.ofString "BytesIO") 660) (PySem.Value.ref 381),
        PySem.DictEntry.mk (PySem.PyData.keyHash P (PySem.Str.ofString "StringIO")) (PySem.Value.str (PySem.Str.ofString "StringIO") 947) (PySem.Value.ref 628),
        PySem.DictEntry.mk (PySem.PyData.keyHash P (PySem.Str.ofString "bytesio_from_binarydata")) (PySem.Value.str (PySem.Str.ofString "bytesio_from_binarydata") 956) (PySem.Value.ref 637),
        PySem.DictEntry.mk (PySem.PyData.keyHash P (PySem.Str.ofString "assert_no_trailing")) (PySem.Value.str (PySem.Str.ofString "assert_no_trailing") 966) (PySem.Value.ref 644),
        PySem.DictEntry.mk (PySem.PyData.keyHash P (PySem.Str.ofString "_message_text")) (PySem.Value.str (PySem.Str.ofString "_message_text") 973) (PySem.Value.ref 651),
        PySem.DictEntry.mk (PySem.PyData.keyHash P (PySem.Str.ofString "is_integer")) (PySem.Value.str (PySem.Str.ofString "is_integer") 980) (PySem.Value.ref 658),
        PySem.DictEntry.mk (PySem.PyData.keyHash P (PySem.Str.ofString "is_octets")) (PySem.Value.str (PySem.Str.ofString "is_octets") 987) (PySem.Value.ref 665),
        PySem.DictEntry.mk (PySem.PyData.keyHash P (PySem.Str.ofString "assert_type")) (PySem.Value.str (PySem.Str.ofString "assert_type") 996) (PySem.Value.ref 672),
        PySem.DictEntry.mk (PySem.PyData.keyHash P (PySem.Str.ofString "int_from_integer")) (PySem.Value.str (PySem.Str.ofString "int_from_integer") 1006) (PySem.Value.ref 679),
        PySem.DictEntry.mk (PySem.PyData.keyHash P (PySem.Str.ofString "hex_string")) (PySem.Value.str (PySem.Str.ofString "hex_string") 1012) (PySem.Value.ref 684),
        PySem.DictEntry.mk (PySem.PyData.keyHash P (PySem.Str.ofString "_is_funct")) (PySem.Value.str (PySem.Str.ofString "_is_funct") 1022) (PySem.Value.ref 691),
        PySem.DictEntry.mk (PySem.PyData.keyHash P (PySem.Str.ofString "assert_p2sh")) (PySem.Value.str (PySem.Str.ofString "assert_p2sh") 1030) (PySem.Value.ref 698),
        PySem.DictEntry.mk (PySem.PyData.keyHash P (PySem.Str.ofString "is_p2sh")) (PySem.Value.str (PySem.Str.ofString "is_p2sh") 1037) (PySem.Value.ref 705),
        PySem.DictEntry.mk (PySem.PyData.keyHash P (PySem.Str.ofString "assert_segwit")) (PySem.Value.str (PySem.Str.ofString "assert_segwit") 1044) (PySem.Value.ref 712),
        PySem.DictEntry.mk (PySem.PyData.keyHash P (PySem.Str.ofString "is_segwit")) (PySem.Value.str (PySem.Str.ofString "is_segwit") 1051) (PySem.Value.ref 719),
        PySem.DictEntry.mk (PySem.PyData.keyHash P (PySem.Str.ofString "MAX_SIZE")) (PySem.Value.str (PySem.Str.ofString "MAX_SIZE") 1055) (PySem.Value.int 33554432 1054),
        PySem.DictEntry.mk (PySem.PyData.keyHash P (PySem.Str.ofString "_parse_number")) (PySem.Value.str (PySem.Str.ofString "_parse_number") 1067) (PySem.Value.ref 726),
        PySem.DictEntry.mk (PySem.PyData.keyHash P (PySem.Str.ofString "parse")) (PySem.Value.str (PySem.Str.ofString "parse") 1078) (PySem.Value.ref 749),
        PySem.DictEntry.mk (PySem.PyData.keyHash P (PySem.Str.ofString "parse_var_int")) (PySem.Value.str (PySem.Str.ofString "parse_var_int") 1079) (PySem.Value.ref 734),
        PySem.DictEntry.mk (PySem.PyData.keyHash P (PySem.Str.ofString "serialize")) (PySem.Value.str (PySem.Str.ofString "serialize") 1086) (PySem.Value.ref 756),
        PySem.DictEntry.mk (PySem.PyData.keyHash P (PySem.Str.ofString "serialize_var_int")) (PySem.Value.str (PySem.Str.ofString "serialize_var_int") 1087) (PySem.Value.ref 741),
        PySem.DictEntry.mk (PySem.PyData.keyHash P (PySem.Str.ofString "parse_var_bytes")) (PySem.Value.str (PySem.Str.ofString "parse_var_bytes") 1100) (PySem.Value.ref 749),
        PySem.DictEntry.mk (PySem.PyData.keyHash P (PySem.Str.ofString "serialize_var_bytes")) (PySem.Value.str (PySem.Str.ofString "serialize_var_bytes") 1109) (PySem.Value.ref 756),
        PySem.DictEntry.mk (PySem.PyData.keyHash P (PySem.Str.ofString "MAX_WITNESS_STACK_ITEMS")) (PySem.Value.str (PySem.Str.ofString "MAX_WITNESS_STACK_ITEMS") 1111) (PySem.Value.int 4000000 1110),
        PySem.DictEntry.mk (PySem.PyData.keyHash P (PySem.Str.ofString "Witness")) (PySem.Value.str (PySem.Str.ofString "Witness") 1192) (PySem.Value.ref 811),
        PySem.DictEntry.mk (PySem.PyData.keyHash P (PySem.Str.ofString "_CHECKSIG")) (PySem.Value.str (PySem.Str.ofString "_CHECKSIG") 1199) (PySem.Value.ref 816),
        PySem.DictEntry.mk (PySem.PyData.keyHash P (PySem.Str.ofString "_CHECKMULTISIG")) (PySem.Value.str (PySem.Str.ofString "_CHECKMULTISIG") 1204) (PySem.Value.ref 817),
        PySem.DictEntry.mk (PySem.PyData.keyHash P (PySem.Str.ofString "_OP_PUSHDATA1")) (PySem.Value.str (PySem.Str.ofString "_OP_PUSHDATA1") 1206) (PySem.Value.int 76 1205),
        PySem.DictEntry.mk (PySem.PyData.keyHash P (PySem.Str.ofString "_OP_PUSHDATA4")) (PySem.Value.str (PySem.Str.ofString "_OP_PUSHDATA4") 1208) (PySem.Value.int 78 1207),
        PySem.DictEntry.mk (PySem.PyData.keyHash P (PySem.Str.ofString "_OP_1")) (PySem.Value.str (PySem.Str.ofString "_OP_1") 1210) (PySem.Value.int 81 1209),
        PySem.DictEntry.mk (PySem.PyData.keyHash P (PySem.Str.ofString "_OP_16")) (PySem.Value.str (PySem.Str.ofString "_OP_16") 1212) (PySem.Value.int 96 1211),
        PySem.DictEntry.mk (PySem.PyData.keyHash P (PySem.Str.ofString "_sig_op_count")) (PySem.Value.str (PySem.Str.ofString "_sig_op_count") 1224) (PySem.Value.ref 824),
        PySem.DictEntry.mk (PySem.PyData.keyHash P (PySem.Str.ofString "sig_op_count")) (PySem.Value.str (PySem.Str.ofString "sig_op_count") 1233) (PySem.Value.ref 832),
        PySem.DictEntry.mk (PySem.PyData.keyHash P (PySem.Str.ofString "_last_push")) (PySem.Value.str (PySem.Str.ofString "_last_push") 1246) (PySem.Value.ref 839),
        PySem.DictEntry.mk (PySem.PyData.keyHash P (PySem.Str.ofString "p2sh_sig_op_count")) (PySem.Value.str (PySem.Str.ofString "p2sh_sig_op_count") 1257) (PySem.Value.ref 846),
        PySem.DictEntry.mk (PySem.PyData.keyHash P (PySem.Str.ofString "_witness_program_sig_op_count")) (PySem.Value.str (PySem.Str.ofString "_witness_program_sig_op_count") 1265) (PySem.Value.ref 853),
        PySem.DictEntry.mk (PySem.PyData.keyHash P (PySem.Str.ofString "witness_sig_op_count")) (PySem.Value.str (PySem.Str.ofString "witness_sig_op_count") 1277) (PySem.Value.ref 860),
        PySem.DictEntry.mk (PySem.PyData.keyHash P (PySem.Str.ofString "_law_steps")) (PySem.Value.str (PySem.Str.ofString "_law_steps") 1285) (PySem.Value.ref 865),
        PySem.DictEntry.mk (PySem.PyData.keyHash P (PySem.Str.ofString "_law_count")) (PySem.Value.str (PySem.Str.ofString "_law_count") 1297) (PySem.Value.ref 872),
        PySem.DictEntry.mk (PySem.PyData.keyHash P (PySem.Str.ofString "_law_program")) (PySem.Value.str (PySem.Str.ofString "_law_program") 1305) (PySem.Value.ref 879),
        PySem.DictEntry.mk (PySem.PyData.keyHash P (PySem.Str.ofString "_law_is_program")) (PySem.Value.str (PySem.Str.ofString "_law_is_program") 1312) (PySem.Value.ref 886),
        PySem.DictEntry.mk (PySem.PyData.keyHash P (PySem.Str.ofString "_law_pushed")) (PySem.Value.str (PySem.Str.ofString "_law_pushed") 1321) (PySem.Value.ref 893),
        PySem.DictEntry.mk (PySem.PyData.keyHash P (PySem.Str.ofString "_law_step")) (PySem.Value.str (PySem.Str.ofString "_law_step") 1327) (PySem.Value.ref 898),
        PySem.DictEntry.mk (PySem.PyData.keyHash P (PySem.Str.ofString "_law_last")) (PySem.Value.str (PySem.Str.ofString "_law_last") 1333) (PySem.Value.ref 903),
        PySem.DictEntry.mk (PySem.PyData.keyHash P (PySem.Str.ofString "_law_wrong")) (PySem.Value.str (PySem.Str.ofString "_law_wrong") 1340) (PySem.Value.ref 910),
        PySem.DictEntry.mk (PySem.PyData.keyHash P (PySem.Str.ofString "law")) (PySem.Value.str (PySem.Str.ofString "law") 1346) (PySem.Value.ref 915)]
      69)
    #[]
noncomputable def t12F : Params → Obj := fun P =>
  PySem.Obj.mk PySem.Value.none Option.none
    (PySem.Data.fields
      #[PySem.Value.int 1 0, PySem.Value.int 0 0, PySem.Value.ref 20, PySem.Value.int 6 0, PySem.Value.int 0 0, PySem.Value.ref 27, PySem.Value.int 23 0, PySem.Value.int 0 0, PySem.Value.ref 34, PySem.Value.int 30 0, PySem.Value.int 0 0,
        PySem.Value.ref 41, PySem.Value.int 32 0, PySem.Value.int 0 0, PySem.Value.ref 54, PySem.Value.int 34 0, PySem.Value.int 0 0, PySem.Value.ref 66, PySem.Value.int 37 0, PySem.Value.int 0 0, PySem.Value.ref 79, PySem.Value.int 68 0,
        PySem.Value.int 0 0, PySem.Value.ref 86, PySem.Value.int 73 0, PySem.Value.int 0 0, PySem.Value.ref 93, PySem.Value.int 80 0, PySem.Value.int 0 0, PySem.Value.ref 100, PySem.Value.int 82 0, PySem.Value.int 0 0, PySem.Value.ref 113,
        PySem.Value.int 89 0, PySem.Value.int 0 0, PySem.Value.ref 135, PySem.Value.int 91 0, PySem.Value.int 0 0, PySem.Value.ref 147, PySem.Value.int 93 0, PySem.Value.int 0 0, PySem.Value.ref 159, PySem.Value.int 263 0,
        PySem.Value.int 0 0, PySem.Value.ref 389, PySem.Value.int 469 0, PySem.Value.int 0 0, PySem.Value.ref 636, PySem.Value.int 473 0, PySem.Value.int 0 0, PySem.Value.ref 643, PySem.Value.int 479 0, PySem.Value.int 0 0,
        PySem.Value.ref 650, PySem.Value.int 481 0, PySem.Value.int 0 0, PySem.Value.ref 657, PySem.Value.int 483 0, PySem.Value.int 0 0, PySem.Value.ref 664, PySem.Value.int 485 0, PySem.Value.int 0 0, PySem.Value.ref 671,
        PySem.Value.int 488 0, PySem.Value.int 0 0, PySem.Value.ref 678, PySem.Value.int 505 0, PySem.Value.int 0 0, PySem.Value.ref 683, PySem.Value.int 517 0, PySem.Value.int 0 0, PySem.Value.ref 690, PySem.Value.int 523 0,
        PySem.Value.int 0 0, PySem.Value.ref 697, PySem.Value.int 533 0, PySem.Value.int 0 0, PySem.Value.ref 704, PySem.Value.int 535 0, PySem.Value.int 0 0, PySem.Value.ref 711, PySem.Value.int 545 0, PySem.Value.int 0 0,
        PySem.Value.ref 718, PySem.Value.int 549 0, PySem.Value.int 0 0, PySem.Value.ref 725, PySem.Value.int 558 0, PySem.Value.int 0 0, PySem.Value.ref 733, PySem.Value.int 577 0, PySem.Value.int 0 0, PySem.Value.ref 740,
        PySem.Value.int 593 0, PySem.Value.int 0 0, PySem.Value.ref 748, PySem.Value.int 603 0, PySem.Value.int 0 0, PySem.Value.ref 755, PySem.Value.int 609 0, PySem.Value.int 0 0, PySem.Value.ref 762, PySem.Value.int 648 0,
        PySem.Value.int 0 0, PySem.Value.ref 823, PySem.Value.int 661 0, PySem.Value.int 0 0, PySem.Value.ref 831, PySem.Value.int 664 0, PySem.Value.int 0 0, PySem.Value.ref 838, PySem.Value.int 676 0, PySem.Value.int 0 0,
        PySem.Value.ref 845, PySem.Value.int 685 0, PySem.Value.int 0 0, PySem.Value.ref 852, PySem.Value.int 692 0, PySem.Value.int 0 0, PySem.Value.ref 859, PySem.Value.int 704 0, PySem.Value.int 0 0, PySem.Value.ref 864,
        PySem.Value.int 722 0, PySem.Value.int 0 0, PySem.Value.ref 871, PySem.Value.int 732 0, PySem.Value.int 0 0, PySem.Value.ref 878, PySem.Value.int 738 0, PySem.Value.int 0 0, PySem.Value.ref 885, PySem.Value.int 740 0,
        PySem.Value.int 0 0, PySem.Value.ref 892, PySem.Value.int 745 0, PySem.Value.int 0 0, PySem.Value.ref 897, PySem.Value.int 752 0, PySem.Value.int 0 0, PySem.Value.ref 902, PySem.Value.int 757 0, PySem.Value.int 0 0,
        PySem.Value.ref 909, PySem.Value.int 763 0, PySem.Value.int 0 0, PySem.Value.ref 914])
    #[]
noncomputable def t887 : Params → Obj := fun P =>
  PySem.Obj.mk (PySem.Value.type "tuple") Option.none (PySem.Data.seq #[]) #[]
noncomputable def t888 : Params → Obj := fun P =>
  PySem.Obj.mk PySem.Value.none Option.none (PySem.Data.fields #[]) #[]
noncomputable def t889 : Params → Obj := fun P =>
  PySem.Obj.mk (PySem.Value.type "tuple") Option.none (PySem.Data.seq #[PySem.Value.str (PySem.Str.ofString "octets") 1316, PySem.Value.str (PySem.Str.ofString "width") 1317, PySem.Value.str (PySem.Str.ofString "size") 1318]) #[]
noncomputable def t890 : Params → Obj := fun P =>
  PySem.Obj.mk (PySem.Value.type "tuple") Option.none (PySem.Data.seq #[]) #[]
noncomputable def t892 : Params → Obj := fun P =>
  PySem.Obj.mk (PySem.Value.type "code") Option.none
    (PySem.Data.fields
      #[PySem.Value.str (PySem.Str.ofString "_law_pushed") 1313, PySem.Value.str (PySem.Str.ofString "_law_pushed") 1314, PySem.Value.str (PySem.Str.ofString "/claim/cut.py") 1315, PySem.Value.int 740 0, PySem.Value.int 2 0,
        PySem.Value.int 0 0, PySem.Value.int 0 0, PySem.Value.int 3 0, PySem.Value.ref 887, PySem.Value.bool Bool.true, PySem.Value.int 181 0, PySem.Value.ref 888, PySem.Value.none, PySem.Value.ref 889, PySem.Value.ref 890,
        PySem.Value.ref 891, PySem.Value.int 1319 0, PySem.Value.int 740 0, PySem.Value.str (PySem.Str.ofString "/claim/cut.py") 1320])
    #[]
noncomputable def t893 : Params → Obj := fun P =>
  PySem.Obj.mk (PySem.Value.type "function") Option.none (PySem.Data.func (fnS (nth pw.main.body 68) PySem.Value.none (PySem.Value.none) (PySem.Value.str (PySem.Str.ofString "law_ez0016_01") 1278) (PySem.Value.ref 892))) #[]
noncomputable def t894 : Params → Obj := fun P =>
  PySem.Obj.mk (PySem.Value.type "tuple") Option.none (PySem.Data.seq #[]) #[]
noncomputable def t895 : Params → Obj := fun P =>
  PySem.Obj.mk PySem.Value.none Option.none (PySem.Data.fields #[]) #[]
noncomputable def t897 : Params → Obj := fun P =>
  PySem.Obj.mk (PySem.Value.type "code") Option.none
    (PySem.Data.fields
      #[PySem.Value.str (PySem.Str.ofString "_law_step") 1322, PySem.Value.str (PySem.Str.ofString "_law_step") 1323, PySem.Value.str (PySem.Str.ofString "/claim/cut.py") 1324, PySem.Value.int 745 0, PySem.Value.int 1 0, PySem.Value.int 0 0,
        PySem.Value.int 0 0, PySem.Value.int 3 0, PySem.Value.ref 894, PySem.Value.bool Bool.true, PySem.Value.int 181 0, PySem.Value.ref 895, PySem.Value.none, PySem.Value.none, PySem.Value.none, PySem.Value.ref 896, PySem.Value.int 1325 0,
        PySem.Value.int 745 0, PySem.Value.str (PySem.Str.ofString "/claim/cut.py") 1326])
    #[]
noncomputable def t898 : Params → Obj := fun P =>
  PySem.Obj.mk (PySem.Value.type "function") Option.none (PySem.Data.func (fnS (nth pw.main.body 69) PySem.Value.none (PySem.Value.none) (PySem.Value.str (PySem.Str.ofString "law_ez0016_01") 1278) (PySem.Value.ref 897))) #[]
noncomputable def t899 : Params → Obj := fun P =>
  PySem.Obj.mk (PySem.Value.type "tuple") Option.none (PySem.Data.seq #[]) #[]
noncomputable def t900 : Params → Obj := fun P =>
  PySem.Obj.mk PySem.Value.none Option.none (PySem.Data.fields #[]) #[]
noncomputable def t902 : Params → Obj := fun P =>
  PySem.Obj.mk (PySem.Value.type "code") Option.none
    (PySem.Data.fields
      #[PySem.Value.str (PySem.Str.ofString "_law_last") 1328, PySem.Value.str (PySem.Str.ofString "_law_last") 1329, PySem.Value.str (PySem.Str.ofString "/claim/cut.py") 1330, PySem.Value.int 752 0, PySem.Value.int 1 0, PySem.Value.int 0 0,
        PySem.Value.int 0 0, PySem.Value.int 3 0, PySem.Value.ref 899, PySem.Value.bool Bool.true, PySem.Value.int 181 0, PySem.Value.ref 900, PySem.Value.none, PySem.Value.none, PySem.Value.none, PySem.Value.ref 901, PySem.Value.int 1331 0,
        PySem.Value.int 752 0, PySem.Value.str (PySem.Str.ofString "/claim/cut.py") 1332])
    #[]
noncomputable def t903 : Params → Obj := fun P =>
  PySem.Obj.mk (PySem.Value.type "function") Option.none (PySem.Data.func (fnS (nth pw.main.body 70) PySem.Value.none (PySem.Value.none) (PySem.Value.str (PySem.Str.ofString "law_ez0016_01") 1278) (PySem.Value.ref 902))) #[]
noncomputable def t904 : Params → Obj := fun P =>
  PySem.Obj.mk (PySem.Value.type "tuple") Option.none (PySem.Data.seq #[]) #[]
noncomputable def t905 : Params → Obj := fun P =>
  PySem.Obj.mk PySem.Value.none Option.none (PySem.Data.fields #[]) #[]
noncomputable def t906 : Params → Obj := fun P =>
  PySem.Obj.mk (PySem.Value.type "tuple") Option.none (PySem.Data.seq #[PySem.Value.str (PySem.Str.ofString "octets") 1337]) #[]
noncomputable def t907 : Params → Obj := fun P =>
  PySem.Obj.mk (PySem.Value.type "tuple") Option.none (PySem.Data.seq #[]) #[]
noncomputable def t909 : Params → Obj := fun P =>
  PySem.Obj.mk (PySem.Value.type "code") Option.none
    (PySem.Data.fields
      #[PySem.Value.str (PySem.Str.ofString "_law_wrong") 1334, PySem.Value.str (PySem.Str.ofString "_law_wrong") 1335, PySem.Value.str (PySem.Str.ofString "/claim/cut.py") 1336, PySem.Value.int 757 0, PySem.Value.int 1 0,
        PySem.Value.int 0 0, PySem.Value.int 0 0, PySem.Value.int 3 0, PySem.Value.ref 904, PySem.Value.bool Bool.true, PySem.Value.int 181 0, PySem.Value.ref 905, PySem.Value.none, PySem.Value.ref 906, PySem.Value.ref 907,
        PySem.Value.ref 908, PySem.Value.int 1338 0, PySem.Value.int 757 0, PySem.Value.str (PySem.Str.ofString "/claim/cut.py") 1339])
    #[]
noncomputable def t910 : Params → Obj := fun P =>
  PySem.Obj.mk (PySem.Value.type "function") Option.none (PySem.Data.func (fnS (nth pw.main.body 71) PySem.Value.none (PySem.Value.none) (PySem.Value.str (PySem.Str.ofString "law_ez0016_01") 1278) (PySem.Value.ref 909))) #[]
noncomputable def t911 : Params → Obj := fun P =>
  PySem.Obj.mk (PySem.Value.type "tuple") Option.none (PySem.Data.seq #[]) #[]
noncomputable def t912 : Params → Obj := fun P =>
  PySem.Obj.mk PySem.Value.none Option.none (PySem.Data.fields #[]) #[]
noncomputable def t914 : Params → Obj := fun P =>
  PySem.Obj.mk (PySem.Value.type "code") Option.none
    (PySem.Data.fields
      #[PySem.Value.str (PySem.Str.ofString "law") 1341, PySem.Value.str (PySem.Str.ofString "law") 1342, PySem.Value.str (PySem.Str.ofString "/claim/cut.py") 1343, PySem.Value.int 763 0, PySem.Value.int 1 0, PySem.Value.int 0 0,
        PySem.Value.int 0 0, PySem.Value.int 3 0, PySem.Value.ref 911, PySem.Value.bool Bool.true, PySem.Value.int 181 0, PySem.Value.ref 912, PySem.Value.none, PySem.Value.none, PySem.Value.none, PySem.Value.ref 913, PySem.Value.int 1344 0,
        PySem.Value.int 763 0, PySem.Value.str (PySem.Str.ofString "/claim/cut.py") 1345])
    #[]
noncomputable def t915 : Params → Obj := fun P =>
  PySem.Obj.mk (PySem.Value.type "function") Option.none (PySem.Data.func (fnS (nth pw.main.body 72) PySem.Value.none (PySem.Value.none) (PySem.Value.str (PySem.Str.ofString "law_ez0016_01") 1278) (PySem.Value.ref 914))) #[]
noncomputable def t891 : Params → Obj := fun P => bare (t893 P)
noncomputable def t896 : Params → Obj := fun P => bare (t898 P)
noncomputable def t901 : Params → Obj := fun P => bare (t903 P)
noncomputable def t908 : Params → Obj := fun P => bare (t910 P)
noncomputable def t913 : Params → Obj := fun P => bare (t915 P)
noncomputable def treeF : Params → BT := fun P =>
  (.node (PySem.W.boot_o_0 P) (.node (PySem.W.boot_o_1 P) (.node (t3F P) (.node (PySem.W.boot_o_7 P) (.node (Mine.top.o_8 P) (.node (Mine.top.o_24 P) (.node (Mine.top.o_65 P) (.node (Mine.top.o_136 P) (.node (Mine.top.o_276 P) (.node (Mine.top.o_705 P) .nil .nil) (.node (Mine.top.o_1189 P) .nil .nil)) (.node (Mine.top.o_404 P) (.node (Mine.top.o_1055 P) .nil .nil) (.node (t895 P) .nil .nil))) (.node (Mine.top.o_212 P) (.node (Mine.top.o_340 P) (.node (Mine.top.o_769 P) .nil .nil) (.node (t831 P) .nil .nil)) (.node (Mine.top.o_641 P) (.node (Mine.top.o_1119 P) .nil .nil) .nil))) (.node (Mine.top.o_101 P) (.node (Mine.top.o_180 P) (.node (Mine.top.o_308 P) (.node (Mine.top.o_737 P) .nil .nil) (.node (Mine.top.o_1221 P) .nil .nil)) (.node (Mine.top.o_609 P) (.node (Mine.top.o_1087 P) .nil .nil) .nil)) (.node (Mine.top.o_244 P) (.node (Mine.top.o_372 P) (.node (Mine.top.o_801 P) .nil .nil) (.node (t863 P) .nil .nil)) (.node (Mine.top.o_673 P) (.node (Mine.top.o_1154 P) .nil .nil) .nil)))) (.node (Mine.top.o_40 P) (.node (Mine.top.o_81 P) (.node (Mine.top.o_160 P) (.node (Mine.top.o_292 P) (.node (Mine.top.o_721 P) .nil .nil) (.node (Mine.top.o_1205 P) .nil .nil)) (.node (Mine.top.o_593 P) (.node (Mine.top.o_1071 P) .nil .nil) (.node (t911 P) .nil .nil))) (.node (Mine.top.o_228 P) (.node (Mine.top.o_356 P) (.node (Mine.top.o_785 P) .nil .nil) (.node (t847 P) .nil .nil)) (.node (Mine.top.o_657 P) (.node (Mine.top.o_1138 P) .nil .nil) .nil))) (.node (Mine.top.o_120 P) (.node (Mine.top.o_196 P) (.node (Mine.top.o_324 P) (.node (Mine.top.o_753 P) .nil .nil) (.node (Mine.top.o_1237 P) .nil .nil)) (.node (Mine.top.o_625 P) (.node (Mine.top.o_1103 P) .nil .nil) .nil)) (.node (Mine.top.o_260 P) (.node (Mine.top.o_388 P) (.node (Mine.top.o_817 P) .nil .nil) (.node (t879 P) .nil .nil)) (.node (Mine.top.o_689 P) (.node (Mine.top.o_1170 P) .nil .nil) .nil))))) (.node (Mine.top.o_16 P) (.node (Mine.top.o_32 P) (.node (Mine.top.o_73 P) (.node (Mine.top.o_148 P) (.node (Mine.top.o_284 P) (.node (Mine.top.o_713 P) .nil .nil) (.node (Mine.top.o_1197 P) .nil .nil)) (.node (Mine.top.o_585 P) (.node (Mine.top.o_1063 P) .nil .nil) (.node (t903 P) .nil .nil))) (.node (Mine.top.o_220 P) (.node (Mine.top.o_348 P) (.node (Mine.top.o_777 P) .nil .nil) (.node (t839 P) .nil .nil)) (.node (Mine.top.o_649 P) (.node (Mine.top.o_1127 P) .nil .nil) .nil))) (.node (Mine.top.o_109 P) (.node (Mine.top.o_188 P) (.node (Mine.top.o_316 P) (.node (Mine.top.o_745 P) .nil .nil) (.node (Mine.top.o_1229 P) .nil .nil)) (.node (Mine.top.o_617 P) (.node (Mine.top.o_1095 P) .nil .nil) .nil)) (.node (Mine.top.o_252 P) (.node (Mine.top.o_380 P) (.node (Mine.top.o_809 P) .nil .nil) (.node (t871 P) .nil .nil)) (.node (Mine.top.o_681 P) (.node (Mine.top.o_1162 P) .nil .nil) .nil)))) (.node (Mine.top.o_52 P) (.node (Mine.top.o_89 P) (.node (Mine.top.o_577 P) (.node (Mine.top.o_300 P) (.node (Mine.top.o_729 P) .nil .nil) (.node (Mine.top.o_1213 P) .nil .nil)) (.node (Mine.top.o_601 P) (.node (Mine.top.o_1079 P) .nil .nil) .nil)) (.node (Mine.top.o_236 P) (.node (Mine.top.o_364 P) (.node (Mine.top.o_793 P) .nil .nil) (.node (t855 P) .nil .nil)) (.node (Mine.top.o_665 P) (.node (Mine.top.o_1146 P) .nil .nil) .nil))) (.node (Mine.top.o_128 P) (.node (Mine.top.o_204 P) (.node (Mine.top.o_332 P) (.node (Mine.top.o_761 P) .nil .nil) (.node (t823 P) .nil .nil)) (.node (Mine.top.o_633 P) (.node (Mine.top.o_1111 P) .nil .nil) .nil)) (.node (Mine.top.o_268 P) (.node (Mine.top.o_396 P) (.node (Mine.top.o_1047 P) .nil .nil) (.node (t887 P) .nil .nil)) (.node (Mine.top.o_697 P) (.node (Mine.top.o_1181 P) .nil .nil) .nil)))))) (.node (Mine.top.o_1 P) (.node (Mine.top.o_12 P) (.node (Mine.top.o_28 P) (.node (Mine.top.o_69 P) (.node (Mine.top.o_144 P) (.node (Mine.top.o_280 P) (.node (Mine.top.o_709 P) .nil .nil) (.node (Mine.top.o_1193 P) .nil .nil)) (.node (Mine.top.o_581 P) (.node (Mine.top.o_1059 P) .nil .nil) (.node (t899 P) .nil .nil))) (.node (Mine.top.o_216 P) (.node (Mine.top.o_344 P) (.node (Mine.top.o_773 P) .nil .nil) (.node (t835 P) .nil .nil)) (.node (Mine.top.o_645 P) (.node (Mine.top.o_1123 P) .nil .nil) .nil))) (.node (Mine.top.o_105 P) (.node (Mine.top.o_184 P) (.node (Mine.top.o_312 P) (.node (Mine.top.o_741 P) .nil .nil) (.node (Mine.top.o_1225 P) .nil .nil)) (.node (Mine.top.o_613 P) (.node (Mine.top.o_1091 P) .nil .nil) .nil)) (.node (Mine.top.o_248 P) (.node (Mine.top.o_376 P) (.node (Mine.top.o_805 P) .nil .nil) (.node (t867 P) .nil .nil)) (.node (Mine.top.o_677 P) (.node (Mine.top.o_1158 P) .nil .nil) .nil)))) (.node (Mine.top.o_48 P) (.node (Mine.top.o_85 P) (.node (Mine.top.o_164 P) (.node (Mine.top.o_296 P) (.node (Mine.top.o_725 P) .nil .nil) (.node (Mine.top.o_1209 P) .nil .nil)) (.node (Mine.top.o_597 P) (.node (Mine.top.o_1075 P) .nil .nil) (.node (t915 P) .nil .nil))) (.node (Mine.top.o_232 P) (.node (Mine.top.o_360 P) (.node (Mine.top.o_789 P) .nil .nil) (.node (t851 P) .nil .nil)) (.node (Mine.top.o_661 P) (.node (Mine.top.o_1142 P) .nil .nil) .nil))) (.node (Mine.top.o_124 P) (.node (Mine.top.o_200 P) (.node (Mine.top.o_328 P) (.node (Mine.top.o_757 P) .nil .nil) (.node (t819 P) .nil .nil)) (.node (Mine.top.o_629 P) (.node (Mine.top.o_1107 P) .nil .nil) .nil)) (.node (Mine.top.o_264 P) (.node (Mine.top.o_392 P) (.node (Mine.top.o_821 P) .nil .nil) (.node (t883 P) .nil .nil)) (.node (Mine.top.o_693 P) (.node (Mine.top.o_1174 P) .nil .nil) .nil))))) (.node (Mine.top.o_20 P) (.node (Mine.top.o_36 P) (.node (Mine.top.o_77 P) (.node (Mine.top.o_174 P) (.node (Mine.top.o_288 P) (.node (Mine.top.o_717 P) .nil .nil) (.node (Mine.top.o_1201 P) .nil .nil)) (.node (Mine.top.o_589 P) (.node (Mine.top.o_1067 P) .nil .nil) (.node (t907 P) .nil .nil))) (.node (Mine.top.o_224 P) (.node (Mine.top.o_352 P) (.node (Mine.top.o_781 P) .nil .nil) (.node (t843 P) .nil .nil)) (.node (Mine.top.o_653 P) (.node (Mine.top.o_1134 P) .nil .nil) .nil))) (.node (Mine.top.o_113 P) (.node (Mine.top.o_192 P) (.node (Mine.top.o_320 P) (.node (Mine.top.o_749 P) .nil .nil) (.node (Mine.top.o_1233 P) .nil .nil)) (.node (Mine.top.o_621 P) (.node (Mine.top.o_1099 P) .nil .nil) .nil)) (.node (Mine.top.o_256 P) (.node (Mine.top.o_384 P) (.node (Mine.top.o_813 P) .nil .nil) (.node (t875 P) .nil .nil)) (.node (Mine.top.o_685 P) (.node (Mine.top.o_1166 P) .nil .nil) .nil)))) (.node (Mine.top.o_56 P) (.node (Mine.top.o_93 P) (.node (Mine.top.o_176 P) (.node (Mine.top.o_304 P) (.node (Mine.top.o_733 P) .nil .nil) (.node (Mine.top.o_1217 P) .nil .nil)) (.node (Mine.top.o_605 P) (.node (Mine.top.o_1083 P) .nil .nil) .nil)) (.node (Mine.top.o_240 P) (.node (Mine.top.o_368 P) (.node (Mine.top.o_797 P) .nil .nil) (.node (t859 P) .nil .nil)) (.node (Mine.top.o_669 P) (.node (Mine.top.o_1150 P) .nil .nil) .nil))) (.node (Mine.top.o_132 P) (.node (Mine.top.o_208 P) (.node (Mine.top.o_336 P) (.node (Mine.top.o_765 P) .nil .nil) (.node (t827 P) .nil .nil)) (.node (Mine.top.o_637 P) (.node (Mine.top.o_1115 P) .nil .nil) .nil)) (.node (Mine.top.o_272 P) (.node (Mine.top.o_400 P) (.node (Mine.top.o_1051 P) .nil .nil) (.node (t891 P) .nil .nil)) (.node (Mine.top.o_701 P) (.node (Mine.top.o_1185 P) .nil .nil) .nil))))))) (.node (PySem.W.boot_o_5 P) (.node (PySem.W.boot_o_9 P) (.node (Mine.top.o_10 P) (.node (Mine.top.o_26 P) (.node (Mine.top.o_67 P) (.node (Mine.top.o_138 P) (.node (Mine.top.o_278 P) (.node (Mine.top.o_707 P) .nil .nil) (.node (Mine.top.o_1191 P) .nil .nil)) (.node (Mine.top.o_579 P) (.node (Mine.top.o_1057 P) .nil .nil) (.node (t897 P) .nil .nil))) (.node (Mine.top.o_214 P) (.node (Mine.top.o_342 P) (.node (Mine.top.o_771 P) .nil .nil) (.node (t833 P) .nil .nil)) (.node (Mine.top.o_643 P) (.node (Mine.top.o_1121 P) .nil .nil) .nil))) (.node (Mine.top.o_103 P) (.node (Mine.top.o_182 P) (.node (Mine.top.o_310 P) (.node (Mine.top.o_739 P) .nil .nil) (.node (Mine.top.o_1223 P) .nil .nil)) (.node (Mine.top.o_611 P) (.node (Mine.top.o_1089 P) .nil .nil) .nil)) (.node (Mine.top.o_246 P) (.node (Mine.top.o_374 P) (.node (Mine.top.o_803 P) .nil .nil) (.node (t865 P) .nil .nil)) (.node (Mine.top.o_675 P) (.node (Mine.top.o_1156 P) .nil .nil) .nil)))) (.node (Mine.top.o_46 P) (.node (Mine.top.o_83 P) (.node (Mine.top.o_162 P) (.node (Mine.top.o_294 P) (.node (Mine.top.o_723 P) .nil .nil) (.node (Mine.top.o_1207 P) .nil .nil)) (.node (Mine.top.o_595 P) (.node (Mine.top.o_1073 P) .nil .nil) (.node (t913 P) .nil .nil))) (.node (Mine.top.o_230 P) (.node (Mine.top.o_358 P) (.node (Mine.top.o_787 P) .nil .nil) (.node (t849 P) .nil .nil)) (.node (Mine.top.o_659 P) (.node (Mine.top.o_1140 P) .nil .nil) .nil))) (.node (Mine.top.o_122 P) (.node (Mine.top.o_198 P) (.node (Mine.top.o_326 P) (.node (Mine.top.o_755 P) .nil .nil) (.node (t817 P) .nil .nil)) (.node (Mine.top.o_627 P) (.node (Mine.top.o_1105 P) .nil .nil) .nil)) (.node (Mine.top.o_262 P) (.node (Mine.top.o_390 P) (.node (Mine.top.o_819 P) .nil .nil) (.node (t881 P) .nil .nil)) (.node (Mine.top.o_691 P) (.node (Mine.top.o_1172 P) .nil .nil) .nil))))) (.node (Mine.top.o_18 P) (.node (Mine.top.o_34 P) (.node (Mine.top.o_75 P) (.node (Mine.top.o_150 P) (.node (Mine.top.o_286 P) (.node (Mine.top.o_715 P) .nil .nil) (.node (Mine.top.o_1199 P) .nil .nil)) (.node (Mine.top.o_587 P) (.node (Mine.top.o_1065 P) .nil .nil) (.node (t905 P) .nil .nil))) (.node (Mine.top.o_222 P) (.node (Mine.top.o_350 P) (.node (Mine.top.o_779 P) .nil .nil) (.node (t841 P) .nil .nil)) (.node (Mine.top.o_651 P) (.node (Mine.top.o_1132 P) .nil .nil) .nil))) (.node (Mine.top.o_111 P) (.node (Mine.top.o_190 P) (.node (Mine.top.o_318 P) (.node (Mine.top.o_747 P) .nil .nil) (.node (Mine.top.o_1231 P) .nil .nil)) (.node (Mine.top.o_619 P) (.node (Mine.top.o_1097 P) .nil .nil) .nil)) (.node (Mine.top.o_254 P) (.node (Mine.top.o_382 P) (.node (Mine.top.o_811 P) .nil .nil) (.node (t873 P) .nil .nil)) (.node (Mine.top.o_683 P) (.node (Mine.top.o_1164 P) .nil .nil) .nil)))) (.node (Mine.top.o_54 P) (.node (Mine.top.o_91 P) (.node (Mine.top.o_170 P) (.node (Mine.top.o_302 P) (.node (Mine.top.o_731 P) .nil .nil) (.node (Mine.top.o_1215 P) .nil .nil)) (.node (Mine.top.o_603 P) (.node (Mine.top.o_1081 P) .nil .nil) .nil)) (.node (Mine.top.o_238 P) (.node (Mine.top.o_366 P) (.node (Mine.top.o_795 P) .nil .nil) (.node (t857 P) .nil .nil)) (.node (Mine.top.o_667 P) (.node (Mine.top.o_1148 P) .nil .nil) .nil))) (.node (Mine.top.o_130 P) (.node (Mine.top.o_206 P) (.node (Mine.top.o_334 P) (.node (Mine.top.o_763 P) .nil .nil) (.node (t825 P) .nil .nil)) (.node (Mine.top.o_635 P) (.node (Mine.top.o_1113 P) .nil .nil) .nil)) (.node (Mine.top.o_270 P) (.node (Mine.top.o_398 P) (.node (Mine.top.o_1049 P) .nil .nil) (.node (t889 P) .nil .nil)) (.node (Mine.top.o_699 P) (.node (Mine.top.o_1183 P) .nil .nil) .nil)))))) (.node (Mine.top.o_3 P) (.node (Mine.top.o_14 P) (.node (Mine.top.o_30 P) (.node (Mine.top.o_71 P) (.node (Mine.top.o_146 P) (.node (Mine.top.o_282 P) (.node (Mine.top.o_711 P) .nil .nil) (.node (Mine.top.o_1195 P) .nil .nil)) (.node (Mine.top.o_583 P) (.node (Mine.top.o_1061 P) .nil .nil) (.node (t901 P) .nil .nil))) (.node (Mine.top.o_218 P) (.node (Mine.top.o_346 P) (.node (Mine.top.o_775 P) .nil .nil) (.node (t837 P) .nil .nil)) (.node (Mine.top.o_647 P) (.node (Mine.top.o_1125 P) .nil .nil) .nil))) (.node (Mine.top.o_107 P) (.node (Mine.top.o_186 P) (.node (Mine.top.o_314 P) (.node (Mine.top.o_743 P) .nil .nil) (.node (Mine.top.o_1227 P) .nil .nil)) (.node (Mine.top.o_615 P) (.node (Mine.top.o_1093 P) .nil .nil) .nil)) (.node (Mine.top.o_250 P) (.node (Mine.top.o_378 P) (.node (Mine.top.o_807 P) .nil .nil) (.node (t869 P) .nil .nil)) (.node (Mine.top.o_679 P) (.node (Mine.top.o_1160 P) .nil .nil) .nil)))) (.node (Mine.top.o_50 P) (.node (Mine.top.o_87 P) (.node (Mine.top.o_166 P) (.node (Mine.top.o_298 P) (.node (Mine.top.o_727 P) .nil .nil) (.node (Mine.top.o_1211 P) .nil .nil)) (.node (Mine.top.o_599 P) (.node (Mine.top.o_1077 P) .nil .nil) .nil)) (.node (Mine.top.o_234 P) (.node (Mine.top.o_362 P) (.node (Mine.top.o_791 P) .nil .nil) (.node (t853 P) .nil .nil)) (.node (Mine.top.o_663 P) (.node (Mine.top.o_1144 P) .nil .nil) .nil))) (.node (Mine.top.o_126 P) (.node (Mine.top.o_202 P) (.node (Mine.top.o_330 P) (.node (Mine.top.o_759 P) .nil .nil) (.node (t821 P) .nil .nil)) (.node (Mine.top.o_631 P) (.node (Mine.top.o_1109 P) .nil .nil) .nil)) (.node (Mine.top.o_266 P) (.node (Mine.top.o_394 P) (.node (Mine.top.o_823 P) .nil .nil) (.node (t885 P) .nil .nil)) (.node (Mine.top.o_695 P) (.node (Mine.top.o_1179 P) .nil .nil) .nil))))) (.node (Mine.top.o_22 P) (.node (Mine.top.o_62 P) (.node (Mine.top.o_79 P) (.node (Mine.top.o_154 P) (.node (Mine.top.o_290 P) (.node (Mine.top.o_719 P) .nil .nil) (.node (Mine.top.o_1203 P) .nil .nil)) (.node (Mine.top.o_591 P) (.node (Mine.top.o_1069 P) .nil .nil) (.node (t909 P) .nil .nil))) (.node (Mine.top.o_226 P) (.node (Mine.top.o_354 P) (.node (Mine.top.o_783 P) .nil .nil) (.node (t845 P) .nil .nil)) (.node (Mine.top.o_655 P) (.node (Mine.top.o_1136 P) .nil .nil) .nil))) (.node (Mine.top.o_118 P) (.node (Mine.top.o_194 P) (.node (Mine.top.o_322 P) (.node (Mine.top.o_751 P) .nil .nil) (.node (Mine.top.o_1235 P) .nil .nil)) (.node (Mine.top.o_623 P) (.node (Mine.top.o_1101 P) .nil .nil) .nil)) (.node (Mine.top.o_258 P) (.node (Mine.top.o_386 P) (.node (Mine.top.o_815 P) .nil .nil) (.node (t877 P) .nil .nil)) (.node (Mine.top.o_687 P) (.node (Mine.top.o_1168 P) .nil .nil) .nil)))) (.node (Mine.top.o_63 P) (.node (Mine.top.o_95 P) (.node (Mine.top.o_178 P) (.node (Mine.top.o_306 P) (.node (Mine.top.o_735 P) .nil .nil) (.node (Mine.top.o_1219 P) .nil .nil)) (.node (Mine.top.o_607 P) (.node (Mine.top.o_1085 P) .nil .nil) .nil)) (.node (Mine.top.o_242 P) (.node (Mine.top.o_370 P) (.node (Mine.top.o_799 P) .nil .nil) (.node (t861 P) .nil .nil)) (.node (Mine.top.o_671 P) (.node (Mine.top.o_1152 P) .nil .nil) .nil))) (.node (Mine.top.o_134 P) (.node (Mine.top.o_210 P) (.node (Mine.top.o_338 P) (.node (Mine.top.o_767 P) .nil .nil) (.node (t829 P) .nil .nil)) (.node (Mine.top.o_639 P) (.node (Mine.top.o_1117 P) .nil .nil) .nil)) (.node (Mine.top.o_274 P) (.node (Mine.top.o_402 P) (.node (Mine.top.o_1053 P) .nil .nil) (.node (t893 P) .nil .nil)) (.node (Mine.top.o_703 P) (.node (Mine.top.o_1187 P) .nil .nil) .nil)))))))) (.node (Mine.top.o_98 P) (.node (PySem.W.boot_o_4 P) (.node (PySem.W.boot_o_8 P) (.node (Mine.top.o_9 P) (.node (Mine.top.o_25 P) (.node (Mine.top.o_66 P) (.node (Mine.top.o_137 P) (.node (Mine.top.o_277 P) (.node (Mine.top.o_706 P) .nil .nil) (.node (Mine.top.o_1190 P) .nil .nil)) (.node (Mine.top.o_578 P) (.node (Mine.top.o_1056 P) .nil .nil) (.node (t896 P) .nil .nil))) (.node (Mine.top.o_213 P) (.node (Mine.top.o_341 P) (.node (Mine.top.o_770 P) .nil .nil) (.node (t832 P) .nil .nil)) (.node (Mine.top.o_642 P) (.node (Mine.top.o_1120 P) .nil .nil) .nil))) (.node (Mine.top.o_102 P) (.node (Mine.top.o_181 P) (.node (Mine.top.o_309 P) (.node (Mine.top.o_738 P) .nil .nil) (.node (Mine.top.o_1222 P) .nil .nil)) (.node (Mine.top.o_610 P) (.node (Mine.top.o_1088 P) .nil .nil) .nil)) (.node (Mine.top.o_245 P) (.node (Mine.top.o_373 P) (.node (Mine.top.o_802 P) .nil .nil) (.node (t864 P) .nil .nil)) (.node (Mine.top.o_674 P) (.node (Mine.top.o_1155 P) .nil .nil) .nil)))) (.node (Mine.top.o_41 P) (.node (Mine.top.o_82 P) (.node (Mine.top.o_161 P) (.node (Mine.top.o_293 P) (.node (Mine.top.o_722 P) .nil .nil) (.node (Mine.top.o_1206 P) .nil .nil)) (.node (Mine.top.o_594 P) (.node (Mine.top.o_1072 P) .nil .nil) (.node (t912 P) .nil .nil))) (.node (Mine.top.o_229 P) (.node (Mine.top.o_357 P) (.node (Mine.top.o_786 P) .nil .nil) (.node (t848 P) .nil .nil)) (.node (Mine.top.o_658 P) (.node (Mine.top.o_1139 P) .nil .nil) .nil))) (.node (Mine.top.o_121 P) (.node (Mine.top.o_197 P) (.node (Mine.top.o_325 P) (.node (Mine.top.o_754 P) .nil .nil) (.node (t816 P) .nil .nil)) (.node (Mine.top.o_626 P) (.node (Mine.top.o_1104 P) .nil .nil) .nil)) (.node (Mine.top.o_261 P) (.node (Mine.top.o_389 P) (.node (Mine.top.o_818 P) .nil .nil) (.node (t880 P) .nil .nil)) (.node (Mine.top.o_690 P) (.node (Mine.top.o_1171 P) .nil .nil) .nil))))) (.node (Mine.top.o_17 P) (.node (Mine.top.o_33 P) (.node (Mine.top.o_74 P) (.node (Mine.top.o_149 P) (.node (Mine.top.o_285 P) (.node (Mine.top.o_714 P) .nil .nil) (.node (Mine.top.o_1198 P) .nil .nil)) (.node (Mine.top.o_586 P) (.node (Mine.top.o_1064 P) .nil .nil) (.node (t904 P) .nil .nil))) (.node (Mine.top.o_221 P) (.node (Mine.top.o_349 P) (.node (Mine.top.o_778 P) .nil .nil) (.node (t840 P) .nil .nil)) (.node (Mine.top.o_650 P) (.node (Mine.top.o_1128 P) .nil .nil) .nil))) (.node (Mine.top.o_110 P) (.node (Mine.top.o_189 P) (.node (Mine.top.o_317 P) (.node (Mine.top.o_746 P) .nil .nil) (.node (Mine.top.o_1230 P) .nil .nil)) (.node (Mine.top.o_618 P) (.node (Mine.top.o_1096 P) .nil .nil) .nil)) (.node (Mine.top.o_253 P) (.node (Mine.top.o_381 P) (.node (Mine.top.o_810 P) .nil .nil) (.node (t872 P) .nil .nil)) (.node (Mine.top.o_682 P) (.node (Mine.top.o_1163 P) .nil .nil) .nil)))) (.node (Mine.top.o_53 P) (.node (Mine.top.o_90 P) (.node (Mine.top.o_169 P) (.node (Mine.top.o_301 P) (.node (Mine.top.o_730 P) .nil .nil) (.node (Mine.top.o_1214 P) .nil .nil)) (.node (Mine.top.o_602 P) (.node (Mine.top.o_1080 P) .nil .nil) .nil)) (.node (Mine.top.o_237 P) (.node (Mine.top.o_365 P) (.node (Mine.top.o_794 P) .nil .nil) (.node (t856 P) .nil .nil)) (.node (Mine.top.o_666 P) (.node (Mine.top.o_1147 P) .nil .nil) .nil))) (.node (Mine.top.o_129 P) (.node (Mine.top.o_205 P) (.node (Mine.top.o_333 P) (.node (Mine.top.o_762 P) .nil .nil) (.node (t824 P) .nil .nil)) (.node (Mine.top.o_634 P) (.node (Mine.top.o_1112 P) .nil .nil) .nil)) (.node (Mine.top.o_269 P) (.node (Mine.top.o_397 P) (.node (Mine.top.o_1048 P) .nil .nil) (.node (t888 P) .nil .nil)) (.node (Mine.top.o_698 P) (.node (Mine.top.o_1182 P) .nil .nil) .nil)))))) (.node (t12F P) (.node (Mine.top.o_13 P) (.node (Mine.top.o_29 P) (.node (Mine.top.o_70 P) (.node (Mine.top.o_145 P) (.node (Mine.top.o_281 P) (.node (Mine.top.o_710 P) .nil .nil) (.node (Mine.top.o_1194 P) .nil .nil)) (.node (Mine.top.o_582 P) (.node (Mine.top.o_1060 P) .nil .nil) (.node (t900 P) .nil .nil))) (.node (Mine.top.o_217 P) (.node (Mine.top.o_345 P) (.node (Mine.top.o_774 P) .nil .nil) (.node (t836 P) .nil .nil)) (.node (Mine.top.o_646 P) (.node (Mine.top.o_1124 P) .nil .nil) .nil))) (.node (Mine.top.o_106 P) (.node (Mine.top.o_185 P) (.node (Mine.top.o_313 P) (.node (Mine.top.o_742 P) .nil .nil) (.node (Mine.top.o_1226 P) .nil .nil)) (.node (Mine.top.o_614 P) (.node (Mine.top.o_1092 P) .nil .nil) .nil)) (.node (Mine.top.o_249 P) (.node (Mine.top.o_377 P) (.node (Mine.top.o_806 P) .nil .nil) (.node (t868 P) .nil .nil)) (.node (Mine.top.o_678 P) (.node (Mine.top.o_1159 P) .nil .nil) .nil)))) (.node (Mine.top.o_49 P) (.node (Mine.top.o_86 P) (.node (Mine.top.o_165 P) (.node (Mine.top.o_297 P) (.node (Mine.top.o_726 P) .nil .nil) (.node (Mine.top.o_1210 P) .nil .nil)) (.node (Mine.top.o_598 P) (.node (Mine.top.o_1076 P) .nil .nil) .nil)) (.node (Mine.top.o_233 P) (.node (Mine.top.o_361 P) (.node (Mine.top.o_790 P) .nil .nil) (.node (t852 P) .nil .nil)) (.node (Mine.top.o_662 P) (.node (Mine.top.o_1143 P) .nil .nil) .nil))) (.node (Mine.top.o_125 P) (.node (Mine.top.o_201 P) (.node (Mine.top.o_329 P) (.node (Mine.top.o_758 P) .nil .nil) (.node (t820 P) .nil .nil)) (.node (Mine.top.o_630 P) (.node (Mine.top.o_1108 P) .nil .nil) .nil)) (.node (Mine.top.o_265 P) (.node (Mine.top.o_393 P) (.node (Mine.top.o_822 P) .nil .nil) (.node (t884 P) .nil .nil)) (.node (Mine.top.o_694 P) (.node (Mine.top.o_1175 P) .nil .nil) .nil))))) (.node (Mine.top.o_21 P) (.node (Mine.top.o_37 P) (.node (Mine.top.o_78 P) (.node (Mine.top.o_153 P) (.node (Mine.top.o_289 P) (.node (Mine.top.o_718 P) .nil .nil) (.node (Mine.top.o_1202 P) .nil .nil)) (.node (Mine.top.o_590 P) (.node (Mine.top.o_1068 P) .nil .nil) (.node (t908 P) .nil .nil))) (.node (Mine.top.o_225 P) (.node (Mine.top.o_353 P) (.node (Mine.top.o_782 P) .nil .nil) (.node (t844 P) .nil .nil)) (.node (Mine.top.o_654 P) (.node (Mine.top.o_1135 P) .nil .nil) .nil))) (.node (Mine.top.o_117 P) (.node (Mine.top.o_193 P) (.node (Mine.top.o_321 P) (.node (Mine.top.o_750 P) .nil .nil) (.node (Mine.top.o_1234 P) .nil .nil)) (.node (Mine.top.o_622 P) (.node (Mine.top.o_1100 P) .nil .nil) .nil)) (.node (Mine.top.o_257 P) (.node (Mine.top.o_385 P) (.node (Mine.top.o_814 P) .nil .nil) (.node (t876 P) .nil .nil)) (.node (Mine.top.o_686 P) (.node (Mine.top.o_1167 P) .nil .nil) .nil)))) (.node (Mine.top.o_57 P) (.node (Mine.top.o_94 P) (.node (Mine.top.o_177 P) (.node (Mine.top.o_305 P) (.node (Mine.top.o_734 P) .nil .nil) (.node (Mine.top.o_1218 P) .nil .nil)) (.node (Mine.top.o_606 P) (.node (Mine.top.o_1084 P) .nil .nil) .nil)) (.node (Mine.top.o_241 P) (.node (Mine.top.o_369 P) (.node (Mine.top.o_798 P) .nil .nil) (.node (t860 P) .nil .nil)) (.node (Mine.top.o_670 P) (.node (Mine.top.o_1151 P) .nil .nil) .nil))) (.node (Mine.top.o_158 P) (.node (Mine.top.o_209 P) (.node (Mine.top.o_337 P) (.node (Mine.top.o_766 P) .nil .nil) (.node (t828 P) .nil .nil)) (.node (Mine.top.o_638 P) (.node (Mine.top.o_1116 P) .nil .nil) .nil)) (.node (Mine.top.o_273 P) (.node (Mine.top.o_401 P) (.node (Mine.top.o_1052 P) .nil .nil) (.node (t892 P) .nil .nil)) (.node (Mine.top.o_702 P) (.node (Mine.top.o_1186 P) .nil .nil) .nil))))))) (.node (PySem.W.boot_o_6 P) (.node (PySem.W.boot_o_10 P) (.node (Mine.top.o_11 P) (.node (Mine.top.o_27 P) (.node (Mine.top.o_68 P) (.node (Mine.top.o_143 P) (.node (Mine.top.o_279 P) (.node (Mine.top.o_708 P) .nil .nil) (.node (Mine.top.o_1192 P) .nil .nil)) (.node (Mine.top.o_580 P) (.node (Mine.top.o_1058 P) .nil .nil) (.node (t898 P) .nil .nil))) (.node (Mine.top.o_215 P) (.node (Mine.top.o_343 P) (.node (Mine.top.o_772 P) .nil .nil) (.node (t834 P) .nil .nil)) (.node (Mine.top.o_644 P) (.node (Mine.top.o_1122 P) .nil .nil) .nil))) (.node (Mine.top.o_104 P) (.node (Mine.top.o_183 P) (.node (Mine.top.o_311 P) (.node (Mine.top.o_740 P) .nil .nil) (.node (Mine.top.o_1224 P) .nil .nil)) (.node (Mine.top.o_612 P) (.node (Mine.top.o_1090 P) .nil .nil) .nil)) (.node (Mine.top.o_247 P) (.node (Mine.top.o_375 P) (.node (Mine.top.o_804 P) .nil .nil) (.node (t866 P) .nil .nil)) (.node (Mine.top.o_676 P) (.node (Mine.top.o_1157 P) .nil .nil) .nil)))) (.node (Mine.top.o_47 P) (.node (Mine.top.o_84 P) (.node (Mine.top.o_163 P) (.node (Mine.top.o_295 P) (.node (Mine.top.o_724 P) .nil .nil) (.node (Mine.top.o_1208 P) .nil .nil)) (.node (Mine.top.o_596 P) (.node (Mine.top.o_1074 P) .nil .nil) (.node (t914 P) .nil .nil))) (.node (Mine.top.o_231 P) (.node (Mine.top.o_359 P) (.node (Mine.top.o_788 P) .nil .nil) (.node (t850 P) .nil .nil)) (.node (Mine.top.o_660 P) (.node (Mine.top.o_1141 P) .nil .nil) .nil))) (.node (Mine.top.o_123 P) (.node (Mine.top.o_199 P) (.node (Mine.top.o_327 P) (.node (Mine.top.o_756 P) .nil .nil) (.node (t818 P) .nil .nil)) (.node (Mine.top.o_628 P) (.node (Mine.top.o_1106 P) .nil .nil) .nil)) (.node (Mine.top.o_263 P) (.node (Mine.top.o_391 P) (.node (Mine.top.o_820 P) .nil .nil) (.node (t882 P) .nil .nil)) (.node (Mine.top.o_692 P) (.node (Mine.top.o_1173 P) .nil .nil) .nil))))) (.node (Mine.top.o_19 P) (.node (Mine.top.o_35 P) (.node (Mine.top.o_76 P) (.node (Mine.top.o_151 P) (.node (Mine.top.o_287 P) (.node (Mine.top.o_716 P) .nil .nil) (.node (Mine.top.o_1200 P) .nil .nil)) (.node (Mine.top.o_588 P) (.node (Mine.top.o_1066 P) .nil .nil) (.node (t906 P) .nil .nil))) (.node (Mine.top.o_223 P) (.node (Mine.top.o_351 P) (.node (Mine.top.o_780 P) .nil .nil) (.node (t842 P) .nil .nil)) (.node (Mine.top.o_652 P) (.node (Mine.top.o_1133 P) .nil .nil) .nil))) (.node (Mine.top.o_112 P) (.node (Mine.top.o_191 P) (.node (Mine.top.o_319 P) (.node (Mine.top.o_748 P) .nil .nil) (.node (Mine.top.o_1232 P) .nil .nil)) (.node (Mine.top.o_620 P) (.node (Mine.top.o_1098 P) .nil .nil) .nil)) (.node (Mine.top.o_255 P) (.node (Mine.top.o_383 P) (.node (Mine.top.o_812 P) .nil .nil) (.node (t874 P) .nil .nil)) (.node (Mine.top.o_684 P) (.node (Mine.top.o_1165 P) .nil .nil) .nil)))) (.node (Mine.top.o_55 P) (.node (Mine.top.o_92 P) (.node (Mine.top.o_175 P) (.node (Mine.top.o_303 P) (.node (Mine.top.o_732 P) .nil .nil) (.node (Mine.top.o_1216 P) .nil .nil)) (.node (Mine.top.o_604 P) (.node (Mine.top.o_1082 P) .nil .nil) .nil)) (.node (Mine.top.o_239 P) (.node (Mine.top.o_367 P) (.node (Mine.top.o_796 P) .nil .nil) (.node (t858 P) .nil .nil)) (.node (Mine.top.o_668 P) (.node (Mine.top.o_1149 P) .nil .nil) .nil))) (.node (Mine.top.o_131 P) (.node (Mine.top.o_207 P) (.node (Mine.top.o_335 P) (.node (Mine.top.o_764 P) .nil .nil) (.node (t826 P) .nil .nil)) (.node (Mine.top.o_636 P) (.node (Mine.top.o_1114 P) .nil .nil) .nil)) (.node (Mine.top.o_271 P) (.node (Mine.top.o_399 P) (.node (Mine.top.o_1050 P) .nil .nil) (.node (t890 P) .nil .nil)) (.node (Mine.top.o_700 P) (.node (Mine.top.o_1184 P) .nil .nil) .nil)))))) (.node (Mine.top.o_4 P) (.node (Mine.top.o_15 P) (.node (Mine.top.o_31 P) (.node (Mine.top.o_72 P) (.node (Mine.top.o_147 P) (.node (Mine.top.o_283 P) (.node (Mine.top.o_712 P) .nil .nil) (.node (Mine.top.o_1196 P) .nil .nil)) (.node (Mine.top.o_584 P) (.node (Mine.top.o_1062 P) .nil .nil) (.node (t902 P) .nil .nil))) (.node (Mine.top.o_219 P) (.node (Mine.top.o_347 P) (.node (Mine.top.o_776 P) .nil .nil) (.node (t838 P) .nil .nil)) (.node (Mine.top.o_648 P) (.node (Mine.top.o_1126 P) .nil .nil) .nil))) (.node (Mine.top.o_108 P) (.node (Mine.top.o_187 P) (.node (Mine.top.o_315 P) (.node (Mine.top.o_744 P) .nil .nil) (.node (Mine.top.o_1228 P) .nil .nil)) (.node (Mine.top.o_616 P) (.node (Mine.top.o_1094 P) .nil .nil) .nil)) (.node (Mine.top.o_251 P) (.node (Mine.top.o_379 P) (.node (Mine.top.o_808 P) .nil .nil) (.node (t870 P) .nil .nil)) (.node (Mine.top.o_680 P) (.node (Mine.top.o_1161 P) .nil .nil) .nil)))) (.node (Mine.top.o_51 P) (.node (Mine.top.o_88 P) (.node (Mine.top.o_167 P) (.node (Mine.top.o_299 P) (.node (Mine.top.o_728 P) .nil .nil) (.node (Mine.top.o_1212 P) .nil .nil)) (.node (Mine.top.o_600 P) (.node (Mine.top.o_1078 P) .nil .nil) .nil)) (.node (Mine.top.o_235 P) (.node (Mine.top.o_363 P) (.node (Mine.top.o_792 P) .nil .nil) (.node (t854 P) .nil .nil)) (.node (Mine.top.o_664 P) (.node (Mine.top.o_1145 P) .nil .nil) .nil))) (.node (Mine.top.o_127 P) (.node (Mine.top.o_203 P) (.node (Mine.top.o_331 P) (.node (Mine.top.o_760 P) .nil .nil) (.node (t822 P) .nil .nil)) (.node (Mine.top.o_632 P) (.node (Mine.top.o_1110 P) .nil .nil) .nil)) (.node (Mine.top.o_267 P) (.node (Mine.top.o_395 P) (.node (Mine.top.o_824 P) .nil .nil) (.node (t886 P) .nil .nil)) (.node (Mine.top.o_696 P) (.node (Mine.top.o_1180 P) .nil .nil) .nil))))) (.node (Mine.top.o_23 P) (.node (Mine.top.o_39 P) (.node (Mine.top.o_80 P) (.node (Mine.top.o_159 P) (.node (Mine.top.o_291 P) (.node (Mine.top.o_720 P) .nil .nil) (.node (Mine.top.o_1204 P) .nil .nil)) (.node (Mine.top.o_592 P) (.node (Mine.top.o_1070 P) .nil .nil) (.node (t910 P) .nil .nil))) (.node (Mine.top.o_227 P) (.node (Mine.top.o_355 P) (.node (Mine.top.o_784 P) .nil .nil) (.node (t846 P) .nil .nil)) (.node (Mine.top.o_656 P) (.node (Mine.top.o_1137 P) .nil .nil) .nil))) (.node (Mine.top.o_119 P) (.node (Mine.top.o_195 P) (.node (Mine.top.o_323 P) (.node (Mine.top.o_752 P) .nil .nil) (.node (Mine.top.o_1236 P) .nil .nil)) (.node (Mine.top.o_624 P) (.node (Mine.top.o_1102 P) .nil .nil) .nil)) (.node (Mine.top.o_259 P) (.node (Mine.top.o_387 P) (.node (Mine.top.o_816 P) .nil .nil) (.node (t878 P) .nil .nil)) (.node (Mine.top.o_688 P) (.node (Mine.top.o_1169 P) .nil .nil) .nil)))) (.node (Mine.top.o_64 P) (.node (Mine.top.o_96 P) (.node (Mine.top.o_179 P) (.node (Mine.top.o_307 P) (.node (Mine.top.o_736 P) .nil .nil) (.node (Mine.top.o_1220 P) .nil .nil)) (.node (Mine.top.o_608 P) (.node (Mine.top.o_1086 P) .nil .nil) .nil)) (.node (Mine.top.o_243 P) (.node (Mine.top.o_371 P) (.node (Mine.top.o_800 P) .nil .nil) (.node (t862 P) .nil .nil)) (.node (Mine.top.o_672 P) (.node (Mine.top.o_1153 P) .nil .nil) .nil))) (.node (Mine.top.o_135 P) (.node (Mine.top.o_211 P) (.node (Mine.top.o_339 P) (.node (Mine.top.o_768 P) .nil .nil) (.node (t830 P) .nil .nil)) (.node (Mine.top.o_640 P) (.node (Mine.top.o_1118 P) .nil .nil) .nil)) (.node (Mine.top.o_275 P) (.node (Mine.top.o_403 P) (.node (Mine.top.o_1054 P) .nil .nil) (.node (t894 P) .nil .nil)) (.node (Mine.top.o_704 P) (.node (Mine.top.o_1188 P) .nil .nil) .nil)))))))))
noncomputable def posF : Pos := (PySem.Pos.mk 763 0 793 98)
-- F: 68..73 steps 138 objs 916 toks 1347 gens 0
noncomputable def KH : Params → Frag := fun P => (nat_lit 2, Mine.top.o_98 P) :: (nat_lit 3, t3F P) :: (nat_lit 15, Mine.top.o_8 P) :: (nat_lit 17, Mine.top.o_10 P) :: (nat_lit 18, Mine.top.o_11 P) :: (nat_lit 20, Mine.top.o_13 P) :: (nat_lit 21, Mine.top.o_14 P) :: (nat_lit 22, Mine.top.o_15 P) :: (nat_lit 24, Mine.top.o_17 P) :: (nat_lit 25, Mine.top.o_18 P) :: (nat_lit 27, Mine.top.o_20 P) :: (nat_lit 28, Mine.top.o_21 P) :: (nat_lit 29, Mine.top.o_22 P) :: (nat_lit 31, Mine.top.o_24 P) :: (nat_lit 32, Mine.top.o_25 P) :: (nat_lit 34, Mine.top.o_27 P) :: (nat_lit 35, Mine.top.o_28 P) :: (nat_lit 36, Mine.top.o_29 P) :: (nat_lit 43, Mine.top.o_36 P) :: (nat_lit 44, Mine.top.o_37 P) :: (nat_lit 45, Mine.top.o_62 P) :: (nat_lit 46, Mine.top.o_39 P) :: (nat_lit 49, Mine.top.o_46 P) :: (nat_lit 56, Mine.top.o_53 P) :: (nat_lit 57, Mine.top.o_54 P) :: (nat_lit 58, Mine.top.o_55 P) :: (nat_lit 61, Mine.top.o_63 P) :: (nat_lit 68, Mine.top.o_70 P) :: (nat_lit 69, Mine.top.o_71 P) :: (nat_lit 70, Mine.top.o_72 P) :: (nat_lit 73, Mine.top.o_75 P) :: (nat_lit 74, Mine.top.o_76 P) :: (nat_lit 76, Mine.top.o_78 P) :: (nat_lit 77, Mine.top.o_79 P) :: (nat_lit 79, Mine.top.o_81 P) :: (nat_lit 80, Mine.top.o_82 P) :: (nat_lit 81, Mine.top.o_83 P) :: (nat_lit 83, Mine.top.o_85 P) :: (nat_lit 84, Mine.top.o_86 P) :: (nat_lit 86, Mine.top.o_88 P) :: (nat_lit 87, Mine.top.o_89 P) :: (nat_lit 88, Mine.top.o_90 P) :: (nat_lit 90, Mine.top.o_92 P) :: (nat_lit 91, Mine.top.o_93 P) :: (nat_lit 93, Mine.top.o_95 P) :: (nat_lit 94, Mine.top.o_96 P) :: (nat_lit 95, Mine.top.o_101 P) :: (nat_lit 644, Mine.top.o_1060 P) :: (nat_lit 645, Mine.top.o_1061 P) :: (nat_lit 647, Mine.top.o_1063 P) :: (nat_lit 648, Mine.top.o_1064 P) :: (nat_lit 650, Mine.top.o_1066 P) :: (nat_lit 651, Mine.top.o_1067 P) :: (nat_lit 652, Mine.top.o_1068 P) :: (nat_lit 654, Mine.top.o_1070 P) :: (nat_lit 655, Mine.top.o_1071 P) :: (nat_lit 657, Mine.top.o_1073 P) :: (nat_lit 658, Mine.top.o_1074 P) :: (nat_lit 659, Mine.top.o_1075 P) :: (nat_lit 661, Mine.top.o_1077 P) :: (nat_lit 662, Mine.top.o_1078 P) :: (nat_lit 664, Mine.top.o_1080 P) :: (nat_lit 665, Mine.top.o_1081 P) :: (nat_lit 666, Mine.top.o_1082 P) :: (nat_lit 668, Mine.top.o_1084 P) :: (nat_lit 669, Mine.top.o_1085 P) :: (nat_lit 671, Mine.top.o_1087 P) :: (nat_lit 672, Mine.top.o_1088 P) :: (nat_lit 673, Mine.top.o_1089 P) :: (nat_lit 675, Mine.top.o_1091 P) :: (nat_lit 676, Mine.top.o_1092 P) :: (nat_lit 678, Mine.top.o_1094 P) :: (nat_lit 679, Mine.top.o_1095 P) :: (nat_lit 680, Mine.top.o_1096 P) :: (nat_lit 683, Mine.top.o_1099 P) :: (nat_lit 684, Mine.top.o_1100 P) :: (nat_lit 685, Mine.top.o_1101 P) :: (nat_lit 687, Mine.top.o_1103 P) :: (nat_lit 688, Mine.top.o_1104 P) :: (nat_lit 690, Mine.top.o_1106 P) :: (nat_lit 691, Mine.top.o_1107 P) :: (nat_lit 692, Mine.top.o_1108 P) :: (nat_lit 694, Mine.top.o_1110 P) :: (nat_lit 695, Mine.top.o_1111 P) :: (nat_lit 697, Mine.top.o_1113 P) :: (nat_lit 698, Mine.top.o_1114 P) :: (nat_lit 699, Mine.top.o_1115 P) :: (nat_lit 701, Mine.top.o_1117 P) :: (nat_lit 702, Mine.top.o_1118 P) :: (nat_lit 704, Mine.top.o_1120 P) :: (nat_lit 705, Mine.top.o_1121 P) :: (nat_lit 706, Mine.top.o_1122 P) :: (nat_lit 708, Mine.top.o_1124 P) :: (nat_lit 709, Mine.top.o_1125 P) :: (nat_lit 711, Mine.top.o_1127 P) :: (nat_lit 712, Mine.top.o_1128 P) :: (nat_lit 713, Mine.top.o_1132 P) :: (nat_lit 715, Mine.top.o_1134 P) :: (nat_lit 716, Mine.top.o_1135 P) :: (nat_lit 718, Mine.top.o_1137 P) :: (nat_lit 719, Mine.top.o_1138 P) :: (nat_lit 720, Mine.top.o_1139 P) :: (nat_lit 722, Mine.top.o_1141 P) :: (nat_lit 723, Mine.top.o_1142 P) :: (nat_lit 725, Mine.top.o_1144 P) :: (nat_lit 726, Mine.top.o_1145 P) :: (nat_lit 727, Mine.top.o_1146 P) :: (nat_lit 728, Mine.top.o_1147 P) :: (nat_lit 730, Mine.top.o_1149 P) :: (nat_lit 731, Mine.top.o_1150 P) :: (nat_lit 733, Mine.top.o_1152 P) :: (nat_lit 734, Mine.top.o_1153 P) :: (nat_lit 735, Mine.top.o_1154 P) :: (nat_lit 737, Mine.top.o_1156 P) :: (nat_lit 738, Mine.top.o_1157 P) :: (nat_lit 740, Mine.top.o_1159 P) :: (nat_lit 741, Mine.top.o_1160 P) :: (nat_lit 742, Mine.top.o_1161 P) :: (nat_lit 743, Mine.top.o_1162 P) :: (nat_lit 745, Mine.top.o_1164 P) :: (nat_lit 746, Mine.top.o_1165 P) :: (nat_lit 748, Mine.top.o_1167 P) :: (nat_lit 749, Mine.top.o_1168 P) :: (nat_lit 750, Mine.top.o_1169 P) :: (nat_lit 752, Mine.top.o_1171 P) :: (nat_lit 753, Mine.top.o_1172 P) :: (nat_lit 755, Mine.top.o_1174 P) :: (nat_lit 756, Mine.top.o_1175 P) :: (nat_lit 764, Mine.top.o_1186 P) :: (nat_lit 765, Mine.top.o_1187 P) :: (nat_lit 766, Mine.top.o_1188 P) :: (nat_lit 768, Mine.top.o_1190 P) :: (nat_lit 769, Mine.top.o_1191 P) :: (nat_lit 771, Mine.top.o_1193 P) :: (nat_lit 772, Mine.top.o_1194 P) :: (nat_lit 773, Mine.top.o_1195 P) :: (nat_lit 775, Mine.top.o_1197 P) :: (nat_lit 776, Mine.top.o_1198 P) :: (nat_lit 778, Mine.top.o_1200 P) :: (nat_lit 779, Mine.top.o_1201 P) :: (nat_lit 780, Mine.top.o_1202 P) :: (nat_lit 782, Mine.top.o_1204 P) :: (nat_lit 783, Mine.top.o_1205 P) :: (nat_lit 785, Mine.top.o_1207 P) :: (nat_lit 786, Mine.top.o_1208 P) :: (nat_lit 787, Mine.top.o_1209 P) :: (nat_lit 789, Mine.top.o_1211 P) :: (nat_lit 790, Mine.top.o_1212 P) :: (nat_lit 792, Mine.top.o_1214 P) :: (nat_lit 793, Mine.top.o_1215 P) :: (nat_lit 794, Mine.top.o_1216 P) :: (nat_lit 795, Mine.top.o_1217 P) :: (nat_lit 798, Mine.top.o_1220 P) :: (nat_lit 799, Mine.top.o_1221 P) :: (nat_lit 800, Mine.top.o_1222 P) :: (nat_lit 801, Mine.top.o_1223 P) :: (nat_lit 804, Mine.top.o_1226 P) :: (nat_lit 805, Mine.top.o_1227 P) :: (nat_lit 806, Mine.top.o_1228 P) :: (nat_lit 807, Mine.top.o_1229 P) :: (nat_lit 808, Mine.top.o_1230 P) :: (nat_lit 809, Mine.top.o_1231 P) :: (nat_lit 810, Mine.top.o_1232 P) :: (nat_lit 811, Mine.top.o_1233 P) :: (nat_lit 812, Mine.top.o_1234 P) :: (nat_lit 813, Mine.top.o_1235 P) :: (nat_lit 816, t816 P) :: (nat_lit 817, t817 P) :: (nat_lit 818, t818 P) :: (nat_lit 820, t820 P) :: (nat_lit 821, t821 P) :: (nat_lit 823, t823 P) :: (nat_lit 824, t824 P) :: (nat_lit 825, t825 P) :: (nat_lit 826, t826 P) :: (nat_lit 828, t828 P) :: (nat_lit 829, t829 P) :: (nat_lit 831, t831 P) :: (nat_lit 832, t832 P) :: (nat_lit 833, t833 P) :: (nat_lit 835, t835 P) :: (nat_lit 836, t836 P) :: (nat_lit 838, t838 P) :: (nat_lit 839, t839 P) :: (nat_lit 840, t840 P) :: (nat_lit 842, t842 P) :: (nat_lit 843, t843 P) :: (nat_lit 845, t845 P) :: (nat_lit 846, t846 P) :: (nat_lit 847, t847 P) :: (nat_lit 849, t849 P) :: (nat_lit 850, t850 P) :: (nat_lit 852, t852 P) :: (nat_lit 853, t853 P) :: (nat_lit 854, t854 P) :: (nat_lit 856, t856 P) :: (nat_lit 857, t857 P) :: (nat_lit 859, t859 P) :: (nat_lit 860, t860 P) :: (nat_lit 861, t861 P) :: (nat_lit 864, t864 P) :: (nat_lit 865, t865 P) :: (nat_lit 866, t866 P) :: (nat_lit 868, t868 P) :: (nat_lit 869, t869 P) :: (nat_lit 871, t871 P) :: (nat_lit 872, t872 P) :: (nat_lit 873, t873 P) :: (nat_lit 875, t875 P) :: (nat_lit 876, t876 P) :: (nat_lit 878, t878 P) :: (nat_lit 879, t879 P) :: (nat_lit 880, t880 P) :: (nat_lit 882, t882 P) :: (nat_lit 883, t883 P) :: (nat_lit 885, t885 P) :: (nat_lit 886, t886 P) :: (nat_lit 887, t887 P) :: (nat_lit 889, t889 P) :: (nat_lit 890, t890 P) :: (nat_lit 892, t892 P) :: (nat_lit 893, t893 P) :: (nat_lit 894, t894 P) :: (nat_lit 897, t897 P) :: (nat_lit 898, t898 P) :: (nat_lit 899, t899 P) :: (nat_lit 902, t902 P) :: (nat_lit 903, t903 P) :: (nat_lit 904, t904 P) :: (nat_lit 906, t906 P) :: (nat_lit 907, t907 P) :: (nat_lit 909, t909 P) :: (nat_lit 910, t910 P) :: (nat_lit 911, t911 P) :: (nat_lit 914, t914 P) :: (nat_lit 915, t915 P) :: []

noncomputable def bd : List Stmt := behindTheImports pw
noncomputable def cd : Code := Code.body bd top.env_1
noncomputable abbrev q0 : Pos := PySem.Pos.mk 0 0 0 0
noncomputable def posK : Pos := PySem.Pos.mk 641 0 641 8
noncomputable abbrev S (T : Params → BT) (n t : Nat) (w : World) (os : OsState) : SharedT := ⟨T w.params, n, {}, Array.mk [], {}, t, os⟩
noncomputable def sts (lo n : Nat) : List Stmt := (bd.drop lo).take n
noncomputable abbrev seg (w : World) (steps : Nat) (s : SharedT) (lo n : Nat) (p : Pos) := segRunT treeTable pw w 11 (some (.ref 6)) 1 steps s (piecesOf (sts lo n) top.env_1 cd p [topFrame q0])
theorem runA (w : World) : (fun os => seg w 71 (S top.tree_1239 816 1195 w os) 51 2 posK) = fun os => some (.next, S treeA 818 1205 w os, cd, posA) := by
  revert w
  refine byRow2 "set-order" (byRow2 "special-get-raises" ?_ ?_) (byRow2 "special-get-raises" ?_ ?_) <;> (intro w; kernel_rfl)
theorem runB (w : World) : (fun os => seg w 106 (S treeA 818 1205 w os) 53 6 posA) = fun os => some (.next, S treeB 833 1234 w os, cd, posB) := by kernel_rfl
theorem runC (w : World) : (fun os => seg w 133 (S treeB 833 1234 w os) 59 4 posB) = fun os => some (.next, S treeC 861 1278 w os, cd, posC) := by kernel_rfl
theorem runD (w : World) : (fun os => seg w 129 (S treeC 861 1278 w os) 63 5 posC) = fun os => some (.next, S treeD 887 1313 w os, cd, posD) := by kernel_rfl
theorem runF (w : World) : (fun os => seg w 139 (S treeD 887 1313 w os) 68 5 posD) = fun os => some (.next, S treeF 916 1347 w os, cd, posF) := by kernel_rfl
noncomputable abbrev HF : Params → Heap := fun P => absHeap (treeF P) 916 {}
theorem runEnd (w : World) : (fun os => topRun treeTable pw w 11 (some (.ref 6)) 2 (S treeF 916 1347 w os).abs ⟨doneF .next, cd, posF, [topFrame q0]⟩) = fun os => some ⟨HF w.params, Array.mk [], {}, 1347, os⟩ := by kernel_rfl
theorem runPre (w : World) : (fun os => topGo treeTable pw w 11 (some (.ref 6)) 12 ⟨boot_heap w.params, Array.mk [], boot_drawn, boot_toks, os⟩ (topStub pw)) =
    fun os => some ((S top.tree_4 15 187 w os).abs, ⟨denote treeTable cd, cd, q0, [topFrame q0]⟩) := by kernel_rfl
theorem runBlock (w : World) : (fun os => segRun treeTable pw w 11 (some (.ref 6)) 1 1 (S top.tree_4 15 187 w os).abs (blockOf bd top.env_1 cd q0 [topFrame q0])) = fun os => some (.next, (S top.tree_4 15 187 w os).abs, cd, q0) := by kernel_rfl

end Mine
namespace Mine
theorem hsplit : bd = top.sts_4 ++ (top.sts_43 ++ (top.sts_59 ++ (top.sts_98 ++ (top.sts_115 ++ (top.sts_140 ++ (top.sts_156 ++ (top.sts_172 ++ (top.sts_575 ++ (top.sts_1045 ++ (top.sts_1130 ++ (top.sts_1177 ++ (top.sts_1239 ++ (sts 51 2 ++ (sts 53 6 ++ (sts 59 4 ++ (sts 63 5 ++ (sts 68 5 ++ []))))))))))))))))) := by kernel_rfl
theorem runTop (w : World) (os : OsState) : ∃ M, Nat.ble M 12872 = true ∧ topRun treeTable pw w 11 (some (.ref 6)) M ⟨boot_heap w.params, Array.mk [], boot_drawn, boot_toks, os⟩ (topStub pw) = some ⟨HF w.params, Array.mk [], {}, 1347, os⟩ := by
  have k0 := piece_nil (env := top.env_1) (congrFun (runEnd w) os)
  have kF := piece_app (segRun_of (congrFun (runF w) os)) k0
  have kD := piece_app (segRun_of (congrFun (runD w) os)) kF
  have kC := piece_app (segRun_of (congrFun (runC w) os)) kD
  have kB := piece_app (segRun_of (congrFun (runB w) os)) kC
  have kA := piece_app (segRun_of (congrFun (runA w) os)) kB
  have kK := top.chain pw bd w os _ _ _ kA
  rw [← hsplit] at kK
  have kP := piece_block (congrFun (runBlock w) os) kK
  have kT := go_top (congrFun (runPre w) os) kP
  exact ⟨_, by decide +kernel, kT⟩
noncomputable def q : Program := view pw [72]
noncomputable def loose : List Str := [PySem.Str.ofString "_wall", PySem.Str.ofString "MAX_PUBKEYS_PER_MULTISIG", PySem.Str.ofString "read_op_code", PySem.Str.ofString "op_code_spans", PySem.Str.ofString "BTClibException", PySem.Str.ofString "BTClibValueError", PySem.Str.ofString "BTClibTypeError", PySem.Str.ofString "bytes_from_octets", PySem.Str.ofString "_whence", PySem.Str.ofString "_index", PySem.Str.ofString "UnsupportedOperation", PySem.Str.ofString "IOBase", PySem.Str.ofString "BufferedIOBase", PySem.Str.ofString "TextIOBase", PySem.Str.ofString "BytesIO", PySem.Str.ofString "StringIO", PySem.Str.ofString "bytesio_from_binarydata", PySem.Str.ofString "assert_no_trailing", PySem.Str.ofString "_message_text", PySem.Str.ofString "is_integer", PySem.Str.ofString "is_octets", PySem.Str.ofString "assert_type", PySem.Str.ofString "int_from_integer", PySem.Str.ofString "hex_string", PySem.Str.ofString "_is_funct", PySem.Str.ofString "assert_p2sh", PySem.Str.ofString "is_p2sh", PySem.Str.ofString "assert_segwit", PySem.Str.ofString "is_segwit", PySem.Str.ofString "MAX_SIZE", PySem.Str.ofString "_parse_number", PySem.Str.ofString "parse", PySem.Str.ofString "parse_var_int", PySem.Str.ofString "serialize", PySem.Str.ofString "serialize_var_int", PySem.Str.ofString "parse_var_bytes", PySem.Str.ofString "serialize_var_bytes", PySem.Str.ofString "MAX_WITNESS_STACK_ITEMS", PySem.Str.ofString "Witness", PySem.Str.ofString "_CHECKSIG", PySem.Str.ofString "_CHECKMULTISIG", PySem.Str.ofString "_OP_PUSHDATA1", PySem.Str.ofString "_OP_PUSHDATA4", PySem.Str.ofString "_OP_1", PySem.Str.ofString "_OP_16", PySem.Str.ofString "_sig_op_count", PySem.Str.ofString "sig_op_count", PySem.Str.ofString "_last_push", PySem.Str.ofString "p2sh_sig_op_count", PySem.Str.ofString "_witness_program_sig_op_count", PySem.Str.ofString "witness_sig_op_count", PySem.Str.ofString "_law_steps", PySem.Str.ofString "_law_count", PySem.Str.ofString "_law_program", PySem.Str.ofString "_law_is_program", PySem.Str.ofString "_law_pushed", PySem.Str.ofString "_law_step", PySem.Str.ofString "_law_last", PySem.Str.ofString "_law_wrong"]
noncomputable abbrev rw0 : OpenLaw := PySem.Challenge.rw_ez0016_01
def addrs : List Addr := [nat_lit 2, nat_lit 3, nat_lit 15, nat_lit 17, nat_lit 18, nat_lit 20, nat_lit 21, nat_lit 22, nat_lit 24, nat_lit 25, nat_lit 27, nat_lit 28, nat_lit 29, nat_lit 31, nat_lit 32, nat_lit 34, nat_lit 35, nat_lit 36, nat_lit 43, nat_lit 44, nat_lit 45, nat_lit 46, nat_lit 49, nat_lit 56, nat_lit 57, nat_lit 58, nat_lit 61, nat_lit 68, nat_lit 69, nat_lit 70, nat_lit 73, nat_lit 74, nat_lit 76, nat_lit 77, nat_lit 79, nat_lit 80, nat_lit 81, nat_lit 83, nat_lit 84, nat_lit 86, nat_lit 87, nat_lit 88, nat_lit 90, nat_lit 91, nat_lit 93, nat_lit 94, nat_lit 95, nat_lit 644, nat_lit 645, nat_lit 647, nat_lit 648, nat_lit 650, nat_lit 651, nat_lit 652, nat_lit 654, nat_lit 655, nat_lit 657, nat_lit 658, nat_lit 659, nat_lit 661, nat_lit 662, nat_lit 664, nat_lit 665, nat_lit 666, nat_lit 668, nat_lit 669, nat_lit 671, nat_lit 672, nat_lit 673, nat_lit 675, nat_lit 676, nat_lit 678, nat_lit 679, nat_lit 680, nat_lit 683, nat_lit 684, nat_lit 685, nat_lit 687, nat_lit 688, nat_lit 690, nat_lit 691, nat_lit 692, nat_lit 694, nat_lit 695, nat_lit 697, nat_lit 698, nat_lit 699, nat_lit 701, nat_lit 702, nat_lit 704, nat_lit 705, nat_lit 706, nat_lit 708, nat_lit 709, nat_lit 711, nat_lit 712, nat_lit 713, nat_lit 715, nat_lit 716, nat_lit 718, nat_lit 719, nat_lit 720, nat_lit 722, nat_lit 723, nat_lit 725, nat_lit 726, nat_lit 727, nat_lit 728, nat_lit 730, nat_lit 731, nat_lit 733, nat_lit 734, nat_lit 735, nat_lit 737, nat_lit 738, nat_lit 740, nat_lit 741, nat_lit 742, nat_lit 743, nat_lit 745, nat_lit 746, nat_lit 748, nat_lit 749, nat_lit 750, nat_lit 752, nat_lit 753, nat_lit 755, nat_lit 756, nat_lit 764, nat_lit 765, nat_lit 766, nat_lit 768, nat_lit 769, nat_lit 771, nat_lit 772, nat_lit 773, nat_lit 775, nat_lit 776, nat_lit 778, nat_lit 779, nat_lit 780, nat_lit 782, nat_lit 783, nat_lit 785, nat_lit 786, nat_lit 787, nat_lit 789, nat_lit 790, nat_lit 792, nat_lit 793, nat_lit 794, nat_lit 795, nat_lit 798, nat_lit 799, nat_lit 800, nat_lit 801, nat_lit 804, nat_lit 805, nat_lit 806, nat_lit 807, nat_lit 808, nat_lit 809, nat_lit 810, nat_lit 811, nat_lit 812, nat_lit 813, nat_lit 816, nat_lit 817, nat_lit 818, nat_lit 820, nat_lit 821, nat_lit 823, nat_lit 824, nat_lit 825, nat_lit 826, nat_lit 828, nat_lit 829, nat_lit 831, nat_lit 832, nat_lit 833, nat_lit 835, nat_lit 836, nat_lit 838, nat_lit 839, nat_lit 840, nat_lit 842, nat_lit 843, nat_lit 845, nat_lit 846, nat_lit 847, nat_lit 849, nat_lit 850, nat_lit 852, nat_lit 853, nat_lit 854, nat_lit 856, nat_lit 857, nat_lit 859, nat_lit 860, nat_lit 861, nat_lit 864, nat_lit 865, nat_lit 866, nat_lit 868, nat_lit 869, nat_lit 871, nat_lit 872, nat_lit 873, nat_lit 875, nat_lit 876, nat_lit 878, nat_lit 879, nat_lit 880, nat_lit 882, nat_lit 883, nat_lit 885, nat_lit 886, nat_lit 887, nat_lit 889, nat_lit 890, nat_lit 892, nat_lit 893, nat_lit 894, nat_lit 897, nat_lit 898, nat_lit 899, nat_lit 902, nat_lit 903, nat_lit 904, nat_lit 906, nat_lit 907, nat_lit 909, nat_lit 910, nat_lit 911, nat_lit 914, nat_lit 915]
noncomputable def KH2 : Params → Frag := fun P => (nat_lit 767, ({ cls := .none, data := .fields #[] } : Obj)) :: KH P
noncomputable abbrev hk : Hook := kHook KH2 (nat_lit 767 :: addrs) (fun _ => by kernel_rfl)

noncomputable abbrev Xt : Shared → Bool := fun s => xlAt q [] s && recOk (RowW.records rw0.row.toRowW) s
theorem size (w : World) : ((boot_heap w.params).isNs mainGlobals && (Array.mk [] : Array GenState).size == 0, (boot_heap w.params).objs.size, (boot_heap w.params).nsMap mainGlobals "__annotations__") = (true, 11, some (Value.ref 6)) := by kernel_rfl
theorem open0 : ∀ w : World, (fencedOpening treeTable pw w 12872).map (fun s => (s.heap, s.gens, s.drawn, s.toks)) = some (boot_heap w.params, Array.mk [], boot_drawn, boot_toks) :=
  boot_open (by kernel_rfl) (by kernel_rfl) (fun s => by kernel_rfl)
noncomputable abbrev SF (w : World) (os : OsState) : Shared := ⟨HF w.params, Array.mk [], {}, 1347, os⟩
theorem look0 (w : World) (os : OsState) : (staticsOk (importedModules pw.main.body) (boot_heap w.params) (HF w.params) && namesBound pw (HF w.params) && gensDone (SF w os) && laidKept (boot_heap w.params) (HF w.params)) = true := by kernel_rfl
theorem look1 (w : World) (os : OsState) : seen ((recsOf q).map (·.name)) (ownsOf q) [] { SF w os with gens := #[] } = expectedOf q := by kernel_rfl
theorem look2 (w : World) (os : OsState) : (HF w.params).bltView = bltViewBooted := by kernel_rfl
theorem look3 (w : World) (os : OsState) : ((HF w.params).keysOk (looseW q loose) ((recsOf q).map (·.name)) ((litsOf q).map (·.1)) ((clssOf q (looseW q loose)).map (·.name)) && (HF w.params).accountedOkI (importedModules pw.main.body) && (HF w.params).isNs mainGlobals && (HF w.params).isNs builtinsNs && tablesOk q (HF w.params) && Xt (SF w os) && (if true then (SF w os).gens.size == 0 else !leftWithCleanup (SF w os).gens)) = true := by kernel_rfl
theorem look4 (w : World) (os : OsState) : tabsOk q (SF w os) = true := by kernel_rfl
theorem look5 (w : World) (os : OsState) : pinSeenD q (drecsOf q) (SF w os) = pinGoodD (drecsOf q) := by kernel_rfl
theorem look6 (w : World) (os : OsState) : plainSeenE q (looseW q loose) (SF w os) = plainGoodE q (looseW q loose) := by kernel_rfl
theorem look7 (w : World) (os : OsState) : plainSeenD q loose (SF w os) = plainGoodD q loose := by kernel_rfl
theorem look8 (w : World) (os : OsState) : wideSeen q (SF w os) = wideGood q := by kernel_rfl
theorem look9 (w : World) (os : OsState) : clsSeenW q loose (SF w os) = clsGoodW q loose := by kernel_rfl
theorem look10 (w : World) (os : OsState) : hk.obs (SF w os) = hk.val w := by kernel_rfl
theorem left : LeftO pw q loose Xt hk.obs hk.val 12872 := fun w => by
  refine LeftO.of_pieces (H₁ := HF) (gs₁ := Array.mk []) (d₁ := {}) (k₁ := 1347) (M := 12872) open0 size (fun w os => ?_) (by kernel_rfl) (fun w => ?_) w
  · obtain ⟨M, hM, e⟩ := runTop w os
    have := topRun_mono (12872 - M) _ _ _ _ e
    rwa [show M + (12872 - M) = 12872 by have := Nat.le_of_ble_eq_true hM; omega] at this
  · funext os
    exact looks_pair (look0 w os) (looks_pair (looks_pair (look1 w os) (looks_pair (look2 w os) (looks_pair (look3 w os) (looks_pair (look4 w os) (looks_pair (look5 w os) (looks_pair (look6 w os) (looks_pair (look7 w os) (looks_pair (look8 w os) (look9 w os))))))))) (look10 w os))
end Mine
open PySem.Calls
namespace Mine
section
variable {prog : Program} {w : World} {A : Around} {E : Value → Shared → Prop} {s : Shared}
theorem lk_bytes_bytes : typeLookup (.type "bytes") "__bytes__" = pure (some (.builtin "bytes.__bytes__")) := by rw [typeLookup_type, builtinLookup_eq_fast]; kernel_rfl
theorem call_bytes_bytes {b : Array UInt8} {t : Tok} {Q : Value → Shared → Prop} (hQ : Q (.bytes b t) s) : wpAny (model prog w) A (call (.type "bytes") [.bytes b t]) Q E s := by
  refine callType_codes (Q₁ := fun obj s₁ => s₁.TypeIs obj "bytes" ∧ Q obj s₁) PySem.F.bm_called (PySem.F.bm_typeCall _) PySem.F.entry_object_init ?_ fun obj s₁ h₁ => ?_
  · refine codeAny_of_tree ?_
    show wpAny _ A.in1.in1 (do checkBuiltinCall "bytes.__new__" ⟨[.type "bytes", .bytes b t], []⟩; again (.builtin "bytes.__new__" ⟨[.type "bytes", .bytes b t], []⟩)) _ _ s
    refine wpAny_bind (wpAny_of_eq (PySem.F.bm_newCall _) (wpAny_pure ⟨plainId_quiet PySem.F.bm_plain _, codeAny_builtin PySem.F.bm_entry ?_⟩))
    rw [Around.under_plainId PySem.F.bm_plain _]
    have hT : s.TypeIs (.bytes b t) "bytes" := typeIs_bytes s b t
    unfold Builtin.«bytes.__new__»
    refine wpAny_bind (wpAny_of_eq (a := true) rfl ?_)
    refine bm_if_false rfl ?_
    refine wpAny_bind (wpAny_of_eq PySem.F.bm_sub ?_)
    refine bm_if_false rfl ?_
    refine wpAny_bind (wpAny_of_eq (PySem.F.bm_bind _) ?_)
    refine wpAny_bind (wpAny_of_eq (a := ()) rfl ?_)
    refine wpAny_bind (wpAny_of_eq (a := ()) rfl ?_)
    refine bm_if_false rfl ?_
    refine wpAny_bind (wpAny_specialOf hT lk_bytes_bytes ?_)
    dsimp only
    refine wpAny_bind (wpAny_rule ?_)
    refine wpAny_bind (wpAny_typeOf hT ?_)
    refine bm_if_true (by decide +kernel) ?_
    exact wpAny_pure ⟨hT, hQ⟩
  · exact ⟨h₁.1, PySem.F.args_object_init_2 obj _, object_init_meets PySem.F.bm_called.init.lookup PySem.F.bm_called.made (by decide) prog w A.in1 _ s₁ ⟨h₁.1, rfl, h₁.2⟩⟩
end
end Mine
namespace Mine
noncomputable abbrev lw := looseW q loose
noncomputable abbrev RP : Program := PySem.Challenge.rw_ez0016_01.prog
/-- an around with no exception at hand -/
abbrev Ar (dp un : Nat) (fr : Option (List Env)) (gd : Option (List Code)) : Around := { handled := none, depth := dp, frames := fr, guards := gd, units := un }
abbrev Ext (h h' : Heap) : Prop := ∀ b o, h.get? b = some o → h'.get? b = some o
theorem enterK {prog : Program} {w : World} {A : Around} {K : Frag} {s : Shared} {R : Result → Shared → Prop} {name qual : Str} {params : Arguments} {body : List Stmt} {scope : Scope} {dV kV doc pm cdv ct oc : Value} {an od : Option Addr} {osl : Array (Option Value)}
    {f : Addr} {args : Args} {binds : List (Str × Value)} (X : K.In s.heap) (hlim : s.heap.NoLimit)
    (ho : K.lookup f = some ⟨oc, od, .func (fnOf name qual params body scope dV kV doc pm an cdv ct), osl⟩) (hcd : codeIn K cdv qual = true) (hroom : A.depth < recursionLimit)
    (hbind : BindsTo s (fnOf name qual params body scope dV kV doc pm an cdv ct) args binds) (hloc : ∀ y ∈ binds, scope.names.lookup y.1 = some .local)
    (h : ∀ L' h₁, Fr s.heap L' h₁ (fun y => binds.reverse.lookup y) → News s.heap L' h₁ [] → L' = s.heap.objs.size →
      wpAny (model prog w) (A.deeper (envOf qual scope L' f cdv)) (execs body (envOf qual scope L' f cdv)) (fun fl s' => R (.ok (.ret (match fl with | .ret v => v | _ => .none))) s')
        (fun e s' => wpAny (model prog w) (A.deeper (envOf qual scope L' f cdv)) («leaving» (envOf qual scope L' f cdv) e) (fun _ s'' => R (.error e) s'') (fun e' s'' => R (.error e') s'') s')
        { s with heap := h₁, toks := s.toks + binds.length })
    (hco : scope.isCoroutine = false) (hgen : scope.isGenerator = false) (hk : scope.kind = .function) (hcell : ∀ x ∈ scope.names, x.2 ≠ .cell) : codeAny (model prog w) A (.call (.ref f) args) R s :=
  codeAny_call_def (fd := fnOf name qual params body scope dV kV doc pm an cdv ct) (body := body) hroom (X _ _ ho) rfl hlim (codeRec_of X hcd) rfl hbind hcell hloc
    (fun h₀ hn hk₀ => h s.heap.objs.size h₀ ⟨hn, hk₀, Nat.le_refl _⟩ News.nil rfl) hco hgen hk
theorem fresh_of_fr {h₀ h : Heap} {L : Addr} {m : Str → Option Value} {news : List (Addr × Obj)} {D : Addr} {o : Obj} (N : News h₀ L h news) (hm : (D, o) ∈ news) : h.get? D = some o ∧ h₀.get? D = none := ⟨(N _ hm).1, (N _ hm).2.2⟩
theorem of_allLt {d : Addr} : ∀ {l : List (Addr × Obj)}, AllLt d l → ∀ p ∈ l, p.1 < d
  | [], _, _, h => nomatch h
  | q :: r, h, p, hp => by
    rcases List.mem_cons.mp hp with rfl | hp
    · exact h.1
    · exact of_allLt h.2 p hp
abbrev tupO (vs : List Value) : Obj := { cls := .type "tuple", data := .seq vs.toArray }
end Mine
set_option maxHeartbeats 4000000
namespace Mine
local macro_rules | `(tactic| k_room) => `(tactic| ((try simp only [depth_under_make, depth_under_kw, depth_in1, depth_deeper, depth_caller]); (try dsimp only [Ar]); omega))
local macro_rules | `(tactic| k_units) => `(tactic| ((try simp only [units_in1, units_deeper, Around.mark_units, units_caller]); (try dsimp only [Ar]); omega))
local macro_rules | `(tactic| cell_enter) => `(tactic| (refine' enterK ?k1 ?k2 ?k6 ?k7 ?k8 ?k9 ?kB ?_ ?c2 ?c3 ?c4 ?c5; (case k1 => assumption); (case k2 => exact TopRead.nolimit (by assumption)); (case k6 => k_is); (case k7 => k_is); (case k8 => k_room); (case k9 => first | exact BindsTo.of_eq rfl | exact binds_K (by assumption) rfl (by k_is) rfl rfl rfl | fail "k_enter: no rule for these arguments"); (case c5 => decide); (case kB => exact locs rfl); (case c2 => exact rfl); (case c3 => exact rfl); (case c4 => exact rfl); k_whole; intro L' h' F' N' kSz; (try dsimp only); (try k_fold)))
local macro_rules | `(tactic| walk_at "call type:bytes") => `(tactic| (k_here; (with_reducible show wpAny _ _ (call (Value.type _) [Value.bytes _ _]) _ _ _); (with_unfolding_all refine call_bytes_bytes ?_)))

theorem pow_le {x : Int} (h1 : 75 < x) (h2 : x ≤ 78) : (2 : Int) ^ (x - 76).toNat ≤ 4 ∧ 0 < (2 : Int) ^ (x - 76).toNat := by
  have : x = 76 ∨ x = 77 ∨ x = 78 := by omega
  rcases this with rfl | rfl | rfl <;> decide
theorem slice_le {ks : List Int} {n : Nat} {i x : Int} (h0 : 0 ≤ i) (h1 : 75 < x) (h2 : x ≤ 78) : ((ks.drop (clipAt n (i + 1))).take (clipAt n (i + 1 + 2 ^ (x - 76).toNat) - clipAt n (i + 1))).length ≤ 8 := by
  obtain ⟨p1, p2⟩ := pow_le h1 h2
  have e1 := clipAt_cast n (i + 1)
  have e2 := clipAt_cast n (i + 1 + 2 ^ (x - 76).toNat)
  have : (List.take (clipAt n (i + 1 + 2 ^ (x - 76).toNat) - clipAt n (i + 1)) (List.drop (clipAt n (i + 1)) ks)).length ≤ clipAt n (i + 1 + 2 ^ (x - 76).toNat) - clipAt n (i + 1) := by
    rw [List.length_take]; exact Nat.min_le_left _ _
  omega
def lenAt (ks : List Int) (i z : Int) : Int := KFB.value (List.take (clipAt ks.length (i + 1 + z) - clipAt ks.length (i + 1)) (List.drop (clipAt ks.length (i + 1)) ks)).reverse
/-- what read_op_code answers -/
def rdI (ks : List Int) (i : Int) : Option (Int × Int) :=
  if (ks.length : Int) ≤ i then none
  else if 0 < ks.getD i.toNat 0 ∧ ks.getD i.toNat 0 ≤ 78 then
    if 75 < ks.getD i.toNat 0 then
      if (ks.length : Int) < i + 1 + 2 ^ (ks.getD i.toNat 0 - 76).toNat then none
      else if (ks.length : Int) < i + 1 + 2 ^ (ks.getD i.toNat 0 - 76).toNat + lenAt ks i (2 ^ (ks.getD i.toNat 0 - 76).toNat) then none
      else some (ks.getD i.toNat 0, i + 1 + 2 ^ (ks.getD i.toNat 0 - 76).toNat + lenAt ks i (2 ^ (ks.getD i.toNat 0 - 76).toNat))
    else if (ks.length : Int) < i + 1 + ks.getD i.toNat 0 then none
    else some (ks.getD i.toNat 0, i + 1 + ks.getD i.toNat 0)
  else some (ks.getD i.toNat 0, i + 1)
local macro_rules | `(tactic| walk_at "call ref") => `(tactic| (k_here; (with_reducible show wpAny _ _ (call (Value.ref _) [Value.bytes _ _, Value.str _ _]) _ _ _); refine' KFB.call_little ?N ?m ?b ?l ?_; (case N => k_asm); (case m => k_mem); (case b => assumption); (case l => exact slice_le (by assumption) (by assumption) (by assumption)); intro t' k'))
theorem rd_spec {w : World} {mg mb : Str → Option Value} {dp un : Nat} {fr : Option (List Env)} {gd : Option (List Code)} {s : Shared} {Q E : Value → Shared → Prop}
    (b : Array UInt8) (ks : List Int) (hb : KBw.bInts b = ks) (tb : Tok) (hsz : ks.length ≤ 4096) (i : Int) (ti : Tok) (h0 : 0 ≤ i)
    (X : (KH w.params).In s.heap) (T : TopRead q lw mg mb s.heap) (hd : dp + 20 < recursionLimit) (hu : un + 200 < cLine)
    (hnone : rdI ks i = none → ∀ h' tk', Ext s.heap h' → Q .none { s with heap := h', toks := tk' })
    (hsome : ∀ op stop, rdI ks i = some (op, stop) → ∀ D h' tk' t1 t2, Ext s.heap h' → h'.get? D = some (tupO [.int op t1, .int stop t2]) → s.heap.get? D = none → Q (.ref D) { s with heap := h', toks := tk' }) :
    wpAny (model PySem.Challenge.rw_ez0016_01.prog w) (Ar dp un fr gd) (call (.ref 28) [.bytes b tb, .int i ti]) Q E s := by
  revert X; k_fill; intro X
  refine wpAny_call ?_
  k_dflt cell_enter
  k_steps
  all_goals (try (with_reducible rename Fr _ _ _ _ => FF))
  all_goals (try (with_reducible rename News _ _ _ _ => NN))
  all_goals first
    | (refine hnone ?_ _ _ FF.keep; clear hnone hsome FF NN X T; unfold rdI lenAt; (repeat' split) <;> first | rfl | (exfalso; omega))
    | (refine hsome _ _ ?_ _ _ _ _ _ FF.keep (NN _ (.head _)).1 (NN _ (.head _)).2.2; clear hnone hsome FF NN X T; unfold rdI lenAt; (repeat' split) <;> first | rfl | (exfalso; omega))
    | (trace_state; fail "end")
end Mine
namespace Mine
local macro_rules | `(tactic| walk_at "zz") => `(tactic| fail "zz")
local macro_rules | `(tactic| k_room) => `(tactic| ((try simp only [depth_under_make, depth_under_kw, depth_in1, depth_deeper, depth_caller]); (try dsimp only [Ar]); omega))
local macro_rules | `(tactic| k_units) => `(tactic| ((try simp only [units_in1, units_deeper, Around.mark_units, units_caller]); (try dsimp only [Ar]); omega))
local macro_rules | `(tactic| cell_enter) => `(tactic| (refine' enterK ?k1 ?k2 ?k6 ?k7 ?k8 ?k9 ?kB ?_ ?c2 ?c3 ?c4 ?c5; (case k1 => assumption); (case k2 => exact TopRead.nolimit (by assumption)); (case k6 => k_is); (case k7 => k_is); (case k8 => k_room); (case k9 => first | exact BindsTo.of_eq rfl | exact binds_K (by assumption) rfl (by k_is) rfl rfl rfl | fail "k_enter: no rule for these arguments"); (case c5 => decide); (case kB => exact locs rfl); (case c2 => exact rfl); (case c3 => exact rfl); (case c4 => exact rfl); k_whole; intro L' h' F' N' kSz; (try dsimp only); (try k_fold)))
local macro_rules | `(tactic| walk_at "call type:bytes") => `(tactic| (k_here; (with_reducible show wpAny _ _ (call (Value.type _) [Value.bytes _ _]) _ _ _); (with_unfolding_all refine call_bytes_bytes ?_)))

theorem news_new {h₀ h h' : Heap} {L D : Addr} {m : Str → Option Value} {news : List (Addr × Obj)} {o : Obj} (F : Fr h₀ L h m) (N : News h₀ L h news) (hk : Ext h h') (hD : h'.get? D = some o) (hf : h.get? D = none) : News h₀ L h' ((D, o) :: news) := fun p hp => by
  rcases List.mem_cons.mp hp with rfl | hp
  · refine ⟨hD, fun e => ?_, ?_⟩
    · obtain ⟨oL, _, _, hL, _⟩ := F.ns
      rw [← e] at hL
      exact absurd (hL.symm.trans hf) (by simp)
    · cases q : h₀.get? D with
      | none => rfl
      | some x => exact absurd ((F.keep _ _ q).symm.trans hf) (by simp)
  · exact ⟨hk _ _ (N p hp).1, (N p hp).2⟩
abbrev fdOf (o : Obj) : FuncData := match o.data with | .func fd => fd | _ => default
abbrev bodyOf (fd : FuncData) : List Stmt := match fd.body with | .stmts b => b | _ => []
noncomputable abbrev gB (w : World) : List Stmt := bodyOf (fdOf (top.o_28 w.params))
noncomputable abbrev gSc (w : World) : Scope := (fdOf (top.o_28 w.params)).scope
abbrev whTest (s : Stmt) : Expr := match s with | .While t _ _ _ => t | _ => default
abbrev whBody (s : Stmt) : List Stmt := match s with | .While _ b _ _ => b | _ => default
abbrev yielded (s : Stmt) : Expr := match s with | .Expr (.Yield (some e) _) _ => e | _ => default
noncomputable abbrev gE (w : World) (L : Addr) : Env := envOf (Str.ofString "op_code_spans") (gSc w) L 35 (.ref 34)
noncomputable abbrev gW (w : World) : Stmt := (gB w).getD 1 (.Pass ⟨0, 0, 0, 0⟩)
local macro_rules | `(tactic| walk_at "call ref") => `(tactic| (k_here; (with_reducible show wpAny _ _ (call (Value.ref 28) [Value.bytes _ _, Value.int _ _]) _ _ _); k_dflt ((with_reducible rename Fr _ _ _ _ => FF); (with_reducible rename News _ _ _ _ => NN); (with_reducible rename TopRead _ _ _ _ _ => TT); refine' rd_spec _ _ ?kb _ ?ksz _ _ ?k0 ?kX ?kT ?kd ?ku ?_ ?_; (case kb => assumption); (case ksz => assumption); (case k0 => first | assumption | omega); (case kX => exact Frag.In.keeps (by assumption) FF.keep); (case kT => exact TopRead.keeps TT FF.keep); (case kd => k_room); (case ku => k_units); all_goals first
  | (intro op stop hr D h' tk' t1 t2 hk' hD hf; (have F' := Fr.keeps FF hk'); (have N' := news_new FF NN hk' hD hf); clear FF NN hk' hD hf; (try dsimp only at F' N' ⊢))
  | (intro hr h' tk' hk'; (have F' := Fr.keeps FF hk'); (have N' := News.keeps NN hk'); clear FF NN hk'; (try dsimp only at F' N' ⊢)))))

theorem g_test {w : World} {mg mb : Str → Option Value} {dp un : Nat} {fr : Option (List Env)} {gd : Option (List Code)} {s : Shared} {E : Value → Shared → Prop}
    {h₀ : Heap} {L : Addr} {m : Str → Option Value} {news : List (Addr × Obj)} {Q : Bool → Shared → Prop}
    (b : Array UInt8) (ks : List Int) (hb : KBw.bInts b = ks) (tb : Tok) (hsz : ks.length ≤ 4096) (i : Int) (ti : Tok) (h0 : 0 ≤ i) 
    (X : (KH w.params).In h₀) (T : TopRead q lw mg mb h₀) (F : Fr h₀ L s.heap (fun y => if y = Str.ofString "script" then some (.bytes b tb) else if y = Str.ofString "start" then some (.int i ti) else m y)) (N : News h₀ L s.heap news) (hd : dp + 30 < recursionLimit) (hu : un + 230 < cLine)
    (hnone : rdI ks i = none → ∀ h' tk', Fr h₀ L h' (fun y => if y = Str.ofString "span" then some .none else (fun y => if y = Str.ofString "script" then some (.bytes b tb) else if y = Str.ofString "start" then some (.int i ti) else m y) y) → News h₀ L h' news → Q false { s with heap := h', toks := tk' })
    (hsome : ∀ op stop, rdI ks i = some (op, stop) → ∀ D h' tk' t1 t2, Fr h₀ L h' (fun y => if y = Str.ofString "span" then some (.ref D) else (fun y => if y = Str.ofString "script" then some (.bytes b tb) else if y = Str.ofString "start" then some (.int i ti) else m y) y) → News h₀ L h' ((D, tupO [.int op t1, .int stop t2]) :: news) → Q true { s with heap := h', toks := tk' }) :
    wpAny (model PySem.Challenge.rw_ez0016_01.prog w) (Ar dp un fr gd) (isTrue (whTest (gW w)) (gE w L) (eval (whTest (gW w)) (gE w L))) Q E s := by
  revert X; k_fill; intro X
  dsimp only [gW, gB, gSc, gE, whTest, bodyOf, fdOf, top.o_28, List.getD, List.getElem?_cons_succ, List.getElem?_cons_zero, Option.getD]
  k_steps
  all_goals (with_reducible rename Fr _ _ _ _ => FF)
  all_goals (with_reducible rename News _ _ _ _ => NN)
  · exact hnone (by assumption) _ _ FF NN
  · exact hsome _ _ (by assumption) _ _ _ _ _ FF NN

theorem g_unpack {w : World} {mg mb : Str → Option Value} {dp un : Nat} {fr : Option (List Env)} {gd : Option (List Code)} {s : Shared} {E : Value → Shared → Prop}
    {h₀ : Heap} {L : Addr} {m : Str → Option Value} {news : List (Addr × Obj)} {Q : Flow → Shared → Prop}
    (b : Array UInt8) (tb : Tok) (i : Int) (ti : Tok) (D : Addr) (op stop : Int) (t1 t2 : Tok)
    (X : (KH w.params).In h₀) (T : TopRead q lw mg mb h₀) (F : Fr h₀ L s.heap (fun y => if y = Str.ofString "span" then some (.ref D) else (fun y => if y = Str.ofString "script" then some (.bytes b tb) else if y = Str.ofString "start" then some (.int i ti) else m y) y)) (N : News h₀ L s.heap ((D, tupO [.int op t1, .int stop t2]) :: news)) (hd : dp + 30 < recursionLimit) (hu : un + 230 < cLine)
    (hret : ∀ h' tk', Fr h₀ L h' (fun y => if y = Str.ofString "stop" then some (.int stop t2) else if y = Str.ofString "op_code" then some (.int op t1) else (fun y => if y = Str.ofString "span" then some (.ref D) else (fun y => if y = Str.ofString "script" then some (.bytes b tb) else if y = Str.ofString "start" then some (.int i ti) else m y) y) y) → News h₀ L h' ((D, tupO [.int op t1, .int stop t2]) :: news) → Q .next { s with heap := h', toks := tk' }) :
    wpAny (model PySem.Challenge.rw_ez0016_01.prog w) (Ar dp un fr gd) (exec ((whBody (gW w)).getD 0 (.Pass ⟨0, 0, 0, 0⟩)) (gE w L)) Q E s := by
  revert X; k_fill; intro X
  dsimp only [gW, gB, gSc, gE, whTest, whBody, yielded, bodyOf, fdOf, top.o_28, List.getD, List.getElem?_cons_succ, List.getElem?_cons_zero, Option.getD]
  k_steps
  all_goals (with_reducible rename Fr _ _ _ _ => FF)
  all_goals (with_reducible rename News _ _ _ _ => NN)
  exact hret _ _ FF NN

theorem g_tuple {w : World} {mg mb : Str → Option Value} {dp un : Nat} {fr : Option (List Env)} {gd : Option (List Code)} {s : Shared} {E : Value → Shared → Prop}
    {h₀ : Heap} {L : Addr} {m : Str → Option Value} {news : List (Addr × Obj)} {Q : Value → Shared → Prop}
    (b : Array UInt8) (tb : Tok) (i : Int) (ti : Tok) (D : Addr) (op stop : Int) (t1 t2 : Tok)
    (X : (KH w.params).In h₀) (T : TopRead q lw mg mb h₀) (F : Fr h₀ L s.heap (fun y => if y = Str.ofString "stop" then some (.int stop t2) else if y = Str.ofString "op_code" then some (.int op t1) else (fun y => if y = Str.ofString "span" then some (.ref D) else (fun y => if y = Str.ofString "script" then some (.bytes b tb) else if y = Str.ofString "start" then some (.int i ti) else m y) y) y)) (N : News h₀ L s.heap news) (hd : dp + 30 < recursionLimit) (hu : un + 230 < cLine)
    (hret : ∀ D' h' tk', Fr h₀ L h' (fun y => if y = Str.ofString "stop" then some (.int stop t2) else if y = Str.ofString "op_code" then some (.int op t1) else (fun y => if y = Str.ofString "span" then some (.ref D) else (fun y => if y = Str.ofString "script" then some (.bytes b tb) else if y = Str.ofString "start" then some (.int i ti) else m y) y) y) → News h₀ L h' ((D', tupO [.int op t1, .int i ti, .int stop t2]) :: news) → (∀ p ∈ news, p.1 < D') → Q (.ref D') { s with heap := h', toks := tk' }) :
    wpAny (model PySem.Challenge.rw_ez0016_01.prog w) (Ar dp un fr gd) (eval (yielded ((whBody (gW w)).getD 1 (.Pass ⟨0, 0, 0, 0⟩))) (gE w L)) Q E s := by
  revert X; k_fill; intro X
  dsimp only [gW, gB, gSc, gE, whTest, whBody, yielded, bodyOf, fdOf, top.o_28, List.getD, List.getElem?_cons_succ, List.getElem?_cons_zero, Option.getD]
  k_steps
  all_goals (with_reducible rename Fr _ _ _ _ => FF)
  all_goals (with_reducible rename News _ _ _ _ => NN)
  exact hret _ _ _ FF NN (by first | with_reducible assumption | exact of_allLt (by with_reducible assumption))

theorem g_next {w : World} {mg mb : Str → Option Value} {dp un : Nat} {fr : Option (List Env)} {gd : Option (List Code)} {s : Shared} {E : Value → Shared → Prop}
    {h₀ : Heap} {L : Addr} {m : Str → Option Value} {news : List (Addr × Obj)} {Q : Flow → Shared → Prop}
    (b : Array UInt8) (tb : Tok) (i : Int) (ti : Tok) (D : Addr) (op stop : Int) (t1 t2 : Tok)
    (X : (KH w.params).In h₀) (T : TopRead q lw mg mb h₀) (F : Fr h₀ L s.heap (fun y => if y = Str.ofString "stop" then some (.int stop t2) else if y = Str.ofString "op_code" then some (.int op t1) else (fun y => if y = Str.ofString "span" then some (.ref D) else (fun y => if y = Str.ofString "script" then some (.bytes b tb) else if y = Str.ofString "start" then some (.int i ti) else m y) y) y)) (N : News h₀ L s.heap news) (hd : dp + 30 < recursionLimit) (hu : un + 230 < cLine)
    (hret : ∀ h' tk', Fr h₀ L h' (fun y => if y = Str.ofString "start" then some (.int stop t2) else (fun y => if y = Str.ofString "stop" then some (.int stop t2) else if y = Str.ofString "op_code" then some (.int op t1) else (fun y => if y = Str.ofString "span" then some (.ref D) else (fun y => if y = Str.ofString "script" then some (.bytes b tb) else if y = Str.ofString "start" then some (.int i ti) else m y) y) y) y) → News h₀ L h' news → Q .next { s with heap := h', toks := tk' }) :
    wpAny (model PySem.Challenge.rw_ez0016_01.prog w) (Ar dp un fr gd) (exec ((whBody (gW w)).getD 2 (.Pass ⟨0, 0, 0, 0⟩)) (gE w L)) Q E s := by
  revert X; k_fill; intro X
  dsimp only [gW, gB, gSc, gE, whTest, whBody, yielded, bodyOf, fdOf, top.o_28, List.getD, List.getElem?_cons_succ, List.getElem?_cons_zero, Option.getD]
  k_steps
  all_goals (with_reducible rename Fr _ _ _ _ => FF)
  all_goals (with_reducible rename News _ _ _ _ => NN)
  exact hret _ _ FF NN

theorem g_init {w : World} {mg mb : Str → Option Value} {dp un : Nat} {fr : Option (List Env)} {gd : Option (List Code)} {s : Shared} {E : Value → Shared → Prop}
    {h₀ : Heap} {L : Addr} {m : Str → Option Value} {news : List (Addr × Obj)} {Q : Flow → Shared → Prop}
    (b : Array UInt8) (tb : Tok)
    (X : (KH w.params).In h₀) (T : TopRead q lw mg mb h₀) (F : Fr h₀ L s.heap (fun y => if y = Str.ofString "script" then some (.bytes b tb) else m y)) (N : News h₀ L s.heap news) (hd : dp + 30 < recursionLimit) (hu : un + 230 < cLine)
    (hret : ∀ h' tk' ti, Fr h₀ L h' (fun y => if y = Str.ofString "start" then some (.int 0 ti) else if y = Str.ofString "script" then some (.bytes b tb) else m y) → News h₀ L h' news → Q .next { s with heap := h', toks := tk' }) :
    wpAny (model PySem.Challenge.rw_ez0016_01.prog w) (Ar dp un fr gd) (exec ((gB w).getD 0 (.Pass ⟨0, 0, 0, 0⟩)) (gE w L)) Q E s := by
  revert X; k_fill; intro X
  dsimp only [gW, gB, gSc, gE, whTest, whBody, yielded, bodyOf, fdOf, top.o_28, List.getD, List.getElem?_cons_succ, List.getElem?_cons_zero, Option.getD]
  k_steps
  all_goals (with_reducible rename Fr _ _ _ _ => FF)
  all_goals (with_reducible rename News _ _ _ _ => NN)
  exact hret _ _ _ FF NN
end Mine
namespace Mine
def Since (GL : Addr) (a b : Shared) : Prop := (∀ x o, x ≠ GL → a.heap.get? x = some o → b.heap.get? x = some o) ∧ ∃ h tk, b = { a with heap := h, toks := tk }
theorem Since.refl (GL : Addr) (a : Shared) : Since GL a a := ⟨fun _ _ _ e => e, a.heap, a.toks, rfl⟩
theorem Since.trans {GL : Addr} {a b c : Shared} (x : Since GL a b) (y : Since GL b c) : Since GL a c := by
  obtain ⟨x1, h, tk, rfl⟩ := x
  obtain ⟨y1, h', tk', rfl⟩ := y
  exact ⟨fun z o hz e => y1 z o hz (x1 z o hz e), h', tk', rfl⟩
def allNews (h₀ : Heap) (L : Addr) (h : Heap) : List (Addr × Obj) := (List.range h.objs.size).filterMap fun a => if a = L ∨ (h₀.get? a).isSome = true then none else (h.get? a).map fun o => (a, o)
theorem allNews_is (h₀ : Heap) (L : Addr) (h : Heap) : News h₀ L h (allNews h₀ L h) := fun p hp => by
  obtain ⟨a, _, e⟩ := List.mem_filterMap.mp hp
  split at e
  · cases e
  · rename_i hn
    obtain ⟨o, ho, rfl⟩ := Option.map_eq_some_iff.mp e
    refine ⟨ho, fun q => hn (.inl q), ?_⟩
    cases q : h₀.get? a with
    | none => rfl
    | some x => exact absurd (.inr (by simp [q])) hn
theorem mem_allNews {h₀ h : Heap} {L x : Addr} {o : Obj} (hx : x ≠ L) (e : h.get? x = some o) (e₀ : h₀.get? x = none) : (x, o) ∈ allNews h₀ L h := by
  refine List.mem_filterMap.mpr ⟨x, List.mem_range.mpr (Heap.lt_size e), ?_⟩
  rw [if_neg (by simp [hx, e₀]), e]; rfl
theorem kept_of {h₀ h h' : Heap} {L : Addr} {m m' : Str → Option Value} {news' : List (Addr × Obj)} (F : Fr h₀ L h m) (F' : Fr h₀ L h' m') (N' : News h₀ L h' news') (hs : ∀ p ∈ allNews h₀ L h, p ∈ news') :
    ∀ x o, x ≠ L → h.get? x = some o → h'.get? x = some o := fun x o hx e => by
  cases q : h₀.get? x with
  | none => exact (N' _ (hs _ (mem_allNews hx e q))).1
  | some o' =>
    have := F.keep _ _ q
    rw [this] at e; cases e
    exact F'.keep _ _ q
theorem value_nonneg : ∀ (l : List Int) (a : Int), 0 ≤ a → (∀ x ∈ l, 0 ≤ x) → 0 ≤ l.foldl (fun a k => a * 256 + k) a
  | [], _, h, _ => h
  | x :: r, a, h, hx => by
    rw [List.foldl_cons]
    exact value_nonneg r _ (by have := hx x (.head _); omega) fun y hy => hx y (.tail _ hy)
theorem lenAt_nonneg {ks : List Int} (hk : ∀ x ∈ ks, 0 ≤ x) (i z : Int) : 0 ≤ lenAt ks i z := by
  unfold lenAt KFB.value
  refine value_nonneg _ _ (Int.le_refl _) fun x hx => hk x ?_
  exact List.mem_of_mem_drop (List.mem_of_mem_take (List.mem_reverse.mp hx))
theorem rdI_some {ks : List Int} (hk : ∀ x ∈ ks, 0 ≤ x) {i : Int} {op stop : Int} (h : rdI ks i = some (op, stop)) : i < ks.length ∧ i + 1 ≤ stop ∧ stop ≤ max (ks.length : Int) (i + 1) ∧ op = ks.getD i.toNat 0 := by
  unfold rdI at h
  split at h
  · cases h
  split at h
  · rename_i h1 h2
    split at h
    · rename_i h3
      have := pow_le h3 h2.2
      have hn := lenAt_nonneg hk i (2 ^ (ks.getD i.toNat 0 - 76).toNat)
      split at h
      · cases h
      split at h
      · cases h
      cases h
      omega
    · split at h
      · cases h
      cases h
      omega
  · cases h
    omega
def spansF : Nat → List Int → Int → List (Int × Int × Int)
  | 0, _, _ => []
  | f + 1, ks, i => match rdI ks i with
    | none => []
    | some (op, stop) => (op, i, stop) :: spansF f ks stop
abbrev spans (ks : List Int) : List (Int × Int × Int) := spansF (ks.length + 1) ks 0
def gR (L : Addr) : GenEnd := fun n s₀ r s₁ => r = .ok (.ret .none) ∧ (n = 0 ∧ Since L s₀ s₁)
def gY (h₀ : Heap) (L : Addr) (sp : List (Int × Int × Int)) : Protocol := fun m s₀ v s kap =>
  ∃ D op st stop t1 t2 t3, v = .ref D ∧ sp[sp.length - 1 - m]? = some (op, st, stop) ∧ s.heap.get? D = some (tupO [.int op t1, .int st t2, .int stop t3]) ∧ D ≠ L ∧ s₀.heap.get? D = none ∧ Since L s₀ s ∧ (∃ oL, s.heap.get? L = some oL) ∧
    ∀ s'' : Shared, (∀ o, s.heap.get? L = some o → s''.heap.get? L = some o) → Ext h₀ s''.heap → kap (.send .none) s''
theorem fr_ext {h₀ h : Heap} {L : Addr} {m m' : Str → Option Value} (F : Fr h₀ L h m) (e : ∀ y, m y = m' y) : Fr h₀ L h m' := by
  have : m = m' := funext e
  rw [← this]; exact F
theorem gB_is (w : World) : ∃ pos, gB w = [(gB w).getD 0 (.Pass ⟨0, 0, 0, 0⟩), .While (whTest (gW w)) (whBody (gW w)) [] pos] := ⟨_, rfl⟩
theorem gW_is (w : World) : ∃ yp pp, whBody (gW w) = [(whBody (gW w)).getD 0 (.Pass ⟨0, 0, 0, 0⟩), .Expr (.Yield (some (yielded ((whBody (gW w)).getD 1 (.Pass ⟨0, 0, 0, 0⟩)))) yp) pp, (whBody (gW w)).getD 2 (.Pass ⟨0, 0, 0, 0⟩)] := ⟨_, _, rfl⟩
noncomputable abbrev gL (w : World) (L : Addr) : Code := .whileLoop (whTest (gW w)) (whBody (gW w)) [] (gE w L)
theorem over_is (w : World) (dp un : Nat) (fr : Option (List Env)) (gd : Option (List Code)) (L : Addr) (k : Result → Sem Fin) (p : Pos) :
    ∃ dp' un' fr' gd', (Ar dp un fr gd).over (gL w L) [.ret k none false [] (.func (gB w) (gE w L)) p []] = Ar dp' un' fr' gd' ∧ dp' ≤ dp + 5 ∧ un' ≤ un + 20 := by
  refine ⟨_, _, _, _, rfl, ?_, ?_⟩
  · show dp + (1 + 0) + _ ≤ dp + 5
    have : (gL w L).weight = 0 := rfl
    omega
  · show un + (3 + 0) + 0 ≤ un + 20
    omega
theorem over_is0 (w : World) (dp un : Nat) (fr : Option (List Env)) (gd : Option (List Code)) (L : Addr) :
    ∃ dp' un' fr' gd', (Ar dp un fr gd).over (.func (gB w) (gE w L)) [] = Ar dp' un' fr' gd' ∧ dp' ≤ dp + 5 ∧ un' ≤ un + 20 := by
  refine ⟨_, _, _, _, rfl, ?_, ?_⟩
  · show dp + 0 + 1 ≤ dp + 5
    omega
  · show un + 0 + 3 ≤ un + 20
    omega
theorem fresh_of_news {h₀ h h' : Heap} {L D : Addr} {o : Obj} {m : Str → Option Value} {news : List (Addr × Obj)} (N' : News h₀ L h' ((D, o) :: news)) (hs : ∀ p ∈ allNews h₀ L h, p ∈ news) (hl : ∀ p ∈ news, p.1 < D) : h.get? D = none := by
  cases q : h.get? D with
  | none => rfl
  | some x =>
    have a := N' _ (.head _)
    have := hl _ (hs _ (mem_allNews a.2.1 q a.2.2))
    exact absurd this (Nat.lt_irrefl _)
section
variable {w : World} {mg mb : Str → Option Value} {h₀ : Heap} {L : Addr}
theorem seg_loop {dp un : Nat} {fr : Option (List Env)} {gd : Option (List Code)} {b : Array UInt8} {ks : List Int} {tb : Tok} {k : Result → Sem Fin} {p : Pos} (hb : KBw.bInts b = ks) (hsz : ks.length ≤ 4096) (hk : ∀ x ∈ ks, 0 ≤ x)
    (X : (KH w.params).In h₀) (T : TopRead q lw mg mb h₀) (hd : dp + 60 < recursionLimit) (hu : un + 400 < cLine) (sp : List (Int × Int × Int))
    (hend : ∀ s₀ s', Since L s₀ s' → Seg (model RP w) (Ar dp un fr gd) (gR L) (gY h₀ L sp) 0 s₀ (.func (gB w) (gE w L)) (k (.ok .next)) [] s') :
    ∀ (f : Nat) (i : Int) (pre : List (Int × Int × Int)) (s₀ s : Shared) (ti : Tok) (m : Str → Option Value), 0 ≤ i → (ks.length : Int) - i < f → sp = pre ++ spansF f ks i →
      Fr h₀ L s.heap (fun y => if y = Str.ofString "script" then some (.bytes b tb) else if y = Str.ofString "start" then some (.int i ti) else m y) → Since L s₀ s →
      Seg (model RP w) (Ar dp un fr gd) (gR L) (gY h₀ L sp) (spansF f ks i).length s₀ (gL w L) ((model RP w).den (gL w L)) [.ret k none false [] (.func (gB w) (gE w L)) p []] s := by
  obtain ⟨dp', un', fr', gd', hA, hdp, hun⟩ := over_is w dp un fr gd L k p
  obtain ⟨yp, pp, hB⟩ := gW_is w
  have hx := congrArg (fun l => execs l (gE w L)) hB
  intro f
  induction f with
  | zero =>
    intro i pre s₀ s ti m h0 hf hsp F hs
    refine seg_whileLoop ?_
    rw [hA]
    refine g_test b ks hb tb hsz i ti h0 X T F (allNews_is h₀ L s.heap) (by omega) (by omega) (fun hr h' tk' F' N' => ?_) (fun op stop hr D h' tk' t1 t2 F' N' => ?_)
    · rw [if_neg Bool.false_ne_true]
      exact seg_execs_nil (seg_leaf (.ok .next) (hend _ _ (hs.trans ⟨kept_of F F' N' fun _ h => h, h', tk', rfl⟩)))
    · have := (rdI_some hk hr).1
      omega
  | succ f ih =>
    intro i pre s₀ s ti m h0 hf hsp F hs
    refine seg_whileLoop ?_
    rw [hA]
    refine g_test b ks hb tb hsz i ti h0 X T F (allNews_is h₀ L s.heap) (by omega) (by omega) (fun hr h' tk' F' N' => ?_) (fun op stop hr D h' tk' t1 t2 F' N' => ?_)
    · rw [if_neg Bool.false_ne_true]
      have e : spansF (f + 1) ks i = [] := by simp [spansF, hr]
      rw [e]
      exact seg_execs_nil (seg_leaf (.ok .next) (hend _ _ (hs.trans ⟨kept_of F F' N' fun _ h => h, h', tk', rfl⟩)))
    · rw [if_pos rfl]
      obtain ⟨r1, r2, r3, r4⟩ := rdI_some hk hr
      have e : spansF (f + 1) ks i = (op, i, stop) :: spansF f ks stop := by simp [spansF, hr]
      rw [e] at hsp ⊢
      rw [List.length_cons, hx]
      refine seg_execs_cons (seg_wrap ?_)
      rw [hA]
      refine g_unpack b tb i ti D op stop t1 t2 X T F' N' (by omega) (by omega) (fun h₁ tk₁ F₁ N₁ => ?_)
      refine seg_execs_cons (seg_Expr_Yield rfl rfl rfl ?_)
      rw [hA]
      refine g_tuple b tb i ti D op stop t1 t2 X T F₁ N₁ (by omega) (by omega) (fun D' h₂ tk₂ F₂ N₂ hlt => ?_)
      intro kap hkap
      have hkeep : ∀ p ∈ allNews h₀ L s.heap, p ∈ (D, tupO [.int op t1, .int stop t2]) :: allNews h₀ L s.heap := fun _ h => .tail _ h
      have hS : Since L s { s with heap := h₂, toks := tk₂ } := ⟨kept_of F F₂ N₂ fun _ h => .tail _ (hkeep _ h), h₂, tk₂, rfl⟩
      refine ⟨D', op, i, stop, t1, ti, t2, rfl, ?_, (N₂ _ (.head _)).1, (N₂ _ (.head _)).2.1, ?_, hs.trans hS, (let ⟨oL, _, _, e, _⟩ := F₂.ns; ⟨oL, e⟩), fun s'' hL hE => hkap .none s'' ?_⟩
      · rw [hsp]
        have : (pre ++ (op, i, stop) :: spansF f ks stop).length - 1 - (spansF f ks stop).length = pre.length := by simp only [List.length_append, List.length_cons]; omega
        rw [this, List.getElem?_append_right (Nat.le_refl _), Nat.sub_self]; rfl
      · cases q : s₀.heap.get? D' with
        | none => rfl
        | some x =>
          have a := N₂ _ (.head _)
          have z := fresh_of_news (m := m) N₂ hkeep hlt
          rw [hs.1 _ _ a.2.1 q] at z; cases z
      · have F₃ : Fr h₀ L s''.heap _ := ⟨F₂.ns.at' hL, hE, F₂.above⟩
        refine seg_execs_cons (seg_wrap ?_)
        rw [hA]
        refine g_next b tb i ti D op stop t1 t2 X T F₃ (allNews_is h₀ L s''.heap) (by omega) (by omega) (fun h₄ tk₄ F₄ N₄ => ?_)
        refine seg_execs_nil (seg_again rfl ?_)
        refine ih stop (pre ++ [(op, i, stop)]) s'' _ t2 (fun y => if y = Str.ofString "stop" then some (.int stop t2) else if y = Str.ofString "op_code" then some (.int op t1) else if y = Str.ofString "span" then some (.ref D) else m y) (by omega) (by omega) (by rw [hsp]; simp) (fr_ext F₄ fun y => ?_) ⟨kept_of F₃ F₄ N₄ fun _ h => h, h₄, tk₄, rfl⟩
        by_cases h1 : y = Str.ofString "script"
        · subst h1; rfl
        by_cases h2 : y = Str.ofString "start"
        · subst h2; rfl
        simp only [h1, h2, if_false]
end
end Mine
namespace Mine
section
variable {w : World} {mg mb : Str → Option Value} {h₀ : Heap} {L : Addr}
theorem seg_start {dp un : Nat} {fr : Option (List Env)} {gd : Option (List Code)} {b : Array UInt8} {ks : List Int} {tb : Tok} (hb : KBw.bInts b = ks) (hsz : ks.length ≤ 4096) (hk : ∀ x ∈ ks, 0 ≤ x)
    (X : (KH w.params).In h₀) (T : TopRead q lw mg mb h₀) (hd : dp + 60 < recursionLimit) (hu : un + 400 < cLine) {s₀ s : Shared} {m : Str → Option Value}
    (F : Fr h₀ L s.heap (fun y => if y = Str.ofString "script" then some (.bytes b tb) else m y)) (hs : Since L s₀ s) :
    Seg (model RP w) (Ar dp un fr gd) (gR L) (gY h₀ L (spans ks)) (spans ks).length s₀ (.func (gB w) (gE w L)) ((model RP w).den (.func (gB w) (gE w L))) [] s := by
  obtain ⟨dp', un', fr', gd', hA, hdp, hun⟩ := over_is0 w dp un fr gd L
  obtain ⟨pos, hB⟩ := gB_is w
  have hx := congrArg (fun l => execs l (gE w L)) hB
  refine seg_func ?_
  rw [hx]
  refine seg_execs_cons (seg_wrap ?_)
  rw [hA]
  refine g_init b tb X T F (allNews_is h₀ L s.heap) (by omega) (by omega) (fun h' tk' ti F' N' => ?_)
  refine seg_execs_cons (seg_While fun p => ?_)
  refine seg_loop (tb := tb) hb hsz hk X T hd hu (spans ks) (fun s₀ s' hs' => ?_) (ks.length + 1) 0 [] s₀ _ ti m (Int.le_refl _) (by omega) rfl (fr_ext F' fun y => ?_) (hs.trans ⟨kept_of F F' N' fun _ h => h, h', tk', rfl⟩)
  · exact seg_end (.ok (.ret .none)) ⟨rfl, rfl, hs'⟩
  · by_cases h1 : y = Str.ofString "script"
    · subst h1; rfl
    by_cases h2 : y = Str.ofString "start"
    · subst h2; rfl
    simp only [h1, h2, if_false]
end
section
variable {prog : Program} {w : World} {A : Around} {E : Value → Shared → Prop} {s : Shared}
theorem next_gen {a : Addr} {g n : Nat} {gs : GenState} {P : Nat → Shared → Shared → Prop} {Y : Protocol} {Q : Option Value → Shared → Prop} (hh : A.handled = none) (hl : s.heap.NoLimit) (hroom : A.depth < recursionLimit)
    (hg : s.heap.IsGen a g) (hgs : s.gens[g]? = some gs)
    (hgo : gs.Goes (model prog w) A.in1 (fun n s₀ r s₁ => r = .ok (.ret .none) ∧ P n s₀ s₁) Y n (.send .none) (s.setGen g .running))
    (hY : ∀ v s₁ gs', gs'.bare = true → Y (n - 1) (s.setGen g .running) v s₁ (fun r' s'' => match n with
        | 0 => False
        | m + 1 => gs'.Goes (model prog w) A.in1 (fun n s₀ r s₁ => r = .ok (.ret .none) ∧ P n s₀ s₁) Y m r' s'') → Q (some v) (s₁.setGen g gs'))
    (hP : ∀ s₁, P n (s.setGen g .running) s₁ → ∀ h', (∀ b o, s₁.heap.get? b = some o → h'.get? b = some o) → Q none { s₁.setGen g .finished with heap := h' }) :
    wpAny (model prog w) A (pyNext (.ref a)) Q E s := by
  unfold pyNext
  refine wpAny_bind (wpAny_attempt (wpAny_callSpecial?_slot (name := Str.ofString "__next__") hg.typeIs slot_gen_next (wpAny_call_entry slot_gen_next hg.typeIs entry_gen_next ?_ (args_gen_next _))))
  show wpAny _ A.in1 (Builtin.Generator.genWake (.ref a) (.send .none)) _ _ s
  unfold Builtin.Generator.genWake
  refine wpAny_bind (wpAny_holding (wpAny_genNumber hg (wpAny_bind (wpAny_genState hgs ?_))))
  cases gs with
  | running => exact hgo.elim
  | finished => exact hgo.elim
  | _ =>
    refine wpAny_bind (wpAny_roomToWake hl hroom ?_)
    show wpAny _ A.in1 (.resume g (.send .none) [] _) _ _ s
    refine wpAny_resumeQ hgs hgo (fun x s₁ hx => ?_) (fun v s₁ gs' hb hv => ?_)
    · obtain ⟨rfl, hp⟩ := hx
      show wpAny _ A.in1 (newExc (.type "StopIteration") [] >>= _) _ _ _
      refine wpAny_bind ?_
      simp only [newExc, newTuple]
      refine wpAny_bind (wpAny_newObj_type ?_ (by size_fits))
      refine wpAny_bind (m := firstArgMember _ _) (wpAny_of_eq (a := Value.none) (by first | rfl | (simp only [firstArgMember]; rfl)) ?_)
      refine wpAny_newObj_type ?_ (by size_fits)
      simp only [raiseNew]
      refine wpAny_bind (wpAny_bind (wpAny_handled ?_))
      rw [show A.in1.handled = none from hh]
      refine wpAny_throw ?_
      refine wpAny_bind (wpAny_isInstance (T := "StopIteration") (b := true) ⟨_, Heap.get?_push_size _ rfl, rfl⟩ isSubtype_stop ?_)
      exact wpAny_pure (hP s₁ hp _ fun b o hb => Heap.get?_push_of_some _ (Heap.get?_push_of_some _ hb))
    · exact wpAny_pure ⟨v, rfl, wpAny_pure (hY v s₁ gs' hb hv)⟩
end
theorem bare_set {s : Shared} {g : Nat} {x : GenState} (hx : x.bare = true) (h : AllBare s.gens) : AllBare (s.setGen g x).gens := fun y hy => by
  have : y ∈ s.gens.setIfInBounds g x := hy
  rcases Array.mem_or_eq_of_mem_setIfInBounds this with h' | rfl
  · exact h y h'
  · exact hx
/-- the generator at its j-th turn -/
def GenIs (w : World) (A : Around) (h₀ : Heap) (L ga gi : Nat) (sp : List (Int × Int × Int)) (j : Nat) (s : Shared) : Prop :=
  s.heap.IsGen ga gi ∧ h₀.get? L = none ∧ (∃ oL, s.heap.get? L = some oL) ∧ ∃ gs, s.gens[gi]? = some gs ∧ ∀ s'' : Shared, (∀ o, s.heap.get? L = some o → s''.heap.get? L = some o) → Ext h₀ s''.heap →
    gs.Goes (model RP w) A.in1 (gR L) (gY h₀ L sp) (sp.length - j) (.send .none) s''
theorem GenIs.keeps {w : World} {A : Around} {h₀ : Heap} {L ga gi : Nat} {sp : List (Int × Int × Int)} {j : Nat} {s s' : Shared} (x : GenIs w A h₀ L ga gi sp j s) (h1 : ∀ o, s.heap.get? ga = some o → s'.heap.get? ga = some o)
    (h2 : ∀ o, s.heap.get? L = some o → s'.heap.get? L = some o) (h3 : s'.gens = s.gens) : GenIs w A h₀ L ga gi sp j s' := by
  obtain ⟨⟨o, nm, qn, ho, r⟩, hf, ⟨oL, hL⟩, gs, hgs, hgo⟩ := x
  exact ⟨⟨o, nm, qn, h1 _ ho, r⟩, hf, ⟨oL, h2 _ hL⟩, gs, by rw [h3]; exact hgs, fun s'' a b => hgo s'' (fun o e => a o (by rw [hL] at e; cases e; exact h2 _ hL)) b⟩
section
variable {w : World} {A : Around} {E : Value → Shared → Prop} {s : Shared} {h₀ : Heap} {L ga gi : Nat} {sp : List (Int × Int × Int)} {j : Nat}
theorem gen_next {Q : Option Value → Shared → Prop} (hh : A.handled = none) (hl : s.heap.NoLimit) (hroom : A.depth < recursionLimit) (x : GenIs w A h₀ L ga gi sp j s) (hj : j ≤ sp.length) (hga : ga ≠ L) (hE : Ext h₀ s.heap)
    (some_ : ∀ op st stop, sp[j]? = some (op, st, stop) → ∀ D h' tk' g' t1 t2 t3, (∀ z o, z ≠ L → s.heap.get? z = some o → h'.get? z = some o) → h'.get? D = some (tupO [.int op t1, .int st t2, .int stop t3]) → D ≠ L → s.heap.get? D = none →
      (AllBare s.gens → AllBare g') → GenIs w A h₀ L ga gi sp (j + 1) { s with heap := h', toks := tk', gens := g' } → Q (some (.ref D)) { s with heap := h', toks := tk', gens := g' })
    (none_ : sp.length = j → ∀ h' tk' g', (∀ z o, z ≠ L → s.heap.get? z = some o → h'.get? z = some o) → (AllBare s.gens → AllBare g') → Q none { s with heap := h', toks := tk', gens := g' }) :
    wpAny (model RP w) A (pyNext (.ref ga)) Q E s := by
  obtain ⟨hg, hf, ⟨oL, hL⟩, gs, hgs, hgo⟩ := id x
  have hgi : gi < s.gens.size := by
    rcases Nat.lt_or_ge gi s.gens.size with h' | h'
    · exact h'
    · rw [Array.getElem?_eq_none h'] at hgs; cases hgs
  refine next_gen (P := fun n s₀ s₁ => n = 0 ∧ Since L s₀ s₁) hh hl hroom hg hgs (hgo _ (fun _ e => e) hE) (fun v s₁ gs' hbare hv => ?_) (fun s₁ hp h' hk' => ?_)
  · obtain ⟨D, op, st, stop, t1, t2, t3, rfl, hidx, hD, hDL, hDf, ⟨hk, h₁, tk₁, rfl⟩, hL', hkap⟩ := hv
    have hlt : sp.length - 1 - (sp.length - j - 1) < sp.length := by
      rcases Nat.lt_or_ge (sp.length - 1 - (sp.length - j - 1)) sp.length with h' | h'
      · exact h'
      · rw [List.getElem?_eq_none h'] at hidx; cases hidx
    obtain ⟨m, hm⟩ : ∃ m, sp.length - j = m + 1 := by
      cases hq : sp.length - j with
      | succ m => exact ⟨m, rfl⟩
      | zero =>
        rw [hq] at hkap
        exact False.elim (hkap { s with heap := h₁, toks := tk₁ } (fun _ e => e) fun b o e => hk b o (fun h => by rw [h, hf] at e; cases e) (hE _ _ e))
    rw [hm] at hkap hidx
    have e1 : sp.length - 1 - (m + 1 - 1) = j := by omega
    rw [e1] at hidx
    refine some_ op st stop hidx D h₁ tk₁ _ t1 t2 t3 hk hD hDL hDf (fun hb => bare_set (s := s.setGen gi .running) hbare (bare_set rfl hb)) ⟨?_, hf, hL', gs', ?_, ?_⟩
    · obtain ⟨o, nm, qn, ho, r⟩ := hg
      exact ⟨o, nm, qn, hk _ _ hga ho, r⟩
    · exact setGen_self (gs := .running) (setGen_self hgs)
    · intro s'' a b'
      have e2 : sp.length - (j + 1) = m := by omega
      rw [e2]
      exact hkap s'' a b'
  · obtain ⟨hn, hk, h₁, tk₁, rfl⟩ := hp
    exact none_ (by omega) h' tk₁ _ (fun z o hz e => hk' _ _ (hk _ _ hz e)) (fun hb => bare_set (s := s.setGen gi .running) rfl (bare_set rfl hb))
end
end Mine
namespace Mine
theorem k35 {w : World} {h : Heap} (X : (KH w.params).In h) : h.get? 35 = some (top.o_28 w.params) := X _ _ (by rfl)
theorem code35 {w : World} {h : Heap} (X : (KH w.params).In h) : h.CodeRec (.ref 34) (Str.ofString "op_code_spans") := codeRec_of X (by rfl)
section
variable {w : World} {mg mb : Str → Option Value} {h₀ : Heap} {dp un : Nat} {fr : Option (List Env)} {gd : Option (List Code)} {s : Shared} {Q E : Value → Shared → Prop}
theorem gen_call {b : Array UInt8} {ks : List Int} (hb : KBw.bInts b = ks) {tb : Tok} (hsz : ks.length ≤ 4096) (X : (KH w.params).In h₀) (T : TopRead q lw mg mb h₀) (hE : Ext h₀ s.heap) (hS : h₀.objs.size ≤ s.heap.objs.size)
    (hd : dp + 61 < recursionLimit) (hu : un + 402 < cLine)
    (hret : ∀ L ga gi h' tk' g', Ext s.heap h' → s.heap.get? L = none → s.heap.get? ga = none → ga ≠ L → (AllBare s.gens → AllBare g') → h₀.objs.size ≤ L →
      GenIs w (Ar dp un fr gd) h₀ L ga gi (spans ks) 0 { s with heap := h', toks := tk', gens := g' } → Q (.ref ga) { s with heap := h', toks := tk', gens := g' }) :
    wpAny (model RP w) (Ar dp un fr gd) (call (.ref 35) [.bytes b tb]) Q E s := by
  have hk : ∀ x ∈ ks, 0 ≤ x := fun x hx => by subst hb; exact (KBw.ints_in hx).1
  have Xs := X.keeps hE
  refine wpAny_call (codeAny_call_generator (fd := fdOf (top.o_28 w.params)) (body := gB w) (by show dp < recursionLimit; omega) (k35 Xs) rfl rfl rfl rfl (code35 Xs) ?_)
  refine wpAny_of_eq (a := [(Str.ofString "script", Value.bytes b tb)]) rfl ?_
  refine wpAny_newFunctionEnv (by dsimp only [fdOf, top.o_28]; decide) (fun x hx => by obtain rfl := List.mem_singleton.mp hx; rfl) (fun h₁ hn hs => ⟨?_, ?_⟩) rfl
  · exact (T.nolimit.keeps hE).fresh _ hs
  · have hL : s.heap.get? s.heap.objs.size = none := by
      cases q : s.heap.get? s.heap.objs.size with
      | none => rfl
      | some o => exact absurd (Heap.lt_size q) (Nat.lt_irrefl _)
    have hk₁ : Ext s.heap h₁ := fun b o e => hs.extBut b o (Nat.ne_of_lt (Heap.lt_size e)) (Heap.get?_push_of_some _ e)
    have hlt : s.heap.objs.size < h₁.objs.size := hn.lt
    have hfr : s.heap.get? h₁.objs.size = none := by
      cases q : s.heap.get? h₁.objs.size with
      | none => rfl
      | some o => exact absurd (Heap.lt_size q) (Nat.lt_asymm hlt)
    refine hret s.heap.objs.size h₁.objs.size s.gens.size _ _ _ (fun b o e => Heap.get?_push_of_some _ (hk₁ b o e)) hL hfr (Nat.ne_of_gt hlt) (fun hb' => ?_) hS ⟨⟨_, _, _, Heap.get?_push_size _ rfl, rfl, rfl, rfl⟩, ?_, ?_, ⟨_, Array.getElem?_push_size .., fun s'' a e => ⟨rfl, ?_⟩⟩⟩
    · intro y hy
      rcases Array.mem_push.mp hy with h' | rfl
      · exact hb' y h'
      · rfl
    · cases q : h₀.get? s.heap.objs.size with
      | none => rfl
      | some o => exact absurd (Heap.lt_size (hE _ _ q)) (Nat.lt_irrefl _)
    · obtain ⟨oL, _, _, e, _⟩ := hn
      exact ⟨oL, Heap.get?_push_of_some _ e⟩
    · refine seg_start (dp := dp) (un := un + 1) (tb := tb) hb hsz hk X T (by omega) (by omega) (m := fun _ => none) (fr_ext ⟨hn.at' fun o q => a o (Heap.get?_push_of_some _ q), e, hS⟩ fun y => ?_) (Since.refl _ _)
      show List.lookup y [(Str.ofString "script", Value.bytes b tb)] = _
      rw [List.lookup_cons]
      by_cases h1 : y = Str.ofString "script"
      · subst h1; rfl
      · have : (y == Str.ofString "script") = false := by simp [h1]
        rw [this, if_neg h1]; rfl
end
end Mine
namespace Mine
theorem let_gen {M : Model} {A : Around} {E : Value → Shared → Prop} {s : Shared} {target : Expr} {ga gi : Nat} {v : Value} {Q : Unit → Shared → Prop} (hg : s.heap.IsGen ga gi) (hQ : Q () s) : wpAny M A (letOwnedTupleGo target (.ref ga) v) Q E s := by
  obtain ⟨o, nm, qn, ho, hc, hd, _⟩ := hg
  unfold letOwnedTupleGo
  split
  all_goals first
    | exact wpAny_pure hQ
    | (cases v <;> first | exact wpAny_pure hQ | (refine wpAny_bind (wpAny_load ho ?_); rw [hc, hd]; exact wpAny_pure hQ))
def GPost (h₀ : Heap) (L : Addr) (J : (Str → Option Value) → Prop) (news : List (Addr × Obj)) (s : Shared) (Q : Flow → Shared → Prop) (f : Flow) (s₃ : Shared) : Prop := match f with
  | .ret v => Q (.ret v) s₃
  | .brk => Q .next s₃
  | _ => ∃ h' tk' m', s₃ = { s with heap := h', toks := tk' } ∧ Fr h₀ L h' m' ∧ News h₀ L h' news ∧ J m'
theorem GPost.intro {h₀ : Heap} {L : Addr} {J : (Str → Option Value) → Prop} {m' : Str → Option Value} {news news' : List (Addr × Obj)} {s : Shared} {Q : Flow → Shared → Prop} {h' : Heap} {tk' : Nat} (F : Fr h₀ L h' m') (N : News h₀ L h' news') (hn : ∀ p ∈ news, p ∈ news') (hj : J m') :
    GPost h₀ L J news s Q .next { s with heap := h', toks := tk' } := ⟨h', tk', m', rfl, F, fun p hp => N p (hn p hp), hj⟩
section
variable {w : World} {mg mb : Str → Option Value} {h₀ : Heap} {dp un : Nat} {fr : Option (List Env)} {gd : Option (List Code)} {s : Shared} {Q : Flow → Shared → Prop} {E : Value → Shared → Prop}
theorem loop_gen {env : Env} {target : Expr} {body : List Stmt} {L ga gi : Nat} {sp : List (Int × Int × Int)} {m₀ : Str → Option Value} {news : List (Addr × Obj)} (J : Nat → (Str → Option Value) → Prop)
    (X : (KH w.params).In h₀) (T : TopRead q lw mg mb h₀) (hd : dp < recursionLimit) (F : Fr h₀ env.locals s.heap m₀) (N : News h₀ env.locals s.heap news) (G : GenIs w (Ar dp un fr gd) h₀ L ga gi sp 0 s)
    (h1 : ga ≠ L) (h2 : ga ≠ env.locals) (h3 : L ≠ env.locals) (h4 : ∀ p ∈ news, p.1 ≠ L) (hj : J 0 m₀)
    (turn : ∀ j op st stop D t1 t2 t3 m₁ h tk g news₁ E, sp[j]? = some (op, st, stop) → J j m₁ → (AllBare s.gens → AllBare g) → Fr h₀ env.locals h m₁ → News h₀ env.locals h ((D, tupO [.int op t1, .int st t2, .int stop t3]) :: news₁) → (∀ p ∈ news, p ∈ news₁) →
      wpAny (model RP w) (Ar dp un fr gd) (assign target env (.ref D)) (fun _ s₂ => wpAny (model RP w) (Ar dp un fr gd) (execs body env) (GPost h₀ env.locals (J (j + 1)) news₁ { s with heap := h, toks := tk, gens := g } Q) E s₂) E { s with heap := h, toks := tk, gens := g })
    (done : ∀ m₁ h tk g, J sp.length m₁ → (AllBare s.gens → AllBare g) → Fr h₀ env.locals h m₁ → News h₀ env.locals h news → Q .next { s with heap := h, toks := tk, gens := g }) :
    codeAny (model RP w) (Ar dp un fr gd) (.forLoop target (.ref ga) body [] env) (fun r s' => match r with | .ok f => Q f s' | .error e => cameBackBy (model RP w) (Ar dp un fr gd) env E e s') s := by
  let I : Nat → Shared → Prop := fun n s' => ∃ j m₁ h tk g, n + j = sp.length ∧ s' = { s with heap := h, toks := tk, gens := g } ∧ Fr h₀ env.locals h m₁ ∧ (∀ x o, x ≠ env.locals → x ≠ L → s.heap.get? x = some o → h.get? x = some o) ∧
    (AllBare s.gens → AllBare g) ∧ GenIs w (Ar dp un fr gd) h₀ L ga gi sp j s' ∧ J j m₁
  refine codeAny_forLoop_any I (fun n s' hI => ?_) sp.length ⟨0, m₀, s.heap, s.toks, s.gens, rfl, rfl, F, fun _ _ _ _ e => e, fun h => h, G, hj⟩
  obtain ⟨j, m₁, h, tk, g, hn, rfl, F₁, hk₁, hb₁, G₁, hj₁⟩ := hI
  refine gen_next rfl (T.nolimit.keeps F₁.keep) (by show dp < recursionLimit; exact hd) G₁ (by omega) h1 F₁.keep (fun op st stop hidx D h' tk' g' t1 t2 t3 hk' hD hDL hDf hb' G' => ?_) (fun hlen h' tk' g' hk' hb' => ?_)
  · have F₂ : Fr h₀ env.locals h' m₁ := ⟨F₁.ns.at' fun o e => hk' _ _ (Ne.symm h3) e, fun b o e => hk' b o (fun q => by
      subst q
      have := G₁.2.1
      rw [e] at this; cases this) (F₁.keep _ _ e), F₁.above⟩
    have N₂ : News h₀ env.locals h' ((D, tupO [.int op t1, .int st t2, .int stop t3]) :: allNews h₀ env.locals h') := fun p hp => by
      rcases List.mem_cons.mp hp with rfl | hp
      · refine ⟨hD, fun e => ?_, ?_⟩
        · obtain ⟨oL, _, _, hL, _⟩ := F₁.ns
          rw [← e] at hL
          exact absurd (hL.symm.trans hDf) (by simp)
        · cases q : h₀.get? D with
          | none => rfl
          | some x => exact absurd ((F₁.keep _ _ q).symm.trans hDf) (by simp)
      · exact allNews_is h₀ env.locals h' p hp
    refine let_gen G'.1 (wpAny_mono (turn j op st stop D t1 t2 t3 m₁ h' tk' g' _ _ hidx hj₁ (fun hb => hb' (hb₁ hb)) F₂ N₂ (fun p hp => mem_allNews (N p hp).2.1 (hk' _ _ (h4 p hp) (hk₁ _ _ (N p hp).2.1 (h4 p hp) (N p hp).1)) (N p hp).2.2)) (fun _ s₂ z => wpAny_mono z (fun f s₃ y => ?_) fun _ _ e => e) fun _ _ e => e)
    have fin : (∃ h'' tk'' m', s₃ = { ({ s with heap := h', toks := tk', gens := g' } : Shared) with heap := h'', toks := tk'' } ∧ Fr h₀ env.locals h'' m' ∧ News h₀ env.locals h'' (allNews h₀ env.locals h') ∧ J (j + 1) m') → ∃ m, m < n ∧ I m s₃ := by
      rintro ⟨h'', tk'', m', rfl, F₃, N₃, hj₃⟩
      have hk₃ := kept_of F₂ F₃ N₃ fun _ h => h
      have hlt : j < sp.length := by
        rcases Nat.lt_or_ge j sp.length with q | q
        · exact q
        · rw [List.getElem?_eq_none q] at hidx; cases hidx
      exact ⟨n - 1, by omega, j + 1, m', h'', tk'', g', by omega, rfl, F₃, fun x o hx hxL e => hk₃ _ _ hx (hk' _ _ hxL (hk₁ _ _ hx hxL e)), fun hb => hb' (hb₁ hb), G'.keeps (hk₃ _ · h2 ·) (hk₃ _ · h3 ·) rfl, hj₃⟩
    cases f with
    | ret v => exact y
    | brk => exact y
    | next => exact fin y
    | cont => exact fin y
  · have F₂ : Fr h₀ env.locals h' m₁ := ⟨F₁.ns.at' fun o e => hk' _ _ (Ne.symm h3) e, fun b o e => hk' b o (fun q => by
      subst q
      have := G₁.2.1
      rw [e] at this; cases this) (F₁.keep _ _ e), F₁.above⟩
    refine wpAny_pure ?_
    subst hlen
    exact done m₁ h' tk' g' hj₁ (fun hb => hb' (hb₁ hb)) F₂ fun p hp => ⟨hk' _ _ (h4 p hp) (hk₁ _ _ (N p hp).2.1 (h4 p hp) (N p hp).1), (N p hp).2⟩
end
end Mine
namespace Mine
local macro_rules | `(tactic| k_room) => `(tactic| ((try simp only [depth_under_make, depth_under_kw, depth_in1, depth_deeper, depth_caller]); (try dsimp only [Ar]); omega))
local macro_rules | `(tactic| k_units) => `(tactic| ((try simp only [units_in1, units_deeper, Around.mark_units, units_caller]); (try dsimp only [Ar]); omega))
local macro_rules | `(tactic| cell_enter) => `(tactic| (refine' enterK ?k1 ?k2 ?k6 ?k7 ?k8 ?k9 ?kB ?_ ?c2 ?c3 ?c4 ?c5; (case k1 => assumption); (case k2 => exact TopRead.nolimit (by assumption)); (case k6 => k_is); (case k7 => k_is); (case k8 => k_room); (case k9 => first | exact BindsTo.of_eq rfl | exact binds_K (by assumption) rfl (by k_is) rfl rfl rfl | fail "k_enter: no rule for these arguments"); (case c5 => decide); (case kB => exact locs rfl); (case c2 => exact rfl); (case c3 => exact rfl); (case c4 => exact rfl); k_whole; intro L' h' F' N' kSz; (try dsimp only); (try k_fold)))
local macro_rules | `(tactic| walk_at "call type:bytes") => `(tactic| (k_here; (with_reducible show wpAny _ _ (call (Value.type _) [Value.bytes _ _]) _ _ _); (with_unfolding_all refine call_bytes_bytes ?_)))

theorem set_of {w : World} {h : Heap} {a : Addr} {x y : Int} {t u : Tok} {n : Nat} {tb : SetTable} (e : h.get? a = some ⟨.type "set", none, .set #[(x, .int x t), (y, .int y u)] n tb, #[]⟩) (hx : hashInt x = x) (hy : hashInt y = y) (hf : tb.fits 2 = true) :
    h.SetOf (intKind RP w) a (fun k => k == x || k == y) 2 := by
  refine ⟨_, _, _, _, e, ⟨rfl, rfl, rfl⟩, rfl, ?_, ?_, (by show 2 < scanBound; decide), hf, rfl⟩
  · intro p hp
    simp only [List.mem_cons, List.not_mem_nil, or_false] at hp
    rcases hp with rfl | rfl
    · exact ⟨⟨x, by simp [intKind, Value.isInt], hx.symm⟩, rfl⟩
    · exact ⟨⟨y, by simp [intKind, Value.isInt], hy.symm⟩, rfl⟩
  · intro k
    simp only [intKind, Value.isInt, Bool.or_eq_true, beq_iff_eq, List.mem_cons, List.not_mem_nil, or_false, exists_eq_or_imp, exists_eq_left]
    constructor
    · rintro (h | h)
      · exact .inl h.symm
      · exact .inr h.symm
    · rintro (h | h)
      · exact .inl h.symm
      · exact .inr h.symm
section
variable {w : World} {A : Around} {E : Value → Shared → Prop} {s : Shared}
theorem in_816 {x : Int} {t : Tok} {Q : Value → Shared → Prop} (X : (KH w.params).In s.heap) (h : Q (.bool (x == 172 || x == 173)) { s with toks := s.toks + 1 }) : wpAny (model RP w) A (compareOp .In (.int x t) (.ref 816)) Q E s :=
  wpAny_inSet_of (knd := intKind RP w) (k := x) (intKind_is _ _ _ _) rfl (set_of (X _ _ (by rfl)) (by decide) (by decide) (by rfl)) h
theorem in_817 {x : Int} {t : Tok} {Q : Value → Shared → Prop} (X : (KH w.params).In s.heap) (h : Q (.bool (x == 174 || x == 175)) { s with toks := s.toks + 1 }) : wpAny (model RP w) A (compareOp .In (.int x t) (.ref 817)) Q E s :=
  wpAny_inSet_of (knd := intKind RP w) (k := x) (intKind_is _ _ _ _) rfl (set_of (X _ _ (by rfl)) (by decide) (by decide) (by rfl)) h
end
abbrev forTgt (s : Stmt) : Expr := match s with | .For t _ _ _ _ => t | _ => default
abbrev forIter (s : Stmt) : Expr := match s with | .For _ i _ _ _ => i | _ => default
abbrev forBody (s : Stmt) : List Stmt := match s with | .For _ _ b _ _ => b | _ => default
noncomputable abbrev cB (w : World) : List Stmt := bodyOf (fdOf (t824 w.params))
noncomputable abbrev cE (w : World) (L : Addr) : Env := envOf (Str.ofString "_sig_op_count") (fdOf (t824 w.params)).scope L 824 (.ref 823)
noncomputable abbrev cF (w : World) : Stmt := (cB w).getD 2 (.Pass ⟨0, 0, 0, 0⟩)
def cntStep (acc : Bool) (p : Int × Int) (e : Int × Int × Int) : Int × Int :=
  (if e.1 = 172 ∨ e.1 = 173 then p.1 + 1 else if e.1 = 174 ∨ e.1 = 175 then (if acc = true ∧ 81 ≤ p.2 ∧ p.2 ≤ 96 then p.1 + (p.2 - 81 + 1) else p.1 + 20) else p.1, e.1)
def cnt (acc : Bool) (ks : List Int) : Int := ((spans ks).foldl (cntStep acc) (0, -1)).1
local macro_rules | `(tactic| walk_at "compareOp In int ref") => `(tactic| (k_here; k_dflt (first | refine in_816 (by k_in) ?_ | refine in_817 (by k_in) ?_)))

theorem c_turn {w : World} {mg mb : Str → Option Value} {dp un : Nat} {fr : Option (List Env)} {gd : Option (List Code)} {s : Shared} {E : Value → Shared → Prop}
    {h₀ : Heap} {L : Addr} {m : Str → Option Value} {news : List (Addr × Obj)} {Q : Flow → Shared → Prop} {J : (Str → Option Value) → Prop} {news₁ : List (Addr × Obj)} (acc : Bool) (c l : Int) (tc tl : Tok) (D : Addr) (op st stop : Int) (t1 t2 t3 : Tok)
    (X : (KH w.params).In h₀) (T : TopRead q lw mg mb h₀) (F : Fr h₀ L s.heap (fun y => if y = Str.ofString "accurate" then some (.bool acc) else if y = Str.ofString "count" then some (.int c tc) else if y = Str.ofString "last_op_code" then some (.int l tl) else m y)) (N : News h₀ L s.heap ((D, tupO [.int op t1, .int st t2, .int stop t3]) :: news₁)) (hd : dp + 30 < recursionLimit) (hu : un + 230 < cLine)
    (hJ : ∀ (m' : Str → Option Value) c' l' tc' tl', (c', l') = cntStep acc (c, l) (op, st, stop) → m' (Str.ofString "accurate") = some (.bool acc) → m' (Str.ofString "count") = some (.int c' tc') → m' (Str.ofString "last_op_code") = some (.int l' tl') → J m') :
    wpAny (model PySem.Challenge.rw_ez0016_01.prog w) (Ar dp un fr gd) (assign (forTgt (cF w)) (cE w L) (.ref D)) (fun _ s₂ => wpAny (model PySem.Challenge.rw_ez0016_01.prog w) (Ar dp un fr gd) (execs (forBody (cF w)) (cE w L)) (GPost h₀ L J news₁ s Q) E s₂) E s := by
  revert X; k_fill; intro X
  dsimp only [cF, cB, cE, forTgt, forIter, forBody, bodyOf, fdOf, t824, fnS, nth, pw, PySem.Challenge.pw_ez0016_01, List.getD, List.getElem?_cons_succ, List.getElem?_cons_zero, Option.getD]
  k_steps
  all_goals (with_reducible rename Fr _ _ _ _ => FF)
  all_goals (with_reducible rename News _ _ _ _ => NN)
  all_goals
    refine GPost.intro FF NN (fun p hp => .tail _ hp) (hJ _ _ _ _ _ ?_ rfl rfl rfl)
    clear hJ FF NN X T
    unfold cntStep
    simp only [Bool.or_eq_true, Bool.or_eq_false_iff, beq_iff_eq, beq_eq_false_iff_ne, ne_eq] at *
    simp_all <;> omega
noncomputable abbrev cS (w : World) (i : Nat) : Stmt := (cB w).getD i (.Pass ⟨0, 0, 0, 0⟩)
theorem cB_is (w : World) : ∃ pos, cB w = [cS w 0, cS w 1, .For (forTgt (cF w)) (forIter (cF w)) (forBody (cF w)) [] pos, cS w 3] := ⟨_, rfl⟩

theorem c_init {w : World} {mg mb : Str → Option Value} {dp un : Nat} {fr : Option (List Env)} {gd : Option (List Code)} {s : Shared} {E : Value → Shared → Prop}
    {h₀ : Heap} {L : Addr} {m : Str → Option Value} {news : List (Addr × Obj)} {Q : Flow → Shared → Prop} (b : Array UInt8) (tb : Tok) (acc : Bool)
    (X : (KH w.params).In h₀) (T : TopRead q lw mg mb h₀) (F : Fr h₀ L s.heap (fun y => if y = Str.ofString "script" then some (.bytes b tb) else if y = Str.ofString "accurate" then some (.bool acc) else m y)) (N : News h₀ L s.heap news) (hd : dp + 30 < recursionLimit) (hu : un + 230 < cLine)
    (hret : ∀ h' tk' tc tl, Fr h₀ L h' (fun y => if y = Str.ofString "last_op_code" then some (.int (-1) tl) else if y = Str.ofString "count" then some (.int 0 tc) else (fun y => if y = Str.ofString "script" then some (.bytes b tb) else if y = Str.ofString "accurate" then some (.bool acc) else m y) y) → News h₀ L h' news → Q .next { s with heap := h', toks := tk' }) :
    wpAny (model PySem.Challenge.rw_ez0016_01.prog w) (Ar dp un fr gd) (execs [cS w 0, cS w 1] (cE w L)) Q E s := by
  revert X; k_fill; intro X
  dsimp only [cS, cF, cB, cE, forTgt, forIter, forBody, bodyOf, fdOf, t824, fnS, nth, pw, PySem.Challenge.pw_ez0016_01, List.getD, List.getElem?_cons_succ, List.getElem?_cons_zero, Option.getD]
  k_steps
  all_goals (with_reducible rename Fr _ _ _ _ => FF)
  all_goals (with_reducible rename News _ _ _ _ => NN)
  exact hret _ _ _ _ FF NN

theorem c_ret {w : World} {mg mb : Str → Option Value} {dp un : Nat} {fr : Option (List Env)} {gd : Option (List Code)} {s : Shared} {E : Value → Shared → Prop}
    {h₀ : Heap} {L : Addr} {m : Str → Option Value} {news : List (Addr × Obj)} {Q : Flow → Shared → Prop} (c : Int) (tc : Tok)
    (X : (KH w.params).In h₀) (T : TopRead q lw mg mb h₀) (F : Fr h₀ L s.heap (fun y => if y = Str.ofString "count" then some (.int c tc) else m y)) (N : News h₀ L s.heap news) (hd : dp + 30 < recursionLimit) (hu : un + 230 < cLine)
    (hret : ∀ h' tk', Fr h₀ L h' (fun y => if y = Str.ofString "count" then some (.int c tc) else m y) → Q (.ret (.int c tc)) { s with heap := h', toks := tk' }) :
    wpAny (model PySem.Challenge.rw_ez0016_01.prog w) (Ar dp un fr gd) (exec (cS w 3) (cE w L)) Q E s := by
  revert X; k_fill; intro X
  dsimp only [cS, cF, cB, cE, forTgt, forIter, forBody, bodyOf, fdOf, t824, fnS, nth, pw, PySem.Challenge.pw_ez0016_01, List.getD, List.getElem?_cons_succ, List.getElem?_cons_zero, Option.getD]
  k_steps
  all_goals (with_reducible rename Fr _ _ _ _ => FF)
  all_goals (with_reducible rename News _ _ _ _ => NN)
  exact hret _ _ FF

theorem c_iter {w : World} {mg mb : Str → Option Value} {dp un : Nat} {fr : Option (List Env)} {gd : Option (List Code)} {s : Shared} {E : Value → Shared → Prop}
    {h₀ : Heap} {L : Addr} {m : Str → Option Value} {news : List (Addr × Obj)} {Q : Value → Shared → Prop} (b : Array UInt8) (tb : Tok)
    (X : (KH w.params).In h₀) (T : TopRead q lw mg mb h₀) (F : Fr h₀ L s.heap (fun y => if y = Str.ofString "script" then some (.bytes b tb) else m y)) (N : News h₀ L s.heap news) (hd : dp + 30 < recursionLimit) (hu : un + 230 < cLine)
    (hret : ∀ h' tk', Fr h₀ L h' (fun y => if y = Str.ofString "script" then some (.bytes b tb) else m y) → News h₀ L h' news → wpAny (model PySem.Challenge.rw_ez0016_01.prog w) (Ar dp un fr gd) (call (.ref 35) [.bytes b tb]) Q E { s with heap := h', toks := tk' }) :
    wpAny (model PySem.Challenge.rw_ez0016_01.prog w) (Ar dp un fr gd) (eval (forIter (cF w)) (cE w L)) Q E s := by
  revert X; k_fill; intro X
  dsimp only [cS, cF, cB, cE, forTgt, forIter, forBody, bodyOf, fdOf, t824, fnS, nth, pw, PySem.Challenge.pw_ez0016_01, List.getD, List.getElem?_cons_succ, List.getElem?_cons_zero, Option.getD]
  k_steps
  all_goals (with_reducible rename Fr _ _ _ _ => FF)
  all_goals (with_reducible rename News _ _ _ _ => NN)
  exact hret _ _ FF NN
end Mine
namespace Mine
theorem execs_app (env : Env) (rest : List Stmt) : ∀ l : List Stmt, execs (l ++ rest) env = execs l env >>= fun f => match f with | .next => execs rest env | f => pure f
  | [] => rfl
  | st :: l => by
    rw [List.cons_append, execs_cons, execs_cons, bind_assoc, execs_app env rest l]
    refine congrArg (exec st env >>= ·) (funext fun f => ?_)
    cases f <;> first | rfl | (simp only [pure_bind])
theorem wp_app {M : Model} {A : Around} {E : Value → Shared → Prop} {s : Shared} {env : Env} (l : List Stmt) {rest : List Stmt} {Q : Flow → Shared → Prop}
    (h : wpAny M A (execs l env) (fun f s' => match f with | .next => wpAny M A (execs rest env) Q E s' | f => Q f s') E s) : wpAny M A (execs (l ++ rest) env) Q E s := by
  rw [execs_app]
  refine wpAny_bind (wpAny_mono h (fun f s' z => ?_) fun _ _ z => z)
  cases f <;> first | exact z | exact wpAny_pure z
section
variable {w : World} {mg mb : Str → Option Value} {dp un : Nat} {fr : Option (List Env)} {gd : Option (List Code)} {s : Shared}
theorem cnt_body {h₀ : Heap} {Lc : Addr} {b : Array UInt8} {ks : List Int} (hb : KBw.bInts b = ks) {tb : Tok} (hsz : ks.length ≤ 4096) (acc : Bool) {m : Str → Option Value} {Q : Flow → Shared → Prop} {E : Value → Shared → Prop}
    (X : (KH w.params).In h₀) (T : TopRead q lw mg mb h₀) (hd : dp + 70 < recursionLimit) (hu : un + 450 < cLine) (hS : h₀.objs.size ≤ s.heap.objs.size)
    (F : Fr h₀ Lc s.heap (fun y => if y = Str.ofString "script" then some (.bytes b tb) else if y = Str.ofString "accurate" then some (.bool acc) else m y))
    (hret : ∀ t m' h' tk' g', Fr h₀ Lc h' m' → (AllBare s.gens → AllBare g') → Q (.ret (.int (cnt acc ks) t)) { s with heap := h', toks := tk', gens := g' }) :
    wpAny (model RP w) (Ar dp un fr gd) (execs (cB w) (cE w Lc)) Q E s := by
  obtain ⟨pos, hB⟩ := cB_is w
  rw [hB]
  refine wp_app [cS w 0, cS w 1] (rest := [.For (forTgt (cF w)) (forIter (cF w)) (forBody (cF w)) [] pos, cS w 3]) ?_
  refine c_init b tb acc X T F (news := []) News.nil (by omega) (by omega) (fun h₁ tk₁ tc tl F₁ N₁ => ?_)
  refine wpAny_execs_cons (wpAny_For (c_iter b tb X T (m := fun y => if y = Str.ofString "last_op_code" then some (.int (-1) tl) else if y = Str.ofString "count" then some (.int 0 tc) else if y = Str.ofString "accurate" then some (.bool acc) else m y) (news := []) (fr_ext F₁ fun y => ?_) News.nil (by omega) (by omega) (fun h₂ tk₂ F₂ N₂ => ?_)) (by intro _; rfl))
  · by_cases h1 : y = Str.ofString "script"
    · subst h1; rfl
    · simp only [h1, if_false]
  · have hsz₂ : h₀.objs.size ≤ h₂.objs.size := Nat.le_of_lt (Nat.lt_of_le_of_lt F₂.above F₂.ns.lt)
    refine gen_call hb hsz X T F₂.keep hsz₂ (by omega) (by omega) (fun L ga gi h' tk' g' hE hL hga hne hbare hab G => wpAny_pyIter_gen G.1 ?_)
    have F₃ := Fr.keeps F₂ hE
    have nL : ∀ {x : Addr}, h₂.get? x = none → x ≠ Lc := fun {x} e q => by
      obtain ⟨oL, _, _, hL', _⟩ := F₂.ns
      rw [q] at e
      rw [e] at hL'; cases hL'
    refine loop_gen (news := []) (env := cE w Lc) (fun j m' => ∃ c l tc tl, (c, l) = ((spans ks).take j).foldl (cntStep acc) (0, -1) ∧ m' (Str.ofString "accurate") = some (.bool acc) ∧ m' (Str.ofString "count") = some (.int c tc) ∧ m' (Str.ofString "last_op_code") = some (.int l tl))
      X T (by omega) F₃ News.nil G hne (nL hga) (nL hL) (fun _ hp => nomatch hp) ⟨0, -1, tc, tl, rfl, rfl, rfl, rfl⟩ (fun j op st stop D t1 t2 t3 m₁ h tk g news₁ E' hidx hj hb' F' N' _ => ?_) (fun m₁ h tk g hj hb' F' _ => ?_)
    · obtain ⟨c, l, tc, tl, hcl, a1, a2, a3⟩ := hj
      refine c_turn acc c l tc tl D op st stop t1 t2 t3 X T (m := m₁) (news := []) (fr_ext F' fun y => ?_) N' (by omega) (by omega) (fun m' c' l' tc' tl' e z1 z2 z3 => ⟨c', l', tc', tl', ?_, z1, z2, z3⟩)
      · by_cases h1 : y = Str.ofString "accurate"
        · subst h1; simp [a1]
        by_cases h2 : y = Str.ofString "count"
        · subst h2; simp [a2, h1]
        by_cases h3 : y = Str.ofString "last_op_code"
        · subst h3; simp [a3, h1, h2]
        simp only [h1, h2, h3, if_false]
      · rw [List.take_add_one, hidx, e, hcl]; simp
    · obtain ⟨c, l, tc, tl, hcl, a1, a2, a3⟩ := hj
      rw [List.take_length] at hcl
      have hc : c = cnt acc ks := by unfold cnt; rw [← hcl]
      subst hc
      refine wpAny_execs_cons (c_ret (cnt acc ks) tc X T (m := m₁) (fr_ext F' (fun y => ?_)) (news := []) News.nil (by omega) (by omega) ?_)
      · by_cases h1 : y = Str.ofString "count"
        · subst h1; simp [a2]
        · simp only [h1, if_false]
      · exact fun h'' tk'' F'' => hret tc _ h'' tk'' g F'' fun hb => hb' (hbare hb)
/-- calls of _sig_op_count, by place or by keyword -/
theorem cnt_code {b : Array UInt8} {ks : List Int} (hb : KBw.bInts b = ks) {tb : Tok} (hsz : ks.length ≤ 4096) (acc : Bool) {args : Args} {R : Result → Shared → Prop}
    (hbd : BindsTo s (fdOf (t824 w.params)) args [(Str.ofString "script", .bytes b tb), (Str.ofString "accurate", .bool acc)])
    (X : (KH w.params).In s.heap) (T : TopRead q lw mg mb s.heap) (hd : dp + 80 < recursionLimit) (hu : un + 460 < cLine)
    (hret : ∀ t h' tk' g', Ext s.heap h' → (AllBare s.gens → AllBare g') → R (.ok (.ret (.int (cnt acc ks) t))) { s with heap := h', toks := tk', gens := g' }) :
    codeAny (model RP w) (Ar dp un fr gd) (.call (.ref 824) args) R s := by
  refine enterK (K := KH w.params) (f := 824) X T.nolimit (by rfl) (by rfl) (by show dp < recursionLimit; omega) hbd (fun x hx => ?_) (fun L' h₁ F N hL => ?_) (by rfl) (by rfl) (by rfl) ?_
  · simp only [List.mem_cons, List.not_mem_nil, or_false] at hx
    rcases hx with rfl | rfl <;> rfl
  · refine cnt_body (dp := dp + 1) (un := un + 3) (fr := fr.map (cE w L' :: ·)) (h₀ := s.heap) (Lc := L') hb (tb := tb) hsz acc X T (by omega) (by omega) ?_ (m := fun _ => none) (fr_ext F fun y => ?_) (fun t m' h' tk' g' F' hb' => hret t h' tk' g' F'.keep hb')
    · exact Nat.le_of_lt (Nat.lt_of_le_of_lt F.above F.ns.lt)
    · show List.lookup y [(Str.ofString "accurate", Value.bool acc), (Str.ofString "script", Value.bytes b tb)] = _
      by_cases h1 : y = Str.ofString "script"
      · subst h1; rfl
      by_cases h2 : y = Str.ofString "accurate"
      · subst h2; rfl
      have e1 : (y == Str.ofString "script") = false := by simp [h1]
      have e2 : (y == Str.ofString "accurate") = false := by simp [h2]
      rw [List.lookup_cons, List.lookup_cons, e1, e2, if_neg h1, if_neg h2]; rfl
  · intro x hx
    revert x
    dsimp only [fdOf, t824, fnS, nth, pw, PySem.Challenge.pw_ez0016_01]
    decide
end
end Mine
namespace Mine
local macro_rules | `(tactic| k_room) => `(tactic| ((try simp only [depth_under_make, depth_under_kw, depth_in1, depth_deeper, depth_caller]); (try dsimp only [Ar]); omega))
local macro_rules | `(tactic| k_units) => `(tactic| ((try simp only [units_in1, units_deeper, Around.mark_units, units_caller]); (try dsimp only [Ar]); omega))
local macro_rules | `(tactic| cell_enter) => `(tactic| (refine' enterK ?k1 ?k2 ?k6 ?k7 ?k8 ?k9 ?kB ?_ ?c2 ?c3 ?c4 ?c5; (case k1 => assumption); (case k2 => exact TopRead.nolimit (by assumption)); (case k6 => k_is); (case k7 => k_is); (case k8 => k_room); (case k9 => first | exact BindsTo.of_eq rfl | exact binds_K (by assumption) rfl (by k_is) rfl rfl rfl | fail "k_enter: no rule for these arguments"); (case c5 => decide); (case kB => exact locs rfl); (case c2 => exact rfl); (case c3 => exact rfl); (case c4 => exact rfl); k_whole; intro L' h' F' N' kSz; (try dsimp only); (try k_fold)))
local macro_rules | `(tactic| walk_at "call type:bytes") => `(tactic| (k_here; (with_reducible show wpAny _ _ (call (Value.type _) [Value.bytes _ _]) _ _ _); (with_unfolding_all refine call_bytes_bytes ?_)))

def hdr (op : Int) : Int := if 76 ≤ op ∧ op ≤ 78 then 1 + 1 * 2 ^ (op - 76).toNat else 1
def cut (ks : List Int) (a z : Int) : List Int := List.take (clipAt ks.length z - clipAt ks.length a) (List.drop (clipAt ks.length a) ks)

noncomputable abbrev lB (w : World) : List Stmt := bodyOf (fdOf (t839 w.params))
noncomputable abbrev lE (w : World) (L : Addr) : Env := envOf (Str.ofString "_last_push") (fdOf (t839 w.params)).scope L 839 (.ref 838)
noncomputable abbrev lS (w : World) (i : Nat) : Stmt := (lB w).getD i (.Pass ⟨0, 0, 0, 0⟩)
theorem lB_is (w : World) : ∃ pos, lB w = [lS w 0, lS w 1, .For (forTgt (lS w 2)) (forIter (lS w 2)) (forBody (lS w 2)) [] pos, lS w 3] := ⟨_, rfl⟩

theorem l_init {w : World} {mg mb : Str → Option Value} {dp un : Nat} {fr : Option (List Env)} {gd : Option (List Code)} {s : Shared} {E : Value → Shared → Prop}
    {h₀ : Heap} {L : Addr} {m : Str → Option Value} {news : List (Addr × Obj)} {Q : Flow → Shared → Prop} (b : Array UInt8) (tb : Tok)
    (X : (KH w.params).In h₀) (T : TopRead q lw mg mb h₀) (F : Fr h₀ L s.heap (fun y => if y = Str.ofString "script_sig" then some (.bytes b tb) else m y)) (N : News h₀ L s.heap news) (hd : dp + 30 < recursionLimit) (hu : un + 230 < cLine)
    (hret : ∀ h' tk' td te, Fr h₀ L h' (fun y => if y = Str.ofString "end" then some (.int 0 te) else if y = Str.ofString "data" then some (.bytes #[] td) else if y = Str.ofString "script_sig" then some (.bytes b tb) else m y) → News h₀ L h' news → Q .next { s with heap := h', toks := tk' }) :
    wpAny (model PySem.Challenge.rw_ez0016_01.prog w) (Ar dp un fr gd) (execs [lS w 0, lS w 1] (lE w L)) Q E s := by
  revert X; k_fill; intro X
  dsimp only [lS, lB, forTgt, forIter, forBody, bodyOf, fdOf, t839, fnS, nth, pw, PySem.Challenge.pw_ez0016_01, List.getD, List.getElem?_cons_succ, List.getElem?_cons_zero, Option.getD]
  k_steps
  all_goals (try (with_reducible rename Fr _ _ _ _ => FF))
  all_goals (try (with_reducible rename News _ _ _ _ => NN))
  exact hret _ _ _ _ FF NN

theorem l_iter {w : World} {mg mb : Str → Option Value} {dp un : Nat} {fr : Option (List Env)} {gd : Option (List Code)} {s : Shared} {E : Value → Shared → Prop}
    {h₀ : Heap} {L : Addr} {m : Str → Option Value} {news : List (Addr × Obj)} {Q : Value → Shared → Prop} (b : Array UInt8) (tb : Tok)
    (X : (KH w.params).In h₀) (T : TopRead q lw mg mb h₀) (F : Fr h₀ L s.heap (fun y => if y = Str.ofString "script_sig" then some (.bytes b tb) else m y)) (N : News h₀ L s.heap news) (hd : dp + 30 < recursionLimit) (hu : un + 230 < cLine)
    (hret : ∀ h' tk', Fr h₀ L h' (fun y => if y = Str.ofString "script_sig" then some (.bytes b tb) else m y) → News h₀ L h' news → wpAny (model PySem.Challenge.rw_ez0016_01.prog w) (Ar dp un fr gd) (call (.ref 35) [.bytes b tb]) Q E { s with heap := h', toks := tk' }) :
    wpAny (model PySem.Challenge.rw_ez0016_01.prog w) (Ar dp un fr gd) (eval (forIter (lS w 2)) (lE w L)) Q E s := by
  revert X; k_fill; intro X
  dsimp only [lS, lB, forTgt, forIter, forBody, bodyOf, fdOf, t839, fnS, nth, pw, PySem.Challenge.pw_ez0016_01, List.getD, List.getElem?_cons_succ, List.getElem?_cons_zero, Option.getD]
  k_steps
  all_goals (try (with_reducible rename Fr _ _ _ _ => FF))
  all_goals (try (with_reducible rename News _ _ _ _ => NN))
  exact hret _ _ FF NN

theorem l_turn {w : World} {mg mb : Str → Option Value} {dp un : Nat} {fr : Option (List Env)} {gd : Option (List Code)} {s : Shared} {E : Value → Shared → Prop}
    {h₀ : Heap} {L : Addr} {m : Str → Option Value} {news : List (Addr × Obj)} {Q : Flow → Shared → Prop} (b : Array UInt8) (ks : List Int) (hb : KBw.bInts b = ks) (hsz : ks.length ≤ 4096) (tb : Tok) {J : (Str → Option Value) → Prop} {news₁ : List (Addr × Obj)} (d : Array UInt8) (e : Int) (td te : Tok) (D : Addr) (op st stop : Int) (t1 t2 t3 : Tok)
    (X : (KH w.params).In h₀) (T : TopRead q lw mg mb h₀) (F : Fr h₀ L s.heap (fun y => if y = Str.ofString "script_sig" then some (.bytes b tb) else if y = Str.ofString "data" then some (.bytes d td) else if y = Str.ofString "end" then some (.int e te) else m y)) (N : News h₀ L s.heap ((D, tupO [.int op t1, .int st t2, .int stop t3]) :: news₁)) (hd : dp + 30 < recursionLimit) (hu : un + 230 < cLine)
    (hJ : ∀ (m' : Str → Option Value) d' td' te', KBw.bInts d' = cut ks (st + hdr op) stop → ¬ 96 < op → m' (Str.ofString "script_sig") = some (.bytes b tb) → m' (Str.ofString "data") = some (.bytes d' td') → m' (Str.ofString "end") = some (.int stop te') → J m')
    (hno : 96 < op → ∀ h' tk' m', Fr h₀ L h' m' → Q (.ret .none) { s with heap := h', toks := tk' }) :
    wpAny (model PySem.Challenge.rw_ez0016_01.prog w) (Ar dp un fr gd) (assign (forTgt (lS w 2)) (lE w L) (.ref D)) (fun _ s₂ => wpAny (model PySem.Challenge.rw_ez0016_01.prog w) (Ar dp un fr gd) (execs (forBody (lS w 2)) (lE w L)) (GPost h₀ L J news₁ s Q) E s₂) E s := by
  revert X; k_fill; intro X
  dsimp only [lS, lB, forTgt, forIter, forBody, bodyOf, fdOf, t839, fnS, nth, pw, PySem.Challenge.pw_ez0016_01, List.getD, List.getElem?_cons_succ, List.getElem?_cons_zero, Option.getD]
  k_steps
  all_goals (try (with_reducible rename Fr _ _ _ _ => FF))
  all_goals (try (with_reducible rename News _ _ _ _ => NN))
  all_goals first
    | exact hno (by with_reducible assumption) _ _ _ FF
    | (refine GPost.intro FF NN (fun p hp => .tail _ hp) (hJ _ _ _ _ ?_ (by with_reducible assumption) rfl rfl rfl); unfold cut hdr; first | (rw [if_pos (by omega)]; with_reducible assumption) | (rw [if_neg (by omega)]; with_reducible assumption))

theorem l_ret {w : World} {mg mb : Str → Option Value} {dp un : Nat} {fr : Option (List Env)} {gd : Option (List Code)} {s : Shared} {E : Value → Shared → Prop}
    {h₀ : Heap} {L : Addr} {m : Str → Option Value} {news : List (Addr × Obj)} {Q : Flow → Shared → Prop} (b : Array UInt8) (ks : List Int) (hb : KBw.bInts b = ks) (hsz : ks.length ≤ 4096) (tb : Tok) (d : Array UInt8) (e : Int) (td te : Tok)
    (X : (KH w.params).In h₀) (T : TopRead q lw mg mb h₀) (F : Fr h₀ L s.heap (fun y => if y = Str.ofString "script_sig" then some (.bytes b tb) else if y = Str.ofString "data" then some (.bytes d td) else if y = Str.ofString "end" then some (.int e te) else m y)) (N : News h₀ L s.heap news) (hd : dp + 30 < recursionLimit) (hu : un + 230 < cLine)
    (hyes : e = ks.length → ∀ h' tk' m', Fr h₀ L h' m' → Q (.ret (.bytes d td)) { s with heap := h', toks := tk' })
    (hno : e ≠ ks.length → ∀ h' tk' m', Fr h₀ L h' m' → Q (.ret .none) { s with heap := h', toks := tk' }) :
    wpAny (model PySem.Challenge.rw_ez0016_01.prog w) (Ar dp un fr gd) (exec (lS w 3) (lE w L)) Q E s := by
  revert X; k_fill; intro X
  dsimp only [lS, lB, forTgt, forIter, forBody, bodyOf, fdOf, t839, fnS, nth, pw, PySem.Challenge.pw_ez0016_01, List.getD, List.getElem?_cons_succ, List.getElem?_cons_zero, Option.getD]
  k_steps
  all_goals (try (with_reducible rename Fr _ _ _ _ => FF))
  all_goals (try (with_reducible rename News _ _ _ _ => NN))
  all_goals first
    | exact hyes (by with_reducible assumption) _ _ _ FF
    | exact hno (by with_reducible assumption) _ _ _ FF
end Mine
namespace Mine
def lpStep (ks : List Int) (p : List Int × Int) (e : Int × Int × Int) : List Int × Int := (cut ks (e.2.1 + hdr e.1) e.2.2, e.2.2)
def lp (ks : List Int) : Option (List Int) := if (spans ks).any (fun e => decide (96 < e.1)) then none else
  if ((spans ks).foldl (lpStep ks) ([], 0)).2 = ks.length then some ((spans ks).foldl (lpStep ks) ([], 0)).1 else none
theorem cut_len (ks : List Int) (a z : Int) : (cut ks a z).length ≤ ks.length := by
  unfold cut
  rw [List.length_take, List.length_drop]; omega
section
variable {w : World} {mg mb : Str → Option Value} {dp un : Nat} {fr : Option (List Env)} {gd : Option (List Code)} {s : Shared}
theorem lp_body {h₀ : Heap} {Lc : Addr} {b : Array UInt8} {ks : List Int} (hb : KBw.bInts b = ks) {tb : Tok} (hsz : ks.length ≤ 4096) {m : Str → Option Value} {Q : Flow → Shared → Prop} {E : Value → Shared → Prop}
    (X : (KH w.params).In h₀) (T : TopRead q lw mg mb h₀) (hd : dp + 70 < recursionLimit) (hu : un + 450 < cLine) (hS : h₀.objs.size ≤ s.heap.objs.size)
    (F : Fr h₀ Lc s.heap (fun y => if y = Str.ofString "script_sig" then some (.bytes b tb) else m y))
    (hnone : lp ks = none → ∀ m' h' tk' g', Fr h₀ Lc h' m' → (AllBare s.gens → AllBare g') → Q (.ret .none) { s with heap := h', toks := tk', gens := g' })
    (hsome : ∀ d t, lp ks = some (KBw.bInts d) → (KBw.bInts d).length ≤ ks.length → ∀ m' h' tk' g', Fr h₀ Lc h' m' → (AllBare s.gens → AllBare g') → Q (.ret (.bytes d t)) { s with heap := h', toks := tk', gens := g' }) :
    wpAny (model RP w) (Ar dp un fr gd) (execs (lB w) (lE w Lc)) Q E s := by
  obtain ⟨pos, hB⟩ := lB_is w
  rw [hB]
  refine wp_app [lS w 0, lS w 1] (rest := [.For (forTgt (lS w 2)) (forIter (lS w 2)) (forBody (lS w 2)) [] pos, lS w 3]) ?_
  refine l_init b tb X T F (news := []) News.nil (by omega) (by omega) (fun h₁ tk₁ tc tl F₁ N₁ => ?_)
  refine wpAny_execs_cons (wpAny_For (l_iter b tb X T (m := fun y => if y = Str.ofString "end" then some (.int 0 tl) else if y = Str.ofString "data" then some (.bytes #[] tc) else m y) (news := []) (fr_ext F₁ fun y => ?_) News.nil (by omega) (by omega) (fun h₂ tk₂ F₂ N₂ => ?_)) (by intro _; rfl))
  · by_cases h1 : y = Str.ofString "script_sig"
    · subst h1; rfl
    · simp only [h1, if_false]
  · have hsz₂ : h₀.objs.size ≤ h₂.objs.size := Nat.le_of_lt (Nat.lt_of_le_of_lt F₂.above F₂.ns.lt)
    refine gen_call hb hsz X T F₂.keep hsz₂ (by omega) (by omega) (fun L ga gi h' tk' g' hE hL hga hne hbare hab G => wpAny_pyIter_gen G.1 ?_)
    have F₃ := Fr.keeps F₂ hE
    have nL : ∀ {x : Addr}, h₂.get? x = none → x ≠ Lc := fun {x} e q => by
      obtain ⟨oL, _, _, hL', _⟩ := F₂.ns
      rw [q] at e
      rw [e] at hL'; cases hL'
    refine loop_gen (news := []) (env := lE w Lc) (fun j m' => ∃ d e td te, (KBw.bInts d, e) = ((spans ks).take j).foldl (lpStep ks) ([], 0) ∧ (KBw.bInts d).length ≤ ks.length ∧ (∀ x ∈ (spans ks).take j, ¬ 96 < x.1) ∧ m' (Str.ofString "script_sig") = some (.bytes b tb) ∧ m' (Str.ofString "data") = some (.bytes d td) ∧ m' (Str.ofString "end") = some (.int e te))
      X T (by omega) F₃ News.nil G hne (nL hga) (nL hL) (fun _ hp => nomatch hp) ⟨#[], 0, tc, tl, rfl, Nat.zero_le _, (fun _ hx => nomatch hx), rfl, rfl, rfl⟩ (fun j op st stop D t1 t2 t3 m₁ h tk g news₁ E' hidx hj hb' F' N' _ => ?_) (fun m₁ h tk g hj hb' F' _ => ?_)
    · obtain ⟨d, e, td, te, hcl, hdl, hall, a1, a2, a3⟩ := hj
      refine l_turn b ks hb hsz tb d e td te D op st stop t1 t2 t3 X T (m := m₁) (news := []) (fr_ext F' fun y => ?_) N' (by omega) (by omega) (fun m' d' td' te' e1 e2 z1 z2 z3 => ⟨d', stop, td', te', ?_, ?_, ?_, z1, z2, z3⟩) (fun hop h'' tk'' m'' F'' => ?_)
      · by_cases h1 : y = Str.ofString "script_sig"
        · subst h1; simp [a1]
        by_cases h2 : y = Str.ofString "data"
        · subst h2; simp [a2, h1]
        by_cases h3 : y = Str.ofString "end"
        · subst h3; simp [a3, h1, h2]
        simp only [h1, h2, h3, if_false]
      · rw [List.take_add_one, hidx, e1, List.foldl_append, ← hcl]; rfl
      · rw [e1]; exact cut_len ..
      · intro x hx
        rw [List.take_add_one, hidx] at hx
        rcases List.mem_append.mp hx with h | h
        · exact hall x h
        · obtain rfl := List.mem_singleton.mp h
          exact e2
      · refine hnone ?_ _ h'' tk'' g F'' fun hb => hb' (hbare hb)
        unfold lp
        rw [if_pos (List.any_eq_true.mpr ⟨_, List.mem_of_getElem? hidx, by simpa using hop⟩)]
    · obtain ⟨d, e, td, te, hcl, hdl, hall, a1, a2, a3⟩ := hj
      rw [List.take_length] at hcl hall
      have hany : (spans ks).any (fun e => decide (96 < e.1)) = false := by
        rw [List.any_eq_false]
        intro x hx; simpa using hall x hx
      refine wpAny_execs_cons (l_ret b ks hb hsz tb d e td te X T (m := m₁) (fr_ext F' fun y => ?_) (news := []) News.nil (by omega) (by omega) ?_ ?_)
      · by_cases h1 : y = Str.ofString "script_sig"
        · subst h1; simp [a1]
        by_cases h2 : y = Str.ofString "data"
        · subst h2; simp [a2, h1]
        by_cases h3 : y = Str.ofString "end"
        · subst h3; simp [a3, h1, h2]
        simp only [h1, h2, h3, if_false]
      · exact fun he h'' tk'' m'' F'' => hsome d td (by unfold lp; rw [hany, ← hcl]; simp [he]) hdl _ h'' tk'' g F'' fun hb => hb' (hbare hb)
      · exact fun he h'' tk'' m'' F'' => hnone (by unfold lp; rw [hany, ← hcl]; simp [he]) _ h'' tk'' g F'' fun hb => hb' (hbare hb)
/-- calls of _last_push -/
theorem lp_code {b : Array UInt8} {ks : List Int} (hb : KBw.bInts b = ks) {tb : Tok} (hsz : ks.length ≤ 4096) {args : Args} {R : Result → Shared → Prop}
    (hbd : BindsTo s (fdOf (t839 w.params)) args [(Str.ofString "script_sig", .bytes b tb)])
    (X : (KH w.params).In s.heap) (T : TopRead q lw mg mb s.heap) (hd : dp + 80 < recursionLimit) (hu : un + 460 < cLine)
    (hnone : lp ks = none → ∀ h' tk' g', Ext s.heap h' → (AllBare s.gens → AllBare g') → R (.ok (.ret .none)) { s with heap := h', toks := tk', gens := g' })
    (hsome : ∀ d t, lp ks = some (KBw.bInts d) → (KBw.bInts d).length ≤ ks.length → ∀ h' tk' g', Ext s.heap h' → (AllBare s.gens → AllBare g') → R (.ok (.ret (.bytes d t))) { s with heap := h', toks := tk', gens := g' }) :
    codeAny (model RP w) (Ar dp un fr gd) (.call (.ref 839) args) R s := by
  refine enterK (K := KH w.params) (f := 839) X T.nolimit (by rfl) (by rfl) (by show dp < recursionLimit; omega) hbd (fun x hx => ?_) (fun L' h₁ F N hL => ?_) (by rfl) (by rfl) (by rfl) ?_
  · simp only [List.mem_cons, List.not_mem_nil, or_false] at hx
    rcases hx with rfl
    rfl
  · refine lp_body (dp := dp + 1) (un := un + 3) (fr := fr.map (lE w L' :: ·)) (h₀ := s.heap) (Lc := L') hb (tb := tb) hsz X T (by omega) (by omega) ?_ (m := fun _ => none) (fr_ext F fun y => ?_) (fun e m' h' tk' g' F' hb' => hnone e h' tk' g' F'.keep hb') (fun d t e hl m' h' tk' g' F' hb' => hsome d t e hl h' tk' g' F'.keep hb')
    · exact Nat.le_of_lt (Nat.lt_of_le_of_lt F.above F.ns.lt)
    · show List.lookup y [(Str.ofString "script_sig", Value.bytes b tb)] = _
      rw [List.lookup_cons]
      by_cases h1 : y = Str.ofString "script_sig"
      · subst h1; rfl
      · have : (y == Str.ofString "script_sig") = false := by simp [h1]
        rw [this, if_neg h1]; rfl
  · intro x hx
    revert x
    dsimp only [fdOf, t839, fnS, nth, pw, PySem.Challenge.pw_ez0016_01]
    decide
end
end Mine
namespace Mine
local macro_rules | `(tactic| walk_at "zz") => `(tactic| fail "zz")
local macro_rules | `(tactic| k_room) => `(tactic| ((try simp only [depth_under_make, depth_under_kw, depth_in1, depth_deeper, depth_caller]); (try dsimp only [Ar]); omega))
local macro_rules | `(tactic| k_units) => `(tactic| ((try simp only [units_in1, units_deeper, Around.mark_units, units_caller]); (try dsimp only [Ar]); omega))
local macro_rules | `(tactic| cell_enter) => `(tactic| (refine' enterK ?k1 ?k2 ?k6 ?k7 ?k8 ?k9 ?kB ?_ ?c2 ?c3 ?c4 ?c5; (case k1 => assumption); (case k2 => exact TopRead.nolimit (by assumption)); (case k6 => k_is); (case k7 => k_is); (case k8 => k_room); (case k9 => first | exact BindsTo.of_eq rfl | exact binds_K (by assumption) rfl (by k_is) rfl rfl rfl | fail "k_enter: no rule for these arguments"); (case c5 => decide); (case kB => exact locs rfl); (case c2 => exact rfl); (case c3 => exact rfl); (case c4 => exact rfl); k_whole; intro L' h' F' N' kSz; (try dsimp only); (try k_fold)))
local macro_rules | `(tactic| walk_at "call type:bytes") => `(tactic| (k_here; (with_reducible show wpAny _ _ (call (Value.type _) [Value.bytes _ _]) _ _ _); (with_unfolding_all refine call_bytes_bytes ?_)))

noncomputable abbrev bfo_E (w : World) (L : Addr) : Env := envOf (Str.ofString "bytes_from_octets") (fdOf (top.o_82 w.params)).scope L 80 (.ref 79)

theorem bfo_b {w : World} {mg mb : Str → Option Value} {dp un : Nat} {fr : Option (List Env)} {gd : Option (List Code)} {s : Shared} {E : Value → Shared → Prop}
    {h₀ : Heap} {L : Addr} {m : Str → Option Value} {news : List (Addr × Obj)} {Q : Flow → Shared → Prop} (b : Array UInt8) (tb : Tok)
    (X : (KH w.params).In h₀) (T : TopRead q lw mg mb h₀) (F : Fr h₀ L s.heap (fun y => if y = Str.ofString "octets" then some (.bytes b tb) else if y = Str.ofString "out_size" then some (.none) else m y)) (N : News h₀ L s.heap news) (hd : dp + 30 < recursionLimit) (hu : un + 230 < cLine)
    (hret : ∀ m' h' tk', Fr h₀ L h' m' → News h₀ L h' news → Q (.ret (.bytes b tb)) { s with heap := h', toks := tk' }) :
    wpAny (model PySem.Challenge.rw_ez0016_01.prog w) (Ar dp un fr gd) (execs (bodyOf (fdOf (top.o_82 w.params))) (bfo_E w L)) Q E s := by
  revert X; k_fill; intro X
  dsimp only [bodyOf, fdOf, top.o_82, fnS, List.getD, List.getElem?_cons_succ, List.getElem?_cons_zero, Option.getD]
  k_steps
  all_goals (try (with_reducible rename Fr _ _ _ _ => FF))
  all_goals (try (with_reducible rename News _ _ _ _ => NN))
  all_goals exact hret _ _ _ FF (by first | exact NN | exact fun p hp => NN p (.tail _ hp))

theorem bfo_c {w : World} {mg mb : Str → Option Value} {dp un : Nat} {fr : Option (List Env)} {gd : Option (List Code)} {s : Shared} {args : Args} {R : Result → Shared → Prop} (b : Array UInt8) (tb : Tok)
    (hbd : BindsTo s (fdOf (top.o_82 w.params)) args [(Str.ofString "octets", .bytes b tb), (Str.ofString "out_size", .none)])
    (X : (KH w.params).In s.heap) (T : TopRead q lw mg mb s.heap) (hd : dp + 31 < recursionLimit) (hu : un + 234 < cLine)
    (hret : ∀ h' tk', Ext s.heap h' → R (.ok (.ret (.bytes b tb))) { s with heap := h', toks := tk' }) :
    codeAny (model RP w) (Ar dp un fr gd) (.call (.ref 80) args) R s := by
  refine enterK (K := KH w.params) (f := 80) X T.nolimit (by rfl) (by rfl) (by show dp < recursionLimit; omega) hbd (fun x hx => ?_) (fun L' h₁ F N hL => ?_) (by rfl) (by rfl) (by rfl) ?_
  · simp only [List.mem_cons, List.not_mem_nil, or_false] at hx
    rcases hx with rfl | rfl <;> rfl
  · refine bfo_b (dp := dp + 1) (un := un + 3) (fr := fr.map (bfo_E w L' :: ·)) (gd := gd) (h₀ := s.heap) (L := L') (m := fun _ => none) (news := []) b tb X T (fr_ext F fun y => ?_) N (by omega) (by omega) (fun m' h' tk' F' N' => hret h' tk' F'.keep)
    show List.lookup y [(Str.ofString "out_size", (.none : Value)), (Str.ofString "octets", (.bytes b tb : Value))] = _
    by_cases hoctets : y = Str.ofString "octets"
    · subst hoctets; rfl
    by_cases hout_size : y = Str.ofString "out_size"
    · subst hout_size; rfl
    have eoctets : (y == Str.ofString "octets") = false := by simp [hoctets]
    have eout_size : (y == Str.ofString "out_size") = false := by simp [hout_size]
    rw [List.lookup_cons, List.lookup_cons, eout_size, eoctets, if_neg hoctets, if_neg hout_size]; rfl
  · intro x hx
    revert x
    dsimp only [bodyOf, fdOf, top.o_82, fnS, List.getD, List.getElem?_cons_succ, List.getElem?_cons_zero, Option.getD]
    decide

noncomputable abbrev isi_E (w : World) (L : Addr) : Env := envOf (Str.ofString "is_integer") (fdOf (top.o_1074 w.params)).scope L 658 (.ref 657)

theorem isi_b {w : World} {mg mb : Str → Option Value} {dp un : Nat} {fr : Option (List Env)} {gd : Option (List Code)} {s : Shared} {E : Value → Shared → Prop}
    {h₀ : Heap} {L : Addr} {m : Str → Option Value} {news : List (Addr × Obj)} {Q : Flow → Shared → Prop} (i : Int) (ti : Tok)
    (X : (KH w.params).In h₀) (T : TopRead q lw mg mb h₀) (F : Fr h₀ L s.heap (fun y => if y = Str.ofString "value" then some (.int i ti) else m y)) (N : News h₀ L s.heap news) (hd : dp + 30 < recursionLimit) (hu : un + 230 < cLine)
    (hret : ∀ m' h' tk', Fr h₀ L h' m' → News h₀ L h' news → Q (.ret (.bool true)) { s with heap := h', toks := tk' }) :
    wpAny (model PySem.Challenge.rw_ez0016_01.prog w) (Ar dp un fr gd) (execs (bodyOf (fdOf (top.o_1074 w.params))) (isi_E w L)) Q E s := by
  revert X; k_fill; intro X
  dsimp only [bodyOf, fdOf, top.o_1074, fnS, List.getD, List.getElem?_cons_succ, List.getElem?_cons_zero, Option.getD]
  k_steps
  all_goals (try (with_reducible rename Fr _ _ _ _ => FF))
  all_goals (try (with_reducible rename News _ _ _ _ => NN))
  all_goals exact hret _ _ _ FF (by first | exact NN | exact fun p hp => NN p (.tail _ hp))

theorem isi_c {w : World} {mg mb : Str → Option Value} {dp un : Nat} {fr : Option (List Env)} {gd : Option (List Code)} {s : Shared} {args : Args} {R : Result → Shared → Prop} (i : Int) (ti : Tok)
    (hbd : BindsTo s (fdOf (top.o_1074 w.params)) args [(Str.ofString "value", .int i ti)])
    (X : (KH w.params).In s.heap) (T : TopRead q lw mg mb s.heap) (hd : dp + 31 < recursionLimit) (hu : un + 234 < cLine)
    (hret : ∀ h' tk', Ext s.heap h' → R (.ok (.ret (.bool true))) { s with heap := h', toks := tk' }) :
    codeAny (model RP w) (Ar dp un fr gd) (.call (.ref 658) args) R s := by
  refine enterK (K := KH w.params) (f := 658) X T.nolimit (by rfl) (by rfl) (by show dp < recursionLimit; omega) hbd (fun x hx => ?_) (fun L' h₁ F N hL => ?_) (by rfl) (by rfl) (by rfl) ?_
  · simp only [List.mem_cons, List.not_mem_nil, or_false] at hx
    rcases hx with rfl <;> rfl
  · refine isi_b (dp := dp + 1) (un := un + 3) (fr := fr.map (isi_E w L' :: ·)) (gd := gd) (h₀ := s.heap) (L := L') (m := fun _ => none) (news := []) i ti X T (fr_ext F fun y => ?_) N (by omega) (by omega) (fun m' h' tk' F' N' => hret h' tk' F'.keep)
    show List.lookup y [(Str.ofString "value", (.int i ti : Value))] = _
    by_cases hvalue : y = Str.ofString "value"
    · subst hvalue; rfl
    have evalue : (y == Str.ofString "value") = false := by simp [hvalue]
    rw [List.lookup_cons, evalue, if_neg hvalue]; rfl
  · intro x hx
    revert x
    dsimp only [bodyOf, fdOf, top.o_1074, fnS, List.getD, List.getElem?_cons_succ, List.getElem?_cons_zero, Option.getD]
    decide

noncomputable abbrev aty_E (w : World) (L : Addr) : Env := envOf (Str.ofString "assert_type") (fdOf (top.o_1088 w.params)).scope L 672 (.ref 671)

theorem aty_b {w : World} {mg mb : Str → Option Value} {dp un : Nat} {fr : Option (List Env)} {gd : Option (List Code)} {s : Shared} {E : Value → Shared → Prop}
    {h₀ : Heap} {L : Addr} {m : Str → Option Value} {news : List (Addr × Obj)} {Q : Flow → Shared → Prop} (a : Bool) (x : Str) (tx : Tok)
    (X : (KH w.params).In h₀) (T : TopRead q lw mg mb h₀) (F : Fr h₀ L s.heap (fun y => if y = Str.ofString "value" then some (.bool a) else if y = Str.ofString "expected" then some (.type "bool") else if y = Str.ofString "what" then some (.str x tx) else m y)) (N : News h₀ L s.heap news) (hd : dp + 30 < recursionLimit) (hu : un + 230 < cLine)
    (hret : ∀ f m' h' tk', (f = .next ∨ f = .ret .none) → Fr h₀ L h' m' → News h₀ L h' news → Q f { s with heap := h', toks := tk' }) :
    wpAny (model PySem.Challenge.rw_ez0016_01.prog w) (Ar dp un fr gd) (execs (bodyOf (fdOf (top.o_1088 w.params))) (aty_E w L)) Q E s := by
  revert X; k_fill; intro X
  dsimp only [bodyOf, fdOf, top.o_1088, fnS, List.getD, List.getElem?_cons_succ, List.getElem?_cons_zero, Option.getD]
  k_steps
  all_goals (try (with_reducible rename Fr _ _ _ _ => FF))
  all_goals (try (with_reducible rename News _ _ _ _ => NN))
  all_goals exact hret _ _ _ _ (by first | exact .inl rfl | exact .inr rfl) FF NN

theorem aty_c {w : World} {mg mb : Str → Option Value} {dp un : Nat} {fr : Option (List Env)} {gd : Option (List Code)} {s : Shared} {args : Args} {R : Result → Shared → Prop} (a : Bool) (x : Str) (tx : Tok)
    (hbd : BindsTo s (fdOf (top.o_1088 w.params)) args [(Str.ofString "value", .bool a), (Str.ofString "expected", .type "bool"), (Str.ofString "what", .str x tx)])
    (X : (KH w.params).In s.heap) (T : TopRead q lw mg mb s.heap) (hd : dp + 31 < recursionLimit) (hu : un + 234 < cLine)
    (hret : ∀ h' tk', Ext s.heap h' → R (.ok (.ret .none)) { s with heap := h', toks := tk' }) :
    codeAny (model RP w) (Ar dp un fr gd) (.call (.ref 672) args) R s := by
  refine enterK (K := KH w.params) (f := 672) X T.nolimit (by rfl) (by rfl) (by show dp < recursionLimit; omega) hbd (fun x hx => ?_) (fun L' h₁ F N hL => ?_) (by rfl) (by rfl) (by rfl) ?_
  · simp only [List.mem_cons, List.not_mem_nil, or_false] at hx
    rcases hx with rfl | rfl | rfl <;> rfl
  · refine aty_b (dp := dp + 1) (un := un + 3) (fr := fr.map (aty_E w L' :: ·)) (gd := gd) (h₀ := s.heap) (L := L') (m := fun _ => none) (news := []) a x tx X T (fr_ext F fun y => ?_) N (by omega) (by omega) (fun f m' h' tk' hf F' N' => by rcases hf with rfl | rfl <;> exact hret h' tk' F'.keep)
    show List.lookup y [(Str.ofString "what", (.str x tx : Value)), (Str.ofString "expected", (.type "bool" : Value)), (Str.ofString "value", (.bool a : Value))] = _
    by_cases hvalue : y = Str.ofString "value"
    · subst hvalue; rfl
    by_cases hexpected : y = Str.ofString "expected"
    · subst hexpected; rfl
    by_cases hwhat : y = Str.ofString "what"
    · subst hwhat; rfl
    have evalue : (y == Str.ofString "value") = false := by simp [hvalue]
    have eexpected : (y == Str.ofString "expected") = false := by simp [hexpected]
    have ewhat : (y == Str.ofString "what") = false := by simp [hwhat]
    rw [List.lookup_cons, List.lookup_cons, List.lookup_cons, ewhat, eexpected, evalue, if_neg hvalue, if_neg hexpected, if_neg hwhat]; rfl
  · intro x hx
    revert x
    dsimp only [bodyOf, fdOf, top.o_1088, fnS, List.getD, List.getElem?_cons_succ, List.getElem?_cons_zero, Option.getD]
    decide

theorem bfo_p {w : World} {mg mb : Str → Option Value} {dp un : Nat} {fr : Option (List Env)} {gd : Option (List Code)} {s : Shared} {Q E : Value → Shared → Prop} (b : Array UInt8) (tb : Tok)
    (X : (KH w.params).In s.heap) (T : TopRead q lw mg mb s.heap) (hd : dp + 31 < recursionLimit) (hu : un + 234 < cLine)
    (hret : ∀ h' tk', Ext s.heap h' → Q (.bytes b tb) { s with heap := h', toks := tk' }) :
    wpAny (model RP w) (Ar dp un fr gd) (call (.ref 80) [.bytes b tb]) Q E s :=
  wpAny_call (bfo_c b tb (by first | exact BindsTo.of_eq rfl | exact binds_K X rfl (by rfl) rfl rfl rfl) X T hd hu hret)

theorem isi_p {w : World} {mg mb : Str → Option Value} {dp un : Nat} {fr : Option (List Env)} {gd : Option (List Code)} {s : Shared} {Q E : Value → Shared → Prop} (i : Int) (ti : Tok)
    (X : (KH w.params).In s.heap) (T : TopRead q lw mg mb s.heap) (hd : dp + 31 < recursionLimit) (hu : un + 234 < cLine)
    (hret : ∀ h' tk', Ext s.heap h' → Q (.bool true) { s with heap := h', toks := tk' }) :
    wpAny (model RP w) (Ar dp un fr gd) (call (.ref 658) [.int i ti]) Q E s :=
  wpAny_call (isi_c i ti (by first | exact BindsTo.of_eq rfl | exact binds_K X rfl (by rfl) rfl rfl rfl) X T hd hu hret)

theorem aty_p {w : World} {mg mb : Str → Option Value} {dp un : Nat} {fr : Option (List Env)} {gd : Option (List Code)} {s : Shared} {Q E : Value → Shared → Prop} (a : Bool) (x : Str) (tx : Tok)
    (X : (KH w.params).In s.heap) (T : TopRead q lw mg mb s.heap) (hd : dp + 31 < recursionLimit) (hu : un + 234 < cLine)
    (hret : ∀ h' tk', Ext s.heap h' → Q .none { s with heap := h', toks := tk' }) :
    wpAny (model RP w) (Ar dp un fr gd) (call (.ref 672) [.bool a, .type "bool", .str x tx]) Q E s :=
  wpAny_call (aty_c a x tx (by first | exact BindsTo.of_eq rfl | exact binds_K X rfl (by rfl) rfl rfl rfl) X T hd hu hret)
end Mine
namespace Mine
def SeqAt (b : Bool) (h : Heap) (D : Addr) (items : Array Value) : Prop := match b with | true => h.IsList D items | false => h.IsTuple D items
def IterAt (b : Bool) (h : Heap) (it D : Addr) (i : Nat) : Prop := match b with | true => h.IsListIter it D i | false => h.IsTupleIter it D i
theorem SeqAt.keeps {b : Bool} {h h' : Heap} {D : Addr} {items : Array Value} (x : SeqAt b h D items) (k : ∀ o, h.get? D = some o → h'.get? D = some o) : SeqAt b h' D items := by
  cases b <;> exact let ⟨o, ho, r⟩ := x; ⟨o, k o ho, r⟩
theorem IterAt.keeps {b : Bool} {h h' : Heap} {it D : Addr} {i : Nat} (x : IterAt b h it D i) (k : ∀ o, h.get? it = some o → h'.get? it = some o) : IterAt b h' it D i := by
  cases b <;> exact let ⟨o, ho, r⟩ := x; ⟨o, k o ho, r⟩
theorem IterAt.there {b : Bool} {h : Heap} {it D : Addr} {i : Nat} (x : IterAt b h it D i) : ∃ o, h.get? it = some o := by
  cases b <;> exact let ⟨o, ho, r⟩ := x; ⟨o, ho⟩
theorem SeqAt.there {b : Bool} {h : Heap} {it : Addr} {items : Array Value} (x : SeqAt b h it items) : ∃ o, h.get? it = some o := by
  cases b <;> exact let ⟨o, ho, r⟩ := x; ⟨o, ho⟩
theorem let_seq {M : Model} {A : Around} {E : Value → Shared → Prop} {s : Shared} {target : Expr} {b : Bool} {it D : Addr} {i : Nat} {v : Value} {Q : Unit → Shared → Prop} (hg : IterAt b s.heap it D i) (hQ : Q () s) : wpAny M A (letOwnedTupleGo target (.ref it) v) Q E s := by
  have : ∃ o n vs, s.heap.get? it = some o ∧ o.cls = .type n ∧ o.data = .fields vs ∧ ["enumerate", "zip", "dict_itemiterator", "dict_reverseitemiterator", "odict_iterator", "itertools.zip_longest", "itertools.pairwise"].contains n = false := by
    cases b <;> exact let ⟨o, ho, hc, hd⟩ := hg; ⟨o, _, _, ho, hc, hd, by decide⟩
  obtain ⟨o, n, vs, ho, hc, hd, hn⟩ := this
  unfold letOwnedTupleGo
  split
  all_goals first
    | exact wpAny_pure hQ
    | (cases v <;> first | exact wpAny_pure hQ | (refine wpAny_bind (wpAny_load ho ?_); rw [hc, hd]; simp only [hn, Bool.false_and, Bool.false_eq_true, if_false]; exact wpAny_pure hQ))
def GPost2 (h₀ : Heap) (L : Addr) (J : (Str → Option Value) → Prop) (news : List (Addr × Obj)) (s : Shared) (Q : Flow → Shared → Prop) (f : Flow) (s₃ : Shared) : Prop := match f with
  | .ret v => Q (.ret v) s₃
  | .brk => Q .next s₃
  | _ => ∃ h' tk' g' m', s₃ = { s with heap := h', toks := tk', gens := g' } ∧ Fr h₀ L h' m' ∧ News h₀ L h' news ∧ (AllBare s.gens → AllBare g') ∧ J m'
theorem GPost2.intro {h₀ : Heap} {L : Addr} {J : (Str → Option Value) → Prop} {m' : Str → Option Value} {news news' : List (Addr × Obj)} {s : Shared} {Q : Flow → Shared → Prop} {h' : Heap} {tk' : Nat} {g' : Array GenState} (F : Fr h₀ L h' m') (N : News h₀ L h' news') (hn : ∀ p ∈ news, p ∈ news') (hb : AllBare s.gens → AllBare g') (hj : J m') :
    GPost2 h₀ L J news s Q .next { s with heap := h', toks := tk', gens := g' } := ⟨h', tk', g', m', rfl, F, fun p hp => N p (hn p hp), hb, hj⟩
section
variable {w : World} {mg mb : Str → Option Value} {h₀ : Heap} {A : Around} {s : Shared} {Q : Flow → Shared → Prop} {E : Value → Shared → Prop}
theorem iter_seq {b : Bool} {D : Addr} {items : Array Value} {Q : Value → Shared → Prop} (hl : SeqAt b s.heap D items)
    (hQ : ∀ h', Ext s.heap h' → s.heap.get? s.heap.objs.size = none → IterAt b h' s.heap.objs.size D 0 → Q (.ref s.heap.objs.size) { s with heap := h' }) : wpAny (model RP w) A (pyIter (.ref D)) Q E s := by
  cases b with
  | true => exact wpAny_pyIter_list hl (hQ _ (fun _ _ e => Heap.get?_push_of_some _ e) (Heap.get?_none_of_le (Nat.le_refl _)) ⟨_, Heap.get?_push_size _ rfl, rfl, rfl⟩)
  | false => exact wpAny_pyIter_tuple hl (hQ _ (fun _ _ e => Heap.get?_push_of_some _ e) (Heap.get?_none_of_le (Nat.le_refl _)) ⟨_, Heap.get?_push_size _ rfl, rfl, rfl⟩)
theorem next_seq {b : Bool} {it D : Addr} {i : Nat} {items : Array Value} {Q : Option Value → Shared → Prop} (hh : A.handled = none) (hit : IterAt b s.heap it D i) (hl : SeqAt b s.heap D items)
    (some_ : ∀ v, items[i]? = some v → ∀ h', IterAt b h' it D (i + 1) → (∀ z o, z ≠ it → s.heap.get? z = some o → h'.get? z = some o) → Q (some v) { s with heap := h' })
    (none_ : items[i]? = none → ∀ h', (∀ z o, z ≠ it → s.heap.get? z = some o → h'.get? z = some o) → Q none { s with heap := h' }) : wpAny (model RP w) A (pyNext (.ref it)) Q E s := by
  cases hx : items[i]? with
  | some v =>
    cases b with
    | true => exact wpAny_pyNext_list_item hit hl hx fun h' x k => some_ v hx h' x fun z o hz e => (k.2 z hz).trans e
    | false => exact wpAny_pyNext_tuple_item hit hl hx fun h' x k => some_ v hx h' x fun z o hz e => (k.2 z hz).trans e
  | none =>
    cases b with
    | true => exact wpAny_pyNext_list_end hh hit hl hx fun h' k => none_ hx h' k
    | false => exact wpAny_pyNext_tuple_end hh hit hl hx fun h' k => none_ hx h' k
theorem loop_seq {env : Env} {target : Expr} {body : List Stmt} {b : Bool} {D : Addr} {items : Array Value} {m₀ : Str → Option Value} {news : List (Addr × Obj)} (J : Nat → (Str → Option Value) → Prop)
    (hh : A.handled = none) (F : Fr h₀ env.locals s.heap m₀) (N : News h₀ env.locals s.heap news) (hl : SeqAt b s.heap D items) (hDL : D ≠ env.locals) (hj : J 0 m₀)
    (turn : ∀ j v m₁ h tk g news₁ E, items[j]? = some v → J j m₁ → (AllBare s.gens → AllBare g) → Fr h₀ env.locals h m₁ → News h₀ env.locals h news₁ → (∀ p ∈ news, p ∈ news₁) → SeqAt b h D items →
      wpAny (model RP w) A (assign target env v) (fun _ s₂ => wpAny (model RP w) A (execs body env) (GPost2 h₀ env.locals (J (j + 1)) news₁ { s with heap := h, toks := tk, gens := g } Q) E s₂) E { s with heap := h, toks := tk, gens := g })
    (done : ∀ m₁ h tk g, J items.size m₁ → (AllBare s.gens → AllBare g) → Fr h₀ env.locals h m₁ → News h₀ env.locals h news → Q .next { s with heap := h, toks := tk, gens := g }) :
    wpAny (model RP w) A (pyIter (.ref D)) (fun it s₂ => codeAny (model RP w) A (.forLoop target it body [] env) (fun r s' => match r with | .ok f => Q f s' | .error e => cameBackBy (model RP w) A env E e s') s₂) E s := by
  refine iter_seq hl fun hi hEi hfr hIt => ?_
  let it := s.heap.objs.size
  have hitD : it ≠ D := fun q => by
    obtain ⟨o, e⟩ := hl.there
    rw [← q] at e
    exact absurd (hfr.symm.trans e) (by simp)
  have hitL : it ≠ env.locals := fun q => by
    obtain ⟨oL, _, _, hL', _⟩ := F.ns
    rw [← q] at hL'
    exact absurd (hfr.symm.trans hL') (by simp)
  have hit0 : h₀.get? it = none := by
    cases q : h₀.get? it with
    | none => rfl
    | some o => exact absurd (hfr.symm.trans (F.keep _ _ q)) (by simp)
  let I : Nat → Shared → Prop := fun n s' => ∃ j m₁ h tk g, n + j = items.size ∧ s' = { s with heap := h, toks := tk, gens := g } ∧ Fr h₀ env.locals h m₁ ∧ News h₀ env.locals h news ∧ SeqAt b h D items ∧ IterAt b h it D j ∧ (AllBare s.gens → AllBare g) ∧ J j m₁
  refine codeAny_forLoop_any I (fun n s' hI => ?_) items.size ⟨0, m₀, hi, s.toks, s.gens, rfl, rfl, Fr.keeps F hEi, News.keeps N hEi, hl.keeps (hEi _), hIt, fun h => h, hj⟩
  obtain ⟨j, m₁, h, tk, g, hn, rfl, F₁, N₁, hl₁, hit₁, hb₁, hj₁⟩ := hI
  have frk : ∀ {h' : Heap}, (∀ z o, z ≠ it → h.get? z = some o → h'.get? z = some o) → Fr h₀ env.locals h' m₁ := fun {h'} k =>
    ⟨F₁.ns.at' fun o e => k _ _ (Ne.symm hitL) e, fun b o e => k b o (fun q => by rw [q] at e; rw [hit0] at e; cases e) (F₁.keep _ _ e), F₁.above⟩
  have hne : ∀ p ∈ news, p.1 ≠ it := fun p hp q => by
    have := (N p hp).1
    rw [q] at this
    exact absurd (hfr.symm.trans this) (by simp)
  refine next_seq hh hit₁ hl₁ (fun v hv h' hit' hk' => ?_) (fun hv h' hk' => ?_)
  · have F₂ := frk hk'
    have hl₂ := hl₁.keeps fun o => hk' _ o (Ne.symm hitD)
    refine let_seq hit' (wpAny_mono (turn j v m₁ h' tk g _ _ hv hj₁ hb₁ F₂ (allNews_is h₀ env.locals h') (fun p hp => mem_allNews (N p hp).2.1 (hk' _ _ (hne p hp) (N₁ p hp).1) (N p hp).2.2) hl₂) (fun _ s₂ z => wpAny_mono z (fun f s₃ y => ?_) fun _ _ e => e) fun _ _ e => e)
    have fin : (∃ h'' tk'' g'' m', s₃ = { ({ s with heap := h', toks := tk, gens := g } : Shared) with heap := h'', toks := tk'', gens := g'' } ∧ Fr h₀ env.locals h'' m' ∧ News h₀ env.locals h'' (allNews h₀ env.locals h') ∧ (AllBare g → AllBare g'') ∧ J (j + 1) m') → ∃ m, m < n ∧ I m s₃ := by
      rintro ⟨h'', tk'', g'', m', rfl, F₃, N₃, hb₃, hj₃⟩
      have hk₃ := kept_of F₂ F₃ N₃ fun _ h => h
      have hlt : j < items.size := by
        rcases Nat.lt_or_ge j items.size with q | q
        · exact q
        · rw [Array.getElem?_eq_none q] at hv; cases hv
      exact ⟨n - 1, by omega, j + 1, m', h'', tk'', g'', by omega, rfl, F₃, fun p hp => ⟨hk₃ _ _ (N p hp).2.1 (hk' _ _ (hne p hp) (N₁ p hp).1), (N p hp).2⟩, hl₂.keeps fun o => hk₃ _ o hDL, hit'.keeps fun o => hk₃ _ o hitL, fun q => hb₃ (hb₁ q), hj₃⟩
    cases f with
    | ret v => exact y
    | brk => exact y
    | next => exact fin y
    | cont => exact fin y
  · refine wpAny_pure ?_
    have : j = items.size := by
      rcases Nat.lt_or_ge j items.size with q | q
      · rw [Array.getElem?_eq_getElem q] at hv; cases hv
      · omega
    subst this
    exact done m₁ h' tk g hj₁ hb₁ (frk hk') fun p hp => ⟨hk' _ _ (hne p hp) (N₁ p hp).1, (N p hp).2⟩
end
end Mine
namespace Mine
local macro_rules | `(tactic| k_room) => `(tactic| ((try simp only [depth_under_make, depth_under_kw, depth_in1, depth_deeper, depth_caller]); (try dsimp only [Ar]); omega))
local macro_rules | `(tactic| k_units) => `(tactic| ((try simp only [units_in1, units_deeper, Around.mark_units, units_caller]); (try dsimp only [Ar]); omega))
local macro_rules | `(tactic| cell_enter) => `(tactic| (refine' enterK ?k1 ?k2 ?k6 ?k7 ?k8 ?k9 ?kB ?_ ?c2 ?c3 ?c4 ?c5; (case k1 => assumption); (case k2 => exact TopRead.nolimit (by assumption)); (case k6 => k_is); (case k7 => k_is); (case k8 => k_room); (case k9 => first | exact BindsTo.of_eq rfl | exact binds_K (by assumption) rfl (by k_is) rfl rfl rfl | fail "k_enter: no rule for these arguments"); (case c5 => decide); (case kB => exact locs rfl); (case c2 => exact rfl); (case c3 => exact rfl); (case c4 => exact rfl); k_whole; intro L' h' F' N' kSz; (try dsimp only); (try k_fold)))
local macro_rules | `(tactic| walk_at "call type:bytes") => `(tactic| (k_here; (with_reducible show wpAny _ _ (call (Value.type _) [Value.bytes _ _]) _ _ _); (with_unfolding_all refine call_bytes_bytes ?_)))

noncomputable abbrev mtx_E (w : World) (L : Addr) : Env := envOf (Str.ofString "_message_text") (fdOf (top.o_1067 w.params)).scope L 651 (.ref 650)

theorem mtx_b {w : World} {mg mb : Str → Option Value} {dp un : Nat} {fr : Option (List Env)} {gd : Option (List Code)} {s : Shared} {E : Value → Shared → Prop}
    {h₀ : Heap} {L : Addr} {m : Str → Option Value} {news : List (Addr × Obj)} {Q : Flow → Shared → Prop} (ti : Tok)
    (X : (KH w.params).In h₀) (T : TopRead q lw mg mb h₀) (F : Fr h₀ L s.heap (fun y => if y = Str.ofString "value" then some (.int 23 ti) else m y)) (N : News h₀ L s.heap news) (hd : dp + 30 < recursionLimit) (hu : un + 230 < cLine)
    (hret : ∀ x tx m' h' tk', x.length ≤ 100 → Fr h₀ L h' m' → News h₀ L h' news → Q (.ret (.str x tx)) { s with heap := h', toks := tk' }) :
    wpAny (model PySem.Challenge.rw_ez0016_01.prog w) (Ar dp un fr gd) (execs (bodyOf (fdOf (top.o_1067 w.params))) (mtx_E w L)) Q E s := by
  revert X; k_fill; intro X
  dsimp only [bodyOf, fdOf, top.o_1067, fnS, List.getD, List.getElem?_cons_succ, List.getElem?_cons_zero, Option.getD]
  k_steps
  all_goals (try (with_reducible rename Fr _ _ _ _ => FF))
  all_goals (try (with_reducible rename News _ _ _ _ => NN))
  all_goals exact hret _ _ _ _ _ (by decide) FF (by first | exact NN | exact fun p hp => NN p (.tail _ hp))

theorem mtx_c {w : World} {mg mb : Str → Option Value} {dp un : Nat} {fr : Option (List Env)} {gd : Option (List Code)} {s : Shared} {args : Args} {R : Result → Shared → Prop} (ti : Tok)
    (hbd : BindsTo s (fdOf (top.o_1067 w.params)) args [(Str.ofString "value", .int 23 ti)])
    (X : (KH w.params).In s.heap) (T : TopRead q lw mg mb s.heap) (hd : dp + 31 < recursionLimit) (hu : un + 234 < cLine)
    (hret : ∀ x tx h' tk', x.length ≤ 100 → Ext s.heap h' → R (.ok (.ret (.str x tx))) { s with heap := h', toks := tk' }) :
    codeAny (model RP w) (Ar dp un fr gd) (.call (.ref 651) args) R s := by
  refine enterK (K := KH w.params) (f := 651) X T.nolimit (by rfl) (by rfl) (by show dp < recursionLimit; omega) hbd (fun x hx => ?_) (fun L' h₁ F N hL => ?_) (by rfl) (by rfl) (by rfl) ?_
  · simp only [List.mem_cons, List.not_mem_nil, or_false] at hx
    rcases hx with rfl <;> rfl
  · refine mtx_b (dp := dp + 1) (un := un + 3) (fr := fr.map (mtx_E w L' :: ·)) (gd := gd) (h₀ := s.heap) (L := L') (m := fun _ => none) (news := []) ti X T (fr_ext F fun y => ?_) N (by omega) (by omega) (fun x tx m' h' tk' hx F' N' => hret x tx h' tk' hx F'.keep)
    show List.lookup y [(Str.ofString "value", (.int 23 ti : Value))] = _
    by_cases hvalue : y = Str.ofString "value"
    · subst hvalue; rfl
    have evalue : (y == Str.ofString "value") = false := by simp [hvalue]
    rw [List.lookup_cons, evalue, if_neg hvalue]; rfl
  · intro x hx
    revert x
    dsimp only [bodyOf, fdOf, top.o_1067, fnS, List.getD, List.getElem?_cons_succ, List.getElem?_cons_zero, Option.getD]
    decide

theorem mtx_p {w : World} {mg mb : Str → Option Value} {dp un : Nat} {fr : Option (List Env)} {gd : Option (List Code)} {s : Shared} {Q E : Value → Shared → Prop} (ti : Tok)
    (X : (KH w.params).In s.heap) (T : TopRead q lw mg mb s.heap) (hd : dp + 31 < recursionLimit) (hu : un + 234 < cLine)
    (hret : ∀ x tx h' tk', x.length ≤ 100 → Ext s.heap h' → Q (.str x tx) { s with heap := h', toks := tk' }) :
    wpAny (model RP w) (Ar dp un fr gd) (call (.ref 651) [.int 23 ti]) Q E s :=
  wpAny_call (mtx_c ti (by first | exact BindsTo.of_eq rfl | exact binds_K X rfl (by rfl) rfl rfl rfl) X T hd hu hret)
end Mine
namespace Mine
local macro_rules | `(tactic| k_room) => `(tactic| ((try simp only [depth_under_make, depth_under_kw, depth_in1, depth_deeper, depth_caller]); (try dsimp only [Ar]); omega))
local macro_rules | `(tactic| k_units) => `(tactic| ((try simp only [units_in1, units_deeper, Around.mark_units, units_caller]); (try dsimp only [Ar]); omega))
local macro_rules | `(tactic| cell_enter) => `(tactic| (refine' enterK ?k1 ?k2 ?k6 ?k7 ?k8 ?k9 ?kB ?_ ?c2 ?c3 ?c4 ?c5; (case k1 => assumption); (case k2 => exact TopRead.nolimit (by assumption)); (case k6 => k_is); (case k7 => k_is); (case k8 => k_room); (case k9 => first | exact BindsTo.of_eq rfl | exact binds_K (by assumption) rfl (by k_is) rfl rfl rfl | fail "k_enter: no rule for these arguments"); (case c5 => decide); (case kB => exact locs rfl); (case c2 => exact rfl); (case c3 => exact rfl); (case c4 => exact rfl); k_whole; intro L' h' F' N' kSz; (try dsimp only); (try k_fold)))
local macro_rules | `(tactic| walk_at "call type:bytes") => `(tactic| (k_here; (with_reducible show wpAny _ _ (call (Value.type _) [Value.bytes _ _]) _ _ _); (with_unfolding_all refine call_bytes_bytes ?_)))
local macro_rules | `(tactic| walk_at "call ref") => `(tactic| (k_here; (with_reducible show wpAny _ _ (call (Value.ref 658) [Value.int _ _]) _ _ _); k_dflt ((with_reducible rename Fr _ _ _ _ => FF); (with_reducible rename News _ _ _ _ => NN); (with_reducible rename TopRead _ _ _ _ _ => TT); refine' isi_p _ _ ?kX ?kT ?kd ?ku ?_; (case kX => exact Frag.In.keeps (by assumption) FF.keep); (case kT => exact TopRead.keeps TT FF.keep); (case kd => k_room); (case ku => k_units); (intro  h' tk'  hk'; (have F' := Fr.keeps FF hk'); (have N' := News.keeps NN hk'); clear FF NN hk'; (try dsimp only at F' N' ⊢)))))
local macro_rules | `(tactic| walk_at "call ref") => `(tactic| (k_here; (with_reducible show wpAny _ _ (call (Value.ref 651) [Value.int 23 _]) _ _ _); k_dflt ((with_reducible rename Fr _ _ _ _ => FF); (with_reducible rename News _ _ _ _ => NN); (with_reducible rename TopRead _ _ _ _ _ => TT); refine' mtx_p _ ?kX ?kT ?kd ?ku ?_; (case kX => exact Frag.In.keeps (by assumption) FF.keep); (case kT => exact TopRead.keeps TT FF.keep); (case kd => k_room); (case ku => k_units); (intro x' tx' h' tk' hx' hk'; (have F' := Fr.keeps FF hk'); (have N' := News.keeps NN hk'); clear FF NN hk'; (try dsimp only at F' N' ⊢)))))
local macro_rules | `(tactic| walk_at "exec Raise some none") => `(tactic| (k_here; (with_reducible show wpAny _ _ (exec (Stmt.Raise (some (Expr.Call (Expr.Name _ _) (_ :: _) [] _)) none _) _) _ _ _); k_dflt (first
  | (refine' Raise_own2 ?F ?g ?O PySem.F.excBase_Exception ?hc PySem.F.excBase_ValueError ?h ?_ ?a ?b ?c ?d ?e; (case F => k_asm); (case g => exact TopRead.g (by k_asm)); (case O => exact own_of_in (by k_asm) (by k_asm) (by k_is) (by k_exc)); (case hc => rfl); (case h => first | rfl | assumption); (case a => rfl); (case b => rfl); (case c => rfl); (case d => rfl); (case e => decide); k_whole)
  | (refine' Raise_own2 ?F ?g ?O PySem.F.excBase_Exception ?hc PySem.F.excBase_TypeError ?h ?_ ?a ?b ?c ?d ?e; (case F => k_asm); (case g => exact TopRead.g (by k_asm)); (case O => exact own_of_in (by k_asm) (by k_asm) (by k_is) (by k_exc)); (case hc => rfl); (case h => first | rfl | assumption); (case a => rfl); (case b => rfl); (case c => rfl); (case d => rfl); (case e => decide); k_whole))))

noncomputable abbrev oB (w : World) : List Stmt := bodyOf (fdOf (top.o_82 w.params))
noncomputable abbrev oS (w : World) (i : Nat) : Stmt := (oB w).getD i (.Pass ⟨0, 0, 0, 0⟩)
theorem oB_is (w : World) : ∃ pos, oB w = [oS w 0, oS w 1, oS w 2, .For (forTgt (oS w 3)) (forIter (oS w 3)) (forBody (oS w 3)) [] pos, oS w 4, oS w 5, oS w 6, oS w 7] := ⟨_, rfl⟩
abbrev tup1 (ti : Tok) : Obj := { cls := .type "tuple", data := .seq #[.int 23 ti] }

theorem o_pre {w : World} {mg mb : Str → Option Value} {dp un : Nat} {fr : Option (List Env)} {gd : Option (List Code)} {s : Shared} {E : Value → Shared → Prop}
    {h₀ : Heap} {L : Addr} {m : Str → Option Value} {news : List (Addr × Obj)} {Q : Flow → Shared → Prop} (b : Array UInt8) (ks : List Int) (hb : KBw.bInts b = ks) (hsz : ks.length ≤ 4096) (tb ti : Tok)
    (X : (KH w.params).In h₀) (T : TopRead q lw mg mb h₀) (F : Fr h₀ L s.heap (fun y => if y = Str.ofString "octets" then some (.bytes b tb) else if y = Str.ofString "out_size" then some (.int 23 ti) else m y)) (N : News h₀ L s.heap news) (hd : dp + 30 < recursionLimit) (hu : un + 230 < cLine)
    (hret : ∀ D h' tk', Fr h₀ L h' (fun y => if y = Str.ofString "sizes" then some (.ref D) else if y = Str.ofString "octets" then some (.bytes b tb) else if y = Str.ofString "out_size" then some (.int 23 ti) else m y) → News h₀ L h' ((D, tup1 ti) :: news) → Q .next { s with heap := h', toks := tk' }) :
    wpAny (model PySem.Challenge.rw_ez0016_01.prog w) (Ar dp un fr gd) (execs [oS w 0, oS w 1, oS w 2] (bfo_E w L)) Q E s := by
  revert X; k_fill; intro X
  dsimp only [oS, oB, forTgt, forIter, forBody, bodyOf, fdOf, top.o_82, fnS, List.getD, List.getElem?_cons_succ, List.getElem?_cons_zero, Option.getD]
  k_steps
  all_goals (try (with_reducible rename Fr _ _ _ _ => FF))
  all_goals (try (with_reducible rename News _ _ _ _ => NN))
  all_goals
    refine' hret _ _ _ (fr_ext FF ?f) (fun p hp => NN p ?n)
    case n =>
      rcases List.mem_cons.mp hp with rfl | hp
      · exact List.Mem.head _
      · first | exact .tail _ hp | exact .tail _ (.tail _ hp)
    case f =>
      intro y
      by_cases h1 : y = Str.ofString "octets"
      · subst h1; rfl
      · simp only [h1, if_false]

theorem o_iter {w : World} {mg mb : Str → Option Value} {dp un : Nat} {fr : Option (List Env)} {gd : Option (List Code)} {s : Shared} {E : Value → Shared → Prop}
    {h₀ : Heap} {L : Addr} {m : Str → Option Value} {news : List (Addr × Obj)} {Q : Value → Shared → Prop} (D : Addr) (ti : Tok)
    (X : (KH w.params).In h₀) (T : TopRead q lw mg mb h₀) (F : Fr h₀ L s.heap (fun y => if y = Str.ofString "sizes" then some (.ref D) else m y)) (N : News h₀ L s.heap news) (hd : dp + 30 < recursionLimit) (hu : un + 230 < cLine)
    (hret : ∀ h' tk', Fr h₀ L h' (fun y => if y = Str.ofString "sizes" then some (.ref D) else m y) → News h₀ L h' news → wpAny (model PySem.Challenge.rw_ez0016_01.prog w) (Ar dp un fr gd) (pyIter (.ref D)) Q E { s with heap := h', toks := tk' }) :
    wpAny (model PySem.Challenge.rw_ez0016_01.prog w) (Ar dp un fr gd) (eval (forIter (oS w 3)) (bfo_E w L)) (fun v s₁ => wpAny (model PySem.Challenge.rw_ez0016_01.prog w) (Ar dp un fr gd) (pyIter v) Q E s₁) E s := by
  revert X; k_fill; intro X
  dsimp only [oS, oB, forTgt, forIter, forBody, bodyOf, fdOf, top.o_82, fnS, List.getD, List.getElem?_cons_succ, List.getElem?_cons_zero, Option.getD]
  k_steps
  all_goals (try (with_reducible rename Fr _ _ _ _ => FF))
  all_goals (try (with_reducible rename News _ _ _ _ => NN))
  exact hret _ _ FF NN

theorem o_turn {w : World} {mg mb : Str → Option Value} {dp un : Nat} {fr : Option (List Env)} {gd : Option (List Code)} {s : Shared} {E : Value → Shared → Prop}
    {h₀ : Heap} {L : Addr} {m : Str → Option Value} {news : List (Addr × Obj)} {Q : Flow → Shared → Prop} {J : (Str → Option Value) → Prop} (ti : Tok)
    (X : (KH w.params).In h₀) (T : TopRead q lw mg mb h₀) (F : Fr h₀ L s.heap m) (N : News h₀ L s.heap news) (hd : dp + 70 < recursionLimit) (hu : un + 500 < cLine)
    (hJ : ∀ t, J (fun y => if y = Str.ofString "size" then some (.int 23 t) else m y)) :
    wpAny (model PySem.Challenge.rw_ez0016_01.prog w) (Ar dp un fr gd) (assign (forTgt (oS w 3)) (bfo_E w L) (.int 23 ti)) (fun _ s₂ => wpAny (model PySem.Challenge.rw_ez0016_01.prog w) (Ar dp un fr gd) (execs (forBody (oS w 3)) (bfo_E w L)) (GPost2 h₀ L J news s Q) E s₂) E s := by
  revert X; k_fill; intro X
  dsimp only [oS, oB, forTgt, forIter, forBody, bodyOf, fdOf, top.o_82, fnS, List.getD, List.getElem?_cons_succ, List.getElem?_cons_zero, Option.getD]
  k_steps
  all_goals (try (with_reducible rename Fr _ _ _ _ => FF))
  all_goals (try (with_reducible rename News _ _ _ _ => NN))
  all_goals exact GPost2.intro FF NN (fun p hp => hp) (fun h => h) (hJ _)

theorem o_tail {w : World} {mg mb : Str → Option Value} {dp un : Nat} {fr : Option (List Env)} {gd : Option (List Code)} {s : Shared} {E : Value → Shared → Prop}
    {h₀ : Heap} {L : Addr} {m : Str → Option Value} {news : List (Addr × Obj)} {Q : Flow → Shared → Prop} (b : Array UInt8) (ks : List Int) (hb : KBw.bInts b = ks) (hsz : ks.length ≤ 4096) (tb ti : Tok) (D : Addr)
    (X : (KH w.params).In h₀) (T : TopRead q lw mg mb h₀) (F : Fr h₀ L s.heap (fun y => if y = Str.ofString "octets" then some (.bytes b tb) else if y = Str.ofString "sizes" then some (.ref D) else if y = Str.ofString "out_size" then some (.int 23 ti) else m y)) (N : News h₀ L s.heap ((D, tup1 ti) :: news)) (hd : dp + 70 < recursionLimit) (hu : un + 500 < cLine)
    (hgood : ([23].any fun x : Int => x == (ks.length : Int)) = true → ∀ m' h' tk', Fr h₀ L h' m' → News h₀ L h' ((D, tup1 ti) :: news) → Q (.ret (.bytes b tb)) { s with heap := h', toks := tk' })
    (hbad : ([23].any fun x : Int => x == (ks.length : Int)) = false → ∀ vs m' h₂ h' tk' e, Fr h₀ L h₂ m' → News h₀ L h₂ ((D, tup1 ti) :: news) → Heap.MadeExcOf h₂ h' e (.ref 58) vs → E (.ref e) { s with heap := h', toks := tk' }) :
    wpAny (model PySem.Challenge.rw_ez0016_01.prog w) (Ar dp un fr gd) (execs [oS w 4, oS w 5, oS w 6, oS w 7] (bfo_E w L)) Q E s := by
  revert X; k_fill; intro X
  dsimp only [oS, oB, forTgt, forIter, forBody, bodyOf, fdOf, top.o_82, fnS, List.getD, List.getElem?_cons_succ, List.getElem?_cons_zero, Option.getD]
  k_steps
  all_goals (try (with_reducible rename Fr _ _ _ _ => FF))
  all_goals (try (with_reducible rename News _ _ _ _ => NN))
  all_goals first
    | exact hgood (by with_reducible assumption) _ _ _ FF NN
    | exact hbad (by with_reducible assumption) _ _ _ _ _ _ FF NN (by with_reducible assumption)
end Mine
namespace Mine
structure Stand (h₀ : Heap) (outer : List Env) (h : Heap) : Prop where
  stays : h₀.StaysIn h
  frames : h.FunFrames h₀ outer
  size : h₀.objs.size ≤ h.objs.size
def Thrown (h₀ : Heap) (outer : List Env) (C e : Addr) (g h' : Heap) : Prop := (∃ t, Heap.FlyingW h₀ outer e (.ref C) (.ref t) h') ∧ g.UpToSlots h'
theorem Stand.fresh {h₀ hb h : Heap} {outer : List Env} {L : Addr} {m : Str → Option Value} (S : Stand h₀ outer hb) (F : Fr hb L h m) : h₀.get? L = none := by
  cases q : h₀.get? L with
  | none => rfl
  | some o => exact absurd (Nat.lt_of_lt_of_le (Heap.lt_size q) (Nat.le_trans S.size F.above)) (Nat.lt_irrefl _)
theorem Stand.push {h₀ hb h : Heap} {outer : List Env} {L a : Addr} {m : Str → Option Value} {name : Str} {scope : Scope} {cd : Value} (S : Stand h₀ outer hb) (F : Fr hb L h m) (hk : scope.kind = .function) :
    Stand h₀ (envOf name scope L a cd :: outer) h :=
  ⟨fun b o e => F.keep b o (S.stays b o e), .cons (by show scope.kind ≠ .module; rw [hk]; decide) rfl F.ns (S.fresh F) (S.frames.of_keeps fun b o e _ => ⟨o, F.keep b o e, rfl⟩),
    Nat.le_trans S.size (Nat.le_trans F.above (Nat.le_of_lt F.ns.lt))⟩
section
variable {M : Model} {dp un : Nat} {gd : Option (List Code)} {E : Value → Shared → Prop} {s' : Shared} {h₀ hb h : Heap} {outer : List Env} {L a C e : Addr} {m : Str → Option Value} {name : Str} {scope : Scope} {cd : Value} {Q : Unit → Shared → Prop} {vs : List Value}
theorem leave_new (S : Stand h₀ outer hb) (F : Fr hb L h m) (hx : Heap.MadeExcOf h s'.heap e (.ref C) vs) (hk : scope.kind = .function) (hQ : ∀ h', Thrown h₀ outer C e hb h' → Q () { s' with heap := h' }) :
    wpAny M ((Ar dp un (some outer) gd).deeper (envOf name scope L a cd)) («leaving» (envOf name scope L a cd) (.ref e)) Q E s' := by
  have S' := S.push (name := name) (a := a) (cd := cd) F hk
  exact wpAny_leaves_madeW (by rfl) rfl S'.stays S'.frames hx fun h' t x1 x2 x3 x4 => hQ h' ⟨⟨t, x1⟩, ((Heap.UpToSlots.of_keeps F.keep).trans (Heap.UpToSlots.of_keeps hx.keeps)).trans x4⟩
theorem leave_on (F : Fr hb L h m) (hx : Thrown h₀ (envOf name scope L a cd :: outer) C e h s'.heap) (hQ : ∀ h', Thrown h₀ outer C e hb h' → Q () { s' with heap := h' }) :
    wpAny M ((Ar dp un (some outer) gd).deeper (envOf name scope L a cd)) («leaving» (envOf name scope L a cd) (.ref e)) Q E s' := by
  obtain ⟨⟨t, hf⟩, hu⟩ := hx
  exact wpAny_leaves_onW (by rfl) rfl hf fun h' x1 x2 => hQ h' ⟨⟨t, x1⟩, ((Heap.UpToSlots.of_keeps F.keep).trans hu).trans x2⟩
end
section
variable {w : World} {mg mb : Str → Option Value} {dp un : Nat} {outer : List Env} {gd : Option (List Code)} {s : Shared} {h₀ : Heap}
theorem bf3_c {b : Array UInt8} {ks : List Int} (hb : KBw.bInts b = ks) {tb ti : Tok} (hsz : ks.length ≤ 4096) {R : Result → Shared → Prop} {args : Args}
    (hbd : BindsTo s (fdOf (top.o_82 w.params)) args [(Str.ofString "octets", .bytes b tb), (Str.ofString "out_size", .int 23 ti)])
    (S : Stand h₀ outer s.heap) (X : (KH w.params).In s.heap) (T : TopRead q lw mg mb s.heap) (hd : dp + 80 < recursionLimit) (hu : un + 520 < cLine)
    (hgood : ks.length = 23 → ∀ h' tk' g', Ext s.heap h' → (AllBare s.gens → AllBare g') → R (.ok (.ret (.bytes b tb))) { s with heap := h', toks := tk', gens := g' })
    (hbad : ks.length ≠ 23 → ∀ e h' tk' g', Thrown h₀ outer 58 e s.heap h' → (AllBare s.gens → AllBare g') → R (.error (.ref e)) { s with heap := h', toks := tk', gens := g' }) :
    codeAny (model RP w) (Ar dp un (some outer) gd) (.call (.ref 80) args) R s := by
  refine enterK (K := KH w.params) (f := 80) X T.nolimit (by rfl) (by rfl) (by show dp < recursionLimit; omega) hbd (fun x hx => ?_) (fun L h₁ F N hL => ?_) (by rfl) (by rfl) (by rfl) ?_
  · simp only [List.mem_cons, List.not_mem_nil, or_false] at hx
    rcases hx with rfl | rfl <;> rfl
  · show wpAny (model RP w) ((Ar dp un (some outer) gd).deeper (bfo_E w L)) (execs (oB w) (bfo_E w L)) _ _ _
    obtain ⟨pos, hB⟩ := oB_is w
    rw [hB]
    have hq : ∀ c : Bool, ([23].any fun x : Int => x == (ks.length : Int)) = c → (c = true ↔ ks.length = 23) := fun c e => by
      subst e; simp; omega
    refine wp_app [oS w 0, oS w 1, oS w 2] (rest := [.For (forTgt (oS w 3)) (forIter (oS w 3)) (forBody (oS w 3)) [] pos, oS w 4, oS w 5, oS w 6, oS w 7]) ?_
    refine o_pre (dp := dp + 1) (un := un + 3) (fr := (some outer).map (bfo_E w L :: ·)) (gd := gd) (h₀ := s.heap) (L := L) (m := fun _ => none) (news := []) b ks hb hsz tb ti X T (fr_ext F fun y => ?_) N (by omega) (by omega) (fun D h₂ tk₂ F₂ N₂ => ?_)
    · show List.lookup y [(Str.ofString "out_size", Value.int 23 ti), (Str.ofString "octets", Value.bytes b tb)] = _
      by_cases h1 : y = Str.ofString "octets"
      · subst h1; rfl
      by_cases h2 : y = Str.ofString "out_size"
      · subst h2; rfl
      have e1 : (y == Str.ofString "octets") = false := by simp [h1]
      have e2 : (y == Str.ofString "out_size") = false := by simp [h2]
      rw [List.lookup_cons, List.lookup_cons, e1, e2, if_neg h1, if_neg h2]; rfl
    · refine wpAny_execs_cons (wpAny_For (o_iter (dp := dp + 1) (un := un + 3) (fr := (some outer).map (bfo_E w L :: ·)) (gd := gd) (h₀ := s.heap) (L := L) D ti (m := fun y => if y = Str.ofString "octets" then some (.bytes b tb) else if y = Str.ofString "out_size" then some (.int 23 ti) else none) X T F₂ N₂ (by omega) (by omega) (fun h₃ tk₃ F₃ N₃ => ?_)) (by intro _; rfl))
      have hDL : D ≠ L := (N₃ _ (.head _)).2.1
      refine loop_seq (b := false) (env := bfo_E w L) (items := #[.int 23 ti]) (fun j m => m (Str.ofString "octets") = some (.bytes b tb) ∧ m (Str.ofString "sizes") = some (.ref D) ∧ m (Str.ofString "out_size") = some (.int 23 ti)) rfl F₃ N₃ ⟨_, (N₃ _ (.head _)).1, rfl, _, rfl⟩ hDL ⟨rfl, rfl, rfl⟩
        (fun j v m₁ h tk g news₁ E' hv hj hg F₄ N₄ hsub hseq => ?_) (fun m₁ h tk g hj hg F₄ N₄ => ?_)
      · obtain rfl : v = .int 23 ti := by
          match j, hv with
          | 0, hv => exact (Option.some.inj hv).symm
          | _ + 1, hv => cases hv
        exact o_turn (dp := dp + 1) (un := un + 3) (fr := (some outer).map (bfo_E w L :: ·)) (gd := gd) (h₀ := s.heap) (L := L) ti X T F₄ N₄ (by omega) (by omega) fun t => hj
      · obtain ⟨a1, a2, a3⟩ := hj
        refine o_tail (dp := dp + 1) (un := un + 3) (fr := (some outer).map (bfo_E w L :: ·)) (gd := gd) (h₀ := s.heap) (L := L) b ks hb hsz tb ti D X T (m := m₁) (news := []) (fr_ext F₄ fun y => ?_) N₄ (by omega) (by omega) (fun e m' h' tk' F' N' => ?_) (fun e vs m' h₅ h' tk' ex F' N' hm => ?_)
        · by_cases h1 : y = Str.ofString "octets"
          · subst h1; simp [a1]
          by_cases h2 : y = Str.ofString "sizes"
          · subst h2; simp [a2, h1]
          by_cases h3 : y = Str.ofString "out_size"
          · subst h3; simp [a3, h1, h2]
          simp only [h1, h2, h3, if_false]
        · exact hgood ((hq _ e).mp rfl) h' tk' g F'.keep hg
        · refine leave_new S F' hm rfl fun h'' hT => ?_
          exact hbad (fun z => by have := (hq _ e).mpr z; cases this) ex h'' tk' g hT hg
  · intro x hx
    revert x
    dsimp only [bodyOf, fdOf, top.o_82, fnS]
    decide
end
end Mine
namespace Mine
local macro_rules | `(tactic| k_room) => `(tactic| ((try simp only [depth_under_make, depth_under_kw, depth_in1, depth_deeper, depth_caller]); (try dsimp only [Ar]); omega))
local macro_rules | `(tactic| k_units) => `(tactic| ((try simp only [units_in1, units_deeper, Around.mark_units, units_caller]); (try dsimp only [Ar]); omega))
local macro_rules | `(tactic| cell_enter) => `(tactic| (refine' enterK ?k1 ?k2 ?k6 ?k7 ?k8 ?k9 ?kB ?_ ?c2 ?c3 ?c4 ?c5; (case k1 => assumption); (case k2 => exact TopRead.nolimit (by assumption)); (case k6 => k_is); (case k7 => k_is); (case k8 => k_room); (case k9 => first | exact BindsTo.of_eq rfl | exact binds_K (by assumption) rfl (by k_is) rfl rfl rfl | fail "k_enter: no rule for these arguments"); (case c5 => decide); (case kB => exact locs rfl); (case c2 => exact rfl); (case c3 => exact rfl); (case c4 => exact rfl); k_whole; intro L' h' F' N' kSz; (try dsimp only); (try k_fold)))
local macro_rules | `(tactic| walk_at "call type:bytes") => `(tactic| (k_here; (with_reducible show wpAny _ _ (call (Value.type _) [Value.bytes _ _]) _ _ _); (with_unfolding_all refine call_bytes_bytes ?_)))
local macro_rules | `(tactic| walk_at "joinParts") => `(tactic| (k_here; first | ((with_reducible refine joinParts_nilE ?_); (with_reducible refine joinParts_nil (hsz := ?hsz) ?_); (case hsz => k_dflt kt_le)) | ((with_reducible refine joinParts_nil (hsz := ?hsz) ?_); (case hsz => k_dflt kt_le))))
local macro_rules | `(tactic| walk_at "exec Raise some none") => `(tactic| (k_here; (with_reducible show wpAny _ _ (exec (Stmt.Raise (some (Expr.Call (Expr.Name _ _) (_ :: _) [] _)) none _) _) _ _ _); k_dflt (first
  | (refine' Raise_own2 ?F ?g ?O PySem.F.excBase_Exception ?hc PySem.F.excBase_ValueError ?h ?_ ?a ?b ?c ?d ?e; (case F => k_asm); (case g => exact TopRead.g (by k_asm)); (case O => exact own_of_in (by k_asm) (by k_asm) (by k_is) (by k_exc)); (case hc => rfl); (case h => first | rfl | assumption); (case a => rfl); (case b => rfl); (case c => rfl); (case d => rfl); (case e => decide); k_whole)
  | (refine' Raise_own2 ?F ?g ?O PySem.F.excBase_Exception ?hc PySem.F.excBase_TypeError ?h ?_ ?a ?b ?c ?d ?e; (case F => k_asm); (case g => exact TopRead.g (by k_asm)); (case O => exact own_of_in (by k_asm) (by k_asm) (by k_is) (by k_exc)); (case hc => rfl); (case h => first | rfl | assumption); (case a => rfl); (case b => rfl); (case c => rfl); (case d => rfl); (case e => decide); k_whole))))
local macro_rules | `(tactic| walk_at "call ref") => `(tactic| (k_here; (with_reducible show wpAny _ _ (call (Value.ref 80) [Value.bytes _ _]) _ _ _); k_dflt ((with_reducible rename Fr _ _ _ _ => FF); (with_reducible rename News _ _ _ _ => NN); (with_reducible rename TopRead _ _ _ _ _ => TT); refine' bfo_p _ _ ?kX ?kT ?kd ?ku ?_; (case kX => exact Frag.In.keeps (by assumption) FF.keep); (case kT => exact TopRead.keeps TT FF.keep); (case kd => k_room); (case ku => k_units); (intro  h' tk'  hk'; (have F' := Fr.keeps FF hk'); (have N' := News.keeps NN hk'); clear FF NN hk'; (try dsimp only at F' N' ⊢)))))

theorem bf3_p {w : World} {mg mb : Str → Option Value} {dp un : Nat} {outer : List Env} {gd : Option (List Code)} {s : Shared} {hz : Heap} {Q E : Value → Shared → Prop}
    (b : Array UInt8) (ks : List Int) (hb : KBw.bInts b = ks) (tb ti : Tok) (hsz : ks.length ≤ 4096)
    (S : Stand hz outer s.heap) (X : (KH w.params).In s.heap) (T : TopRead q lw mg mb s.heap) (hd : dp + 80 < recursionLimit) (hu : un + 520 < cLine)
    (hgood : ks.length = 23 → ∀ h' tk' g', Ext s.heap h' → (AllBare s.gens → AllBare g') → Q (.bytes b tb) { s with heap := h', toks := tk', gens := g' })
    (hbad : ks.length ≠ 23 → ∀ e h' tk' g', Thrown hz outer 58 e s.heap h' → (AllBare s.gens → AllBare g') → E (.ref e) { s with heap := h', toks := tk', gens := g' }) :
    wpAny (model RP w) (Ar dp un (some outer) gd) (call (.ref 80) [.bytes b tb, .int 23 ti]) Q E s :=
  wpAny_call (bf3_c (tb := tb) (ti := ti) hb hsz (by first | exact BindsTo.of_eq rfl | exact binds_K X rfl (by rfl) rfl rfl rfl) S X T hd hu hgood hbad)
local macro_rules | `(tactic| walk_at "call ref") => `(tactic| (k_here; (with_reducible show wpAny _ _ (call (Value.ref 80) [Value.bytes _ _, Value.int 23 _]) _ _ _); k_dflt ((with_reducible rename Fr _ _ _ _ => FF); (with_reducible rename News _ _ _ _ => NN); (with_reducible rename TopRead _ _ _ _ _ => TT); (with_reducible rename Stand _ _ _ => SS); refine' bf3_p _ _ ?kb _ _ ?ksz ?kS ?kX ?kT ?kd ?ku ?_ ?_; (case kb => assumption); (case ksz => assumption); (case kS => exact SS.push FF rfl); (case kX => exact Frag.In.keeps (by assumption) FF.keep); (case kT => exact TopRead.keeps TT FF.keep); (case kd => k_room); (case ku => k_units); all_goals first
  | (intro hlen e h' tk' g' hT hg'; (try dsimp only at hT hg' ⊢); done)
  | (intro hlen e h' tk' g' hT hg'; (have hTT : Thrown _ _ _ _ _ _ := hT); (try dsimp only at hTT hg' ⊢))
  | (intro hlen h' tk' g' hk' hg'; (have F' := Fr.keeps FF hk'); (have N' := News.keeps NN hk'); clear FF NN hk'; (try dsimp only at F' N' hg' ⊢)))))
def isP2 (ks : List Int) : Bool := ks.length == 23 && ks.getD (-1 + (ks.length : Int)).toNat 0 == 135 && ks.getD (Int.toNat 0) 0 == 169 && ks.getD (Int.toNat 1) 0 == 20
def isSw1 (ks : List Int) : Bool := ks.length != 0 && (ks.getD (Int.toNat 0) 0 == 0 || (decide (81 ≤ ks.getD (Int.toNat 0) 0) && decide (ks.getD (Int.toNat 0) 0 ≤ 96)))
def isSw2 (ks : List Int) : Bool := ks.length != 1 && decide (2 ≤ ks.getD (Int.toNat 1) 0) && decide (ks.getD (Int.toNat 1) 0 ≤ 40) && decide ((ks.length : Int) = ks.getD (Int.toNat 1) 0 + 2)
noncomputable abbrev aB (w : World) : List Stmt := bodyOf (fdOf (top.o_1128 w.params))
noncomputable abbrev aS (w : World) (i : Nat) : Stmt := (aB w).getD i (.Pass ⟨0, 0, 0, 0⟩)
noncomputable abbrev as_E (w : World) (L : Addr) : Env := envOf (Str.ofString "assert_segwit") (fdOf (top.o_1128 w.params)).scope L 712 (.ref 711)
theorem aB_is (w : World) : aB w = [aS w 0, aS w 1, aS w 2, aS w 3, aS w 4] := rfl

noncomputable abbrev ap_E (w : World) (L : Addr) : Env := envOf (Str.ofString "assert_p2sh") (fdOf (top.o_1114 w.params)).scope L 698 (.ref 697)

theorem ap_b {w : World} {mg mb : Str → Option Value} {dp un : Nat} {outer : List Env} {hz : Heap} {gd : Option (List Code)} {s : Shared} {E : Value → Shared → Prop}
    {h₀ : Heap} {L : Addr} {m : Str → Option Value} {news : List (Addr × Obj)} {Q : Flow → Shared → Prop} (b : Array UInt8) (ks : List Int) (hb : KBw.bInts b = ks) (tb : Tok) (hsz : ks.length ≤ 4096)
    (S : Stand hz outer h₀) (X : (KH w.params).In h₀) (T : TopRead q lw mg mb h₀) (F : Fr h₀ L s.heap (fun y => if y = Str.ofString "script_pub_key" then some (.bytes b tb) else m y)) (N : News h₀ L s.heap news) (hd : dp + 100 < recursionLimit) (hu : un + 560 < cLine)
    (hgood : isP2 ks = true → ∀ m' h' tk' g', Fr h₀ L h' m' → (AllBare s.gens → AllBare g') → Q .next { s with heap := h', toks := tk', gens := g' })
    (hmade : isP2 ks = false → ∀ vs m' h₂ h' tk' g' e, Fr h₀ L h₂ m' → Heap.MadeExcOf h₂ h' e (.ref 58) vs → (AllBare s.gens → AllBare g') → E (.ref e) { s with heap := h', toks := tk', gens := g' })
    (hthr : isP2 ks = false → ∀ m' h₂ h' tk' g' e, Fr h₀ L h₂ m' → Thrown hz (ap_E w L :: outer) 58 e h₂ h' → (AllBare s.gens → AllBare g') → E (.ref e) { s with heap := h', toks := tk', gens := g' }) :
    wpAny (model PySem.Challenge.rw_ez0016_01.prog w) (Ar dp un (some (ap_E w L :: outer)) gd) (execs (bodyOf (fdOf (top.o_1114 w.params))) (ap_E w L)) Q E s := by
  revert X; k_fill; intro X
  dsimp only [bodyOf, fdOf, top.o_1114, fnS, List.getD, List.getElem?_cons_succ, List.getElem?_cons_zero, Option.getD]
  k_steps
  all_goals (try (with_reducible rename Fr _ _ _ _ => FF))
  all_goals (try (with_reducible rename News _ _ _ _ => NN))
  all_goals first
    | exact hmade (by unfold isP2; simp only [Bool.and_eq_true, Bool.or_eq_true, Bool.and_eq_false_iff, Bool.or_eq_false_iff, beq_iff_eq, bne_iff_ne, decide_eq_true_eq, decide_eq_false_iff_not, beq_eq_false_iff_ne, bne_eq_false_iff_eq, ne_eq]; omega) _ _ _ _ _ _ _ FF (by with_reducible assumption) (by first | with_reducible assumption | exact fun h => h)
    | exact hthr (by unfold isP2; simp only [Bool.and_eq_true, Bool.or_eq_true, Bool.and_eq_false_iff, Bool.or_eq_false_iff, beq_iff_eq, bne_iff_ne, decide_eq_true_eq, decide_eq_false_iff_not, beq_eq_false_iff_ne, bne_eq_false_iff_eq, ne_eq]; omega) _ _ _ _ _ _ FF (by with_reducible assumption) (by first | with_reducible assumption | exact fun h => h)
    | exact hgood (by unfold isP2; simp only [Bool.and_eq_true, Bool.or_eq_true, Bool.and_eq_false_iff, Bool.or_eq_false_iff, beq_iff_eq, bne_iff_ne, decide_eq_true_eq, decide_eq_false_iff_not, beq_eq_false_iff_ne, bne_eq_false_iff_eq, ne_eq]; omega) _ _ _ _ FF (by first | with_reducible assumption | exact fun h => h)
    | trace_state

theorem as1 {w : World} {mg mb : Str → Option Value} {dp un : Nat} {outer : List Env} {hz : Heap} {gd : Option (List Code)} {s : Shared} {E : Value → Shared → Prop}
    {h₀ : Heap} {L : Addr} {m : Str → Option Value} {news : List (Addr × Obj)} {Q : Flow → Shared → Prop} (b : Array UInt8) (ks : List Int) (hb : KBw.bInts b = ks) (tb : Tok) (hsz : ks.length ≤ 4096)
    (S : Stand hz outer h₀) (X : (KH w.params).In h₀) (T : TopRead q lw mg mb h₀) (F : Fr h₀ L s.heap (fun y => if y = Str.ofString "script_pub_key" then some (.bytes b tb) else m y)) (N : News h₀ L s.heap news) (hd : dp + 100 < recursionLimit) (hu : un + 560 < cLine)
    (hgood : isSw1 ks = true → ∀ h' tk' g', Fr h₀ L h' (fun y => if y = Str.ofString "script_pub_key" then some (.bytes b tb) else m y) → (AllBare s.gens → AllBare g') → News h₀ L h' news → Q .next { s with heap := h', toks := tk', gens := g' })
    (hmade : isSw1 ks = false → ∀ vs m' h₂ h' tk' g' e, Fr h₀ L h₂ m' → Heap.MadeExcOf h₂ h' e (.ref 58) vs → (AllBare s.gens → AllBare g') → E (.ref e) { s with heap := h', toks := tk', gens := g' }) :
    wpAny (model PySem.Challenge.rw_ez0016_01.prog w) (Ar dp un (some (as_E w L :: outer)) gd) (execs [aS w 0, aS w 1, aS w 2] (as_E w L)) Q E s := by
  revert X; k_fill; intro X
  dsimp only [aS, aB, bodyOf, fdOf, top.o_1128, fnS, List.getD, List.getElem?_cons_succ, List.getElem?_cons_zero, Option.getD]
  k_steps
  all_goals (try (with_reducible rename Fr _ _ _ _ => FF))
  all_goals (try (with_reducible rename News _ _ _ _ => NN))
  all_goals first
    | exact hmade (by unfold isSw1; simp only [Bool.and_eq_true, Bool.or_eq_true, Bool.and_eq_false_iff, Bool.or_eq_false_iff, beq_iff_eq, bne_iff_ne, decide_eq_true_eq, decide_eq_false_iff_not, beq_eq_false_iff_ne, bne_eq_false_iff_eq, ne_eq]; omega) _ _ _ _ _ _ _ FF (by with_reducible assumption) (by first | with_reducible assumption | exact fun h => h)
    | exact hgood (by unfold isSw1; simp only [Bool.and_eq_true, Bool.or_eq_true, Bool.and_eq_false_iff, Bool.or_eq_false_iff, beq_iff_eq, bne_iff_ne, decide_eq_true_eq, decide_eq_false_iff_not, beq_eq_false_iff_ne, bne_eq_false_iff_eq, ne_eq]; omega) _ _ _ (fr_ext FF (fun y => by first | rfl | (by_cases h1 : y = Str.ofString "script_pub_key" <;> simp [h1]))) (by first | with_reducible assumption | exact fun h => h) NN
    | trace_state

theorem as2 {w : World} {mg mb : Str → Option Value} {dp un : Nat} {outer : List Env} {hz : Heap} {gd : Option (List Code)} {s : Shared} {E : Value → Shared → Prop}
    {h₀ : Heap} {L : Addr} {m : Str → Option Value} {news : List (Addr × Obj)} {Q : Flow → Shared → Prop} (b : Array UInt8) (ks : List Int) (hb : KBw.bInts b = ks) (tb : Tok) (hsz : ks.length ≤ 4096) (h1 : 1 ≤ ks.length)
    (S : Stand hz outer h₀) (X : (KH w.params).In h₀) (T : TopRead q lw mg mb h₀) (F : Fr h₀ L s.heap (fun y => if y = Str.ofString "script_pub_key" then some (.bytes b tb) else m y)) (N : News h₀ L s.heap news) (hd : dp + 100 < recursionLimit) (hu : un + 560 < cLine)
    (hgood : isSw2 ks = true → ∀ m' h' tk' g', Fr h₀ L h' m' → (AllBare s.gens → AllBare g') → Q .next { s with heap := h', toks := tk', gens := g' })
    (hmade : isSw2 ks = false → ∀ vs m' h₂ h' tk' g' e, Fr h₀ L h₂ m' → Heap.MadeExcOf h₂ h' e (.ref 58) vs → (AllBare s.gens → AllBare g') → E (.ref e) { s with heap := h', toks := tk', gens := g' }) :
    wpAny (model PySem.Challenge.rw_ez0016_01.prog w) (Ar dp un (some (as_E w L :: outer)) gd) (execs [aS w 3, aS w 4] (as_E w L)) Q E s := by
  revert X; k_fill; intro X
  dsimp only [aS, aB, bodyOf, fdOf, top.o_1128, fnS, List.getD, List.getElem?_cons_succ, List.getElem?_cons_zero, Option.getD]
  k_steps
  all_goals (try (with_reducible rename Fr _ _ _ _ => FF))
  all_goals (try (with_reducible rename News _ _ _ _ => NN))
  all_goals first
    | exact hmade (by unfold isSw2; simp only [Bool.and_eq_true, Bool.or_eq_true, Bool.and_eq_false_iff, Bool.or_eq_false_iff, beq_iff_eq, bne_iff_ne, decide_eq_true_eq, decide_eq_false_iff_not, beq_eq_false_iff_ne, bne_eq_false_iff_eq, ne_eq]; omega) _ _ _ _ _ _ _ FF (by with_reducible assumption) (by first | with_reducible assumption | exact fun h => h)
    | exact hgood (by unfold isSw2; simp only [Bool.and_eq_true, Bool.or_eq_true, Bool.and_eq_false_iff, Bool.or_eq_false_iff, beq_iff_eq, bne_iff_ne, decide_eq_true_eq, decide_eq_false_iff_not, beq_eq_false_iff_ne, bne_eq_false_iff_eq, ne_eq]; omega) _ _ _ _ FF (by first | with_reducible assumption | exact fun h => h)
    | trace_state
end Mine
namespace Mine
local macro_rules | `(tactic| k_room) => `(tactic| ((try simp only [depth_under_make, depth_under_kw, depth_in1, depth_deeper, depth_caller]); (try dsimp only [Ar]); omega))
local macro_rules | `(tactic| k_units) => `(tactic| ((try simp only [units_in1, units_deeper, Around.mark_units, units_caller]); (try dsimp only [Ar]); omega))
local macro_rules | `(tactic| cell_enter) => `(tactic| (refine' enterK ?k1 ?k2 ?k6 ?k7 ?k8 ?k9 ?kB ?_ ?c2 ?c3 ?c4 ?c5; (case k1 => assumption); (case k2 => exact TopRead.nolimit (by assumption)); (case k6 => k_is); (case k7 => k_is); (case k8 => k_room); (case k9 => first | exact BindsTo.of_eq rfl | exact binds_K (by assumption) rfl (by k_is) rfl rfl rfl | fail "k_enter: no rule for these arguments"); (case c5 => decide); (case kB => exact locs rfl); (case c2 => exact rfl); (case c3 => exact rfl); (case c4 => exact rfl); k_whole; intro L' h' F' N' kSz; (try dsimp only); (try k_fold)))
local macro_rules | `(tactic| walk_at "call type:bytes") => `(tactic| (k_here; (with_reducible show wpAny _ _ (call (Value.type _) [Value.bytes _ _]) _ _ _); (with_unfolding_all refine call_bytes_bytes ?_)))

section
variable {w : World} {mg mb : Str → Option Value} {dp un : Nat} {outer : List Env} {gd : Option (List Code)} {s : Shared} {h₀ : Heap}
theorem lookup1 {x : String} {v : Value} (y : Str) : List.lookup y [(Str.ofString x, v)] = if y = Str.ofString x then some v else none := by
  rw [List.lookup_cons]
  by_cases h1 : y = Str.ofString x
  · subst h1; simp
  · have e1 : (y == Str.ofString x) = false := by simp [h1]
    rw [e1, if_neg h1]; rfl
theorem lookup2 {x x' : String} {v v' : Value} (y : Str) : List.lookup y [(Str.ofString x, v), (Str.ofString x', v')] = if y = Str.ofString x then some v else if y = Str.ofString x' then some v' else none := by
  rw [List.lookup_cons, lookup1]
  by_cases h1 : y = Str.ofString x
  · subst h1; simp
  · have e1 : (y == Str.ofString x) = false := by simp [h1]
    rw [e1, if_neg h1]
theorem ap_c {b : Array UInt8} {ks : List Int} (hb : KBw.bInts b = ks) {tb : Tok} (hsz : ks.length ≤ 4096) {R : Result → Shared → Prop} {args : Args}
    (hbd : BindsTo s (fdOf (top.o_1114 w.params)) args [(Str.ofString "script_pub_key", .bytes b tb)])
    (S : Stand h₀ outer s.heap) (X : (KH w.params).In s.heap) (T : TopRead q lw mg mb s.heap) (hd : dp + 110 < recursionLimit) (hu : un + 580 < cLine)
    (hgood : isP2 ks = true → ∀ h' tk' g', Ext s.heap h' → (AllBare s.gens → AllBare g') → R (.ok (.ret .none)) { s with heap := h', toks := tk', gens := g' })
    (hbad : isP2 ks = false → ∀ e h' tk' g', Thrown h₀ outer 58 e s.heap h' → (AllBare s.gens → AllBare g') → R (.error (.ref e)) { s with heap := h', toks := tk', gens := g' }) :
    codeAny (model RP w) (Ar dp un (some outer) gd) (.call (.ref 698) args) R s := by
  refine enterK (K := KH w.params) (f := 698) X T.nolimit (by rfl) (by rfl) (by show dp < recursionLimit; omega) hbd (fun x hx => ?_) (fun L h₁ F N hL => ?_) (by rfl) (by rfl) (by rfl) ?_
  · simp only [List.mem_cons, List.not_mem_nil, or_false] at hx
    rcases hx with rfl <;> rfl
  · refine ap_b (dp := dp + 1) (un := un + 3) (outer := outer) (hz := h₀) (gd := gd) (h₀ := s.heap) (L := L) (m := fun _ => none) (news := []) b ks hb tb hsz S X T (fr_ext F fun y => lookup1 y) N (by omega) (by omega) (fun e m' h' tk' g' F' hg => hgood e h' tk' g' F'.keep hg)
      (fun e vs m' h₂ h' tk' g' ex F' hm hg => leave_new S F' hm rfl fun h'' hT => hbad e ex h'' tk' g' hT hg) (fun e m' h₂ h' tk' g' ex F' hT hg => leave_on F' hT fun h'' hT' => hbad e ex h'' tk' g' hT' hg)
  · intro x hx
    revert x
    dsimp only [bodyOf, fdOf, top.o_1114, fnS]
    decide
def isSw (ks : List Int) : Bool := isSw1 ks && isSw2 ks
theorem as_c {b : Array UInt8} {ks : List Int} (hb : KBw.bInts b = ks) {tb : Tok} (hsz : ks.length ≤ 4096) {R : Result → Shared → Prop} {args : Args}
    (hbd : BindsTo s (fdOf (top.o_1128 w.params)) args [(Str.ofString "script_pub_key", .bytes b tb)])
    (S : Stand h₀ outer s.heap) (X : (KH w.params).In s.heap) (T : TopRead q lw mg mb s.heap) (hd : dp + 110 < recursionLimit) (hu : un + 580 < cLine)
    (hgood : isSw ks = true → ∀ h' tk' g', Ext s.heap h' → (AllBare s.gens → AllBare g') → R (.ok (.ret .none)) { s with heap := h', toks := tk', gens := g' })
    (hbad : isSw ks = false → ∀ e h' tk' g', Thrown h₀ outer 58 e s.heap h' → (AllBare s.gens → AllBare g') → R (.error (.ref e)) { s with heap := h', toks := tk', gens := g' }) :
    codeAny (model RP w) (Ar dp un (some outer) gd) (.call (.ref 712) args) R s := by
  refine enterK (K := KH w.params) (f := 712) X T.nolimit (by rfl) (by rfl) (by show dp < recursionLimit; omega) hbd (fun x hx => ?_) (fun L h₁ F N hL => ?_) (by rfl) (by rfl) (by rfl) ?_
  · simp only [List.mem_cons, List.not_mem_nil, or_false] at hx
    rcases hx with rfl <;> rfl
  · refine wp_app [aS w 0, aS w 1, aS w 2] (rest := [aS w 3, aS w 4]) ?_
    refine as1 (dp := dp + 1) (un := un + 3) (outer := outer) (hz := h₀) (gd := gd) (h₀ := s.heap) (L := L) (m := fun _ => none) (news := []) b ks hb tb hsz S X T (fr_ext F fun y => lookup1 y) N (by omega) (by omega) (fun e h' tk' g' F' hg N' => ?_)
      (fun e vs m' h₂ h' tk' g' ex F' hm hg => leave_new S F' hm rfl fun h'' hT => hbad (by unfold isSw; rw [e]; rfl) ex h'' tk' g' hT hg)
    have h1 : 1 ≤ ks.length := by
      unfold isSw1 at e
      simp only [Bool.and_eq_true, bne_iff_ne] at e
      omega
    refine as2 (dp := dp + 1) (un := un + 3) (outer := outer) (hz := h₀) (gd := gd) (h₀ := s.heap) (L := L) (m := fun _ => none) (news := []) b ks hb tb hsz h1 S X T F' N' (by omega) (by omega) (fun e' m' h'' tk'' g'' F'' hg'' => hgood (by unfold isSw; rw [e, e']; rfl) h'' tk'' g'' F''.keep fun hb => hg'' (hg hb))
      (fun e' vs m' h₂ h'' tk'' g'' ex F'' hm hg'' => leave_new S F'' hm rfl fun h₃ hT => hbad (by unfold isSw; rw [e, e']; rfl) ex h₃ tk'' g'' hT fun hb => hg'' (hg hb))
  · intro x hx
    revert x
    dsimp only [bodyOf, fdOf, top.o_1128, fnS]
    decide
end
theorem fr_base {hz hb h : Heap} {outer : List Env} {L : Addr} {m : Str → Option Value} (S : Stand hz outer hb) (F : Fr hb L h m) : Fr hz L h m := ⟨F.ns, fun b o e => F.keep b o (S.stays b o e), Nat.le_trans S.size F.above⟩
theorem caught_own {w : World} {A₀ : Around} {E : Value → Shared → Prop} {s' : Shared} {hz hb h : Heap} {outer : List Env} {L a C e : Addr} {m : Str → Option Value} {name : Str} {scope : Scope} {cd V : Value} {t : Expr} {b₀ : Stmt} {suite : List Stmt} {pos : Pos} {rest : List ExceptHandler} {Q : Flow → Shared → Prop}
    (hst : A₀.frames = some outer) (S : Stand hz outer hb) (F : Fr hb L h m) (hT : Thrown hz (envOf name scope L a cd :: outer) C e h s'.heap)
    (hname : ∀ A' h' Q' E', Fr hz L h' m → (∀ tk, Q' V { s' with heap := h', toks := tk }) → wpAny (model RP w) A' (eval t (envOf name scope L a cd)) Q' E' { s' with heap := h' })
    (hmatch : ∀ A' h' tk (Q' : Bool → Shared → Prop) E', hz.StaysIn h' → (∃ oe, h'.get? e = some oe ∧ oe.cls = .ref C) → Q' true { s' with heap := h', toks := tk } → wpAny (model RP w) A' (excMatches (.ref e) V) Q' E' { s' with heap := h', toks := tk })
    (k : ∀ h' tk E', Fr hz L h' m → h.UpToSlots h' → wpAny (model RP w) ((A₀.deeper (envOf name scope L a cd)).mark (some (.ref e))) (execs (b₀ :: suite) (envOf name scope L a cd)) Q E' { s' with heap := h', toks := tk }) :
    wpAny (model RP w) (A₀.deeper (envOf name scope L a cd)) (noteFrame (.ref e) (envOf name scope L a cd))
      (fun _ s₂ => wpAny (model RP w) (A₀.deeper (envOf name scope L a cd)) (setFlight (.ref e) none) (fun _ s₃ =>
        wpAny (model RP w) (A₀.deeper (envOf name scope L a cd)) (handleBy (.ref e) (envOf name scope L a cd) (.ExceptHandler (some t) none (b₀ :: suite) pos :: rest)) Q E s₃) E s₂) E s' := by
  obtain ⟨⟨t', hfl⟩, hsm⟩ := hT
  have Fz := fr_base S F
  refine wpAny_looks_onW (Around.frames_deeper hst) rfl hfl fun h₄ hheld₄ hsm₄ => ?_
  refine wpAny_landsW hheld₄ fun h₅ hheld hsm₅' => ?_
  have hsm₅ := hsm₄.trans hsm₅'
  have F₅ := Fz.of_stays hheld.1 (hsm.trans hsm₅)
  refine wpAny_handleBy_cons (codeAny_handlers_test (hname _ _ _ _ F₅ fun tk => ?_)) (by intro q; cases q)
  refine hmatch _ _ _ _ _ hheld.1 hheld.there (codeAny_handlers_suite ?_)
  refine lands_againW hheld fun h₆ hfl₆ hsm₆ => ?_
  exact k h₆ tk _ (Fz.of_stays hfl₆.1 ((hsm.trans hsm₅).trans hsm₆)) ((hsm.trans hsm₅).trans hsm₆)
end Mine
namespace Mine
local macro_rules | `(tactic| k_room) => `(tactic| ((try simp only [depth_under_make, depth_under_kw, depth_in1, depth_deeper, depth_caller]); (try dsimp only [Ar]); omega))
local macro_rules | `(tactic| k_units) => `(tactic| ((try simp only [units_in1, units_deeper, Around.mark_units, units_caller]); (try dsimp only [Ar]); omega))
local macro_rules | `(tactic| cell_enter) => `(tactic| (refine' enterK ?k1 ?k2 ?k6 ?k7 ?k8 ?k9 ?kB ?_ ?c2 ?c3 ?c4 ?c5; (case k1 => assumption); (case k2 => exact TopRead.nolimit (by assumption)); (case k6 => k_is); (case k7 => k_is); (case k8 => k_room); (case k9 => first | exact BindsTo.of_eq rfl | exact binds_K (by assumption) rfl (by k_is) rfl rfl rfl | fail "k_enter: no rule for these arguments"); (case c5 => decide); (case kB => exact locs rfl); (case c2 => exact rfl); (case c3 => exact rfl); (case c4 => exact rfl); k_whole; intro L' h' F' N' kSz; (try dsimp only); (try k_fold)))
local macro_rules | `(tactic| walk_at "call type:bytes") => `(tactic| (k_here; (with_reducible show wpAny _ _ (call (Value.type _) [Value.bytes _ _]) _ _ _); (with_unfolding_all refine call_bytes_bytes ?_)))

noncomputable abbrev iB (w : World) : List Stmt := bodyOf (fdOf (top.o_1107 w.params))
noncomputable abbrev iS (w : World) (i : Nat) : Stmt := (iB w).getD i (.Pass ⟨0, 0, 0, 0⟩)
noncomputable abbrev if_E (w : World) (L : Addr) : Env := envOf (Str.ofString "_is_funct") (fdOf (top.o_1107 w.params)).scope L 691 (.ref 690)
abbrev tryBody (s : Stmt) : List Stmt := match s with | .Try b _ _ _ _ => b | _ => []
abbrev tryHs (s : Stmt) : List ExceptHandler := match s with | .Try _ h _ _ _ => h | _ => []
abbrev exType (h : ExceptHandler) : Expr := match h with | .ExceptHandler (some t) _ _ _ => t | _ => default
abbrev exBody (h : ExceptHandler) : List Stmt := match h with | .ExceptHandler _ _ b _ => b
abbrev firstH (l : List ExceptHandler) : ExceptHandler := l.getD 0 (.ExceptHandler none none [] ⟨0, 0, 0, 0⟩)
noncomputable abbrev iH (w : World) : ExceptHandler := firstH (tryHs (iS w 0))
noncomputable abbrev iR (w : World) : Stmt := (exBody (iH w)).getD 0 (.Pass ⟨0, 0, 0, 0⟩)
theorem iB_is (w : World) : ∃ p1 p2, iB w = [.Try (tryBody (iS w 0)) [.ExceptHandler (some (exType (iH w))) none [iR w] p1] [] [] p2, iS w 1] := ⟨_, _, rfl⟩
theorem ap_p {w : World} {mg mb : Str → Option Value} {dp un : Nat} {outer : List Env} {gd : Option (List Code)} {s : Shared} {hz : Heap} {Q E : Value → Shared → Prop}
    (b : Array UInt8) (ks : List Int) (hb : KBw.bInts b = ks) (tb : Tok) (hsz : ks.length ≤ 4096) (S : Stand hz outer s.heap) (X : (KH w.params).In s.heap) (T : TopRead q lw mg mb s.heap) (hd : dp + 110 < recursionLimit) (hu : un + 580 < cLine)
    (hgood : isP2 ks = true → ∀ h' tk' g', Ext s.heap h' → (AllBare s.gens → AllBare g') → Q .none { s with heap := h', toks := tk', gens := g' })
    (hbad : isP2 ks = false → ∀ e h' tk' g', Thrown hz outer 58 e s.heap h' → (AllBare s.gens → AllBare g') → E (.ref e) { s with heap := h', toks := tk', gens := g' }) :
    wpAny (model RP w) (Ar dp un (some outer) gd) (call (.ref 698) [.bytes b tb]) Q E s := wpAny_call (ap_c (tb := tb) hb hsz (BindsTo.of_eq rfl) S X T hd hu hgood hbad)
theorem as_p {w : World} {mg mb : Str → Option Value} {dp un : Nat} {outer : List Env} {gd : Option (List Code)} {s : Shared} {hz : Heap} {Q E : Value → Shared → Prop}
    (b : Array UInt8) (ks : List Int) (hb : KBw.bInts b = ks) (tb : Tok) (hsz : ks.length ≤ 4096) (S : Stand hz outer s.heap) (X : (KH w.params).In s.heap) (T : TopRead q lw mg mb s.heap) (hd : dp + 110 < recursionLimit) (hu : un + 580 < cLine)
    (hgood : isSw ks = true → ∀ h' tk' g', Ext s.heap h' → (AllBare s.gens → AllBare g') → Q .none { s with heap := h', toks := tk', gens := g' })
    (hbad : isSw ks = false → ∀ e h' tk' g', Thrown hz outer 58 e s.heap h' → (AllBare s.gens → AllBare g') → E (.ref e) { s with heap := h', toks := tk', gens := g' }) :
    wpAny (model RP w) (Ar dp un (some outer) gd) (call (.ref 712) [.bytes b tb]) Q E s := wpAny_call (as_c (tb := tb) hb hsz (BindsTo.of_eq rfl) S X T hd hu hgood hbad)
local macro_rules | `(tactic| walk_at "call ref") => `(tactic| (k_here; (with_reducible show wpAny _ _ (call (Value.ref 698) [Value.bytes _ _]) _ _ _); k_dflt ((with_reducible rename Fr _ _ _ _ => FF); (with_reducible rename News _ _ _ _ => NN); (with_reducible rename TopRead _ _ _ _ _ => TT); (with_reducible rename Stand _ _ _ => SS); refine' ap_p _ _ ?kb _ ?ksz ?kS ?kX ?kT ?kd ?ku ?_ ?_; (case kb => assumption); (case ksz => assumption); (case kS => exact SS.push FF rfl); (case kX => exact Frag.In.keeps (by assumption) FF.keep); (case kT => exact TopRead.keeps TT FF.keep); (case kd => k_room); (case ku => k_units); all_goals first
  | (intro hlen e h' tk' g' hT hg'; (have hTT : Thrown _ _ _ _ _ _ := hT); (try dsimp only at hTT hg' ⊢))
  | (intro hlen h' tk' g' hk' hg'; (have F' := Fr.keeps FF hk'); (have N' := News.keeps NN hk'); clear FF NN hk'; (try dsimp only at F' N' hg' ⊢)))))
local macro_rules | `(tactic| walk_at "call ref") => `(tactic| (k_here; (with_reducible show wpAny _ _ (call (Value.ref 712) [Value.bytes _ _]) _ _ _); k_dflt ((with_reducible rename Fr _ _ _ _ => FF); (with_reducible rename News _ _ _ _ => NN); (with_reducible rename TopRead _ _ _ _ _ => TT); (with_reducible rename Stand _ _ _ => SS); refine' as_p _ _ ?kb _ ?ksz ?kS ?kX ?kT ?kd ?ku ?_ ?_; (case kb => assumption); (case ksz => assumption); (case kS => exact SS.push FF rfl); (case kX => exact Frag.In.keeps (by assumption) FF.keep); (case kT => exact TopRead.keeps TT FF.keep); (case kd => k_room); (case ku => k_units); all_goals first
  | (intro hlen e h' tk' g' hT hg'; (have hTT : Thrown _ _ _ _ _ _ := hT); (try dsimp only at hTT hg' ⊢))
  | (intro hlen h' tk' g' hk' hg'; (have F' := Fr.keeps FF hk'); (have N' := News.keeps NN hk'); clear FF NN hk'; (try dsimp only at F' N' hg' ⊢)))))

theorem it698 {w : World} {mg mb : Str → Option Value} {dp un : Nat} {outer : List Env} {hz : Heap} {gd : Option (List Code)} {s : Shared} {E : Value → Shared → Prop}
    {h₀ : Heap} {L : Addr} {m : Str → Option Value} {news : List (Addr × Obj)} {Q : Flow → Shared → Prop} (b : Array UInt8) (ks : List Int) (hb : KBw.bInts b = ks) (tb : Tok) (hsz : ks.length ≤ 4096)
    (S : Stand hz outer h₀) (X : (KH w.params).In h₀) (T : TopRead q lw mg mb h₀) (F : Fr h₀ L s.heap (fun y => if y = Str.ofString "assert_funct" then some (.ref 698) else if y = Str.ofString "script_pub_key" then some (.bytes b tb) else m y)) (N : News h₀ L s.heap news) (hd : dp + 150 < recursionLimit) (hu : un + 640 < cLine)
    (hok : isP2 ks = true → ∀ h' tk' g', Fr h₀ L h' (fun y => if y = Str.ofString "assert_funct" then some (.ref 698) else if y = Str.ofString "script_pub_key" then some (.bytes b tb) else m y) → News h₀ L h' news → (AllBare s.gens → AllBare g') → Q .next { s with heap := h', toks := tk', gens := g' })
    (hex : isP2 ks = false → ∀ h₂ h' tk' g' e, Fr h₀ L h₂ (fun y => if y = Str.ofString "assert_funct" then some (.ref 698) else if y = Str.ofString "script_pub_key" then some (.bytes b tb) else m y) → Thrown hz (if_E w L :: outer) 58 e h₂ h' → (AllBare s.gens → AllBare g') → E (.ref e) { s with heap := h', toks := tk', gens := g' }) :
    wpAny (model PySem.Challenge.rw_ez0016_01.prog w) (Ar dp un (some (if_E w L :: outer)) gd) (execs (tryBody (iS w 0)) (if_E w L)) Q E s := by
  revert X; k_fill; intro X
  dsimp only [iR, iH, firstH, exBody, exType, tryHs, tryBody, iS, iB, bodyOf, fdOf, top.o_1107, fnS, List.getD, List.getElem?_cons_succ, List.getElem?_cons_zero, Option.getD]
  k_steps
  all_goals (try (with_reducible rename Fr _ _ _ _ => FF))
  all_goals (try (with_reducible rename News _ _ _ _ => NN))
  all_goals first
    | exact hok (by with_reducible assumption) _ _ _ FF NN (by with_reducible assumption)
    | exact hex (by with_reducible assumption) _ _ _ _ _ FF (by with_reducible assumption) (by with_reducible assumption)
    | trace_state

theorem it712 {w : World} {mg mb : Str → Option Value} {dp un : Nat} {outer : List Env} {hz : Heap} {gd : Option (List Code)} {s : Shared} {E : Value → Shared → Prop}
    {h₀ : Heap} {L : Addr} {m : Str → Option Value} {news : List (Addr × Obj)} {Q : Flow → Shared → Prop} (b : Array UInt8) (ks : List Int) (hb : KBw.bInts b = ks) (tb : Tok) (hsz : ks.length ≤ 4096)
    (S : Stand hz outer h₀) (X : (KH w.params).In h₀) (T : TopRead q lw mg mb h₀) (F : Fr h₀ L s.heap (fun y => if y = Str.ofString "assert_funct" then some (.ref 712) else if y = Str.ofString "script_pub_key" then some (.bytes b tb) else m y)) (N : News h₀ L s.heap news) (hd : dp + 150 < recursionLimit) (hu : un + 640 < cLine)
    (hok : isSw ks = true → ∀ h' tk' g', Fr h₀ L h' (fun y => if y = Str.ofString "assert_funct" then some (.ref 712) else if y = Str.ofString "script_pub_key" then some (.bytes b tb) else m y) → News h₀ L h' news → (AllBare s.gens → AllBare g') → Q .next { s with heap := h', toks := tk', gens := g' })
    (hex : isSw ks = false → ∀ h₂ h' tk' g' e, Fr h₀ L h₂ (fun y => if y = Str.ofString "assert_funct" then some (.ref 712) else if y = Str.ofString "script_pub_key" then some (.bytes b tb) else m y) → Thrown hz (if_E w L :: outer) 58 e h₂ h' → (AllBare s.gens → AllBare g') → E (.ref e) { s with heap := h', toks := tk', gens := g' }) :
    wpAny (model PySem.Challenge.rw_ez0016_01.prog w) (Ar dp un (some (if_E w L :: outer)) gd) (execs (tryBody (iS w 0)) (if_E w L)) Q E s := by
  revert X; k_fill; intro X
  dsimp only [iR, iH, firstH, exBody, exType, tryHs, tryBody, iS, iB, bodyOf, fdOf, top.o_1107, fnS, List.getD, List.getElem?_cons_succ, List.getElem?_cons_zero, Option.getD]
  k_steps
  all_goals (try (with_reducible rename Fr _ _ _ _ => FF))
  all_goals (try (with_reducible rename News _ _ _ _ => NN))
  all_goals first
    | exact hok (by with_reducible assumption) _ _ _ FF NN (by with_reducible assumption)
    | exact hex (by with_reducible assumption) _ _ _ _ _ FF (by with_reducible assumption) (by with_reducible assumption)
    | trace_state

theorem i_name {w : World} {mg mb : Str → Option Value} {dp un : Nat} {fr : Option (List Env)} {gd : Option (List Code)} {s : Shared} {E : Value → Shared → Prop}
    {A : Around} {h₀ : Heap} {L : Addr} {m : Str → Option Value} {news : List (Addr × Obj)} {Q : Value → Shared → Prop} 
    (X : (KH w.params).In h₀) (T : TopRead q lw mg mb h₀) (F : Fr h₀ L s.heap m) (N : News h₀ L s.heap news) (hd : dp + 30 < recursionLimit) (hu : un + 230 < cLine)
    (hret : ∀ tk', Q (.type "ValueError") { s with toks := tk' }) :
    wpAny (model PySem.Challenge.rw_ez0016_01.prog w) A (eval (exType (iH w)) (if_E w L)) Q E s := by
  revert X; k_fill; intro X
  dsimp only [iR, iH, firstH, exBody, exType, tryHs, tryBody, iS, iB, bodyOf, fdOf, top.o_1107, fnS, List.getD, List.getElem?_cons_succ, List.getElem?_cons_zero, Option.getD]
  k_steps
  all_goals (try (with_reducible rename Fr _ _ _ _ => FF))
  all_goals (try (with_reducible rename News _ _ _ _ => NN))
  exact hret _

theorem i_no {w : World} {mg mb : Str → Option Value} {dp un : Nat} {fr : Option (List Env)} {gd : Option (List Code)} {s : Shared} {E : Value → Shared → Prop}
    {A : Around} {h₀ : Heap} {L : Addr} {m : Str → Option Value} {news : List (Addr × Obj)} {Q : Flow → Shared → Prop} 
    (X : (KH w.params).In h₀) (T : TopRead q lw mg mb h₀) (F : Fr h₀ L s.heap m) (N : News h₀ L s.heap news) (hd : dp + 30 < recursionLimit) (hu : un + 230 < cLine)
    (hret : ∀ tk', Q (.ret (.bool false)) { s with toks := tk' }) :
    wpAny (model PySem.Challenge.rw_ez0016_01.prog w) A (execs [iR w] (if_E w L)) Q E s := by
  revert X; k_fill; intro X
  dsimp only [iR, iH, firstH, exBody, exType, tryHs, tryBody, iS, iB, bodyOf, fdOf, top.o_1107, fnS, List.getD, List.getElem?_cons_succ, List.getElem?_cons_zero, Option.getD]
  k_steps
  all_goals (try (with_reducible rename Fr _ _ _ _ => FF))
  all_goals (try (with_reducible rename News _ _ _ _ => NN))
  exact hret _

theorem i_yes {w : World} {mg mb : Str → Option Value} {dp un : Nat} {fr : Option (List Env)} {gd : Option (List Code)} {s : Shared} {E : Value → Shared → Prop}
    {A : Around} {h₀ : Heap} {L : Addr} {m : Str → Option Value} {news : List (Addr × Obj)} {Q : Flow → Shared → Prop} 
    (X : (KH w.params).In h₀) (T : TopRead q lw mg mb h₀) (F : Fr h₀ L s.heap m) (N : News h₀ L s.heap news) (hd : dp + 30 < recursionLimit) (hu : un + 230 < cLine)
    (hret : ∀ tk', Q (.ret (.bool true)) { s with toks := tk' }) :
    wpAny (model PySem.Challenge.rw_ez0016_01.prog w) A (execs [iS w 1] (if_E w L)) Q E s := by
  revert X; k_fill; intro X
  dsimp only [iR, iH, firstH, exBody, exType, tryHs, tryBody, iS, iB, bodyOf, fdOf, top.o_1107, fnS, List.getD, List.getElem?_cons_succ, List.getElem?_cons_zero, Option.getD]
  k_steps
  all_goals (try (with_reducible rename Fr _ _ _ _ => FF))
  all_goals (try (with_reducible rename News _ _ _ _ => NN))
  exact hret _

theorem if698_c {w : World} {mg mb : Str → Option Value} {dp un : Nat} {outer : List Env} {gd : Option (List Code)} {s : Shared} {hz : Heap} {b : Array UInt8} {ks : List Int} (hb : KBw.bInts b = ks) {tb : Tok} (hsz : ks.length ≤ 4096) {R : Result → Shared → Prop} {args : Args}
    (hbd : BindsTo s (fdOf (top.o_1107 w.params)) args [(Str.ofString "assert_funct", .ref 698), (Str.ofString "script_pub_key", .bytes b tb)])
    (S : Stand hz outer s.heap) (X : (KH w.params).In hz) (T : TopRead q lw mg mb hz) (hd : dp + 160 < recursionLimit) (hu : un + 660 < cLine)
    (hret : ∀ h' tk' g', hz.StaysIn h' → s.heap.UpToSlots h' → (AllBare s.gens → AllBare g') → R (.ok (.ret (.bool (isP2 ks)))) { s with heap := h', toks := tk', gens := g' }) :
    codeAny (model RP w) (Ar dp un (some outer) gd) (.call (.ref 691) args) R s := by
  have Xs := X.keeps S.stays
  have Ts := T.keeps S.stays
  refine enterK (K := KH w.params) (f := 691) Xs Ts.nolimit (by rfl) (by rfl) (by show dp < recursionLimit; omega) hbd (fun x hx => ?_) (fun L h₁ F N hL => ?_) (by rfl) (by rfl) (by rfl) ?_
  · simp only [List.mem_cons, List.not_mem_nil, or_false] at hx
    rcases hx with rfl | rfl <;> rfl
  · show wpAny (model RP w) ((Ar dp un (some outer) gd).deeper (if_E w L)) (execs (iB w) (if_E w L)) _ _ _
    obtain ⟨p1, p2, hB⟩ := iB_is w
    rw [hB]
    refine wpAny_execs_cons (wpAny_Try_except ?_)
    refine it698 (dp := dp + 1) (un := un + 3) (outer := outer) (hz := hz) (gd := gd) (h₀ := s.heap) (L := L) (m := fun _ => none) (news := []) b ks hb tb hsz S Xs Ts (fr_ext F fun y => ?_) N (by omega) (by omega) (fun e h' tk' g' F' N' hg => ?_) (fun e h₂ h' tk' g' ex F' hT hg => ?_)
    · show List.lookup y [(Str.ofString "script_pub_key", Value.bytes b tb), (Str.ofString "assert_funct", Value.ref 698)] = _
      rw [lookup2]
      by_cases h1 : y = Str.ofString "script_pub_key"
      · subst h1; rfl
      · simp only [h1, if_false]
    · refine wpAny_execs_nil ?_
      refine i_yes (dp := dp) (un := un) (fr := none) (gd := none) Xs Ts F' N' (by omega) (by omega) fun tk => ?_
      have := hret h' tk g' (fun b o e => F'.keep b o (S.stays b o e)) (Heap.UpToSlots.of_keeps F'.keep) hg
      rw [e] at this
      exact this
    · refine caught_own (V := .type "ValueError") (m := fun y => if y = Str.ofString "assert_funct" then some (.ref 698) else if y = Str.ofString "script_pub_key" then some (.bytes b tb) else none) (by rfl) S F' hT (fun A' h₃ Q' E' F₃ hQ => ?_) (fun A' h₃ tk Q' E' hst he hQ => ?_) (fun h₃ tk E' F₃ hup => ?_)
      · exact i_name (dp := dp) (un := un) (fr := none) (gd := none) (news := []) X T F₃ News.nil (by omega) (by omega) fun tk => hQ tk
      · obtain ⟨oe, he, hc⟩ := he
        have h58 := X 58 _ (by rfl)
        have h58' := hst _ _ h58
        with_reducible refine' wpAny_excMatches_sub_type (bm := [.ref 45, .type "ValueError", .type "Exception", .type "BaseException", .type "object"]) ?hC he hc PySem.F.isExc_ValueError PySem.F.notTuple_ValueError ?_
        case hC => exact h58'
        rw [show ([.ref 45, .type "ValueError", .type "Exception", .type "BaseException", .type "object"] : List Value).contains (.type "ValueError") = true from by simp]
        exact hQ
      · refine i_no (dp := dp) (un := un) (fr := none) (gd := none) (news := []) X T F₃ News.nil (by omega) (by omega) fun tk => ?_
        have := hret h₃ tk g' F₃.keep ((Heap.UpToSlots.of_keeps F'.keep).trans hup) hg
        rw [e] at this
        exact this
  · intro x hx
    revert x
    dsimp only [bodyOf, fdOf, top.o_1107, fnS]
    decide

theorem if712_c {w : World} {mg mb : Str → Option Value} {dp un : Nat} {outer : List Env} {gd : Option (List Code)} {s : Shared} {hz : Heap} {b : Array UInt8} {ks : List Int} (hb : KBw.bInts b = ks) {tb : Tok} (hsz : ks.length ≤ 4096) {R : Result → Shared → Prop} {args : Args}
    (hbd : BindsTo s (fdOf (top.o_1107 w.params)) args [(Str.ofString "assert_funct", .ref 712), (Str.ofString "script_pub_key", .bytes b tb)])
    (S : Stand hz outer s.heap) (X : (KH w.params).In hz) (T : TopRead q lw mg mb hz) (hd : dp + 160 < recursionLimit) (hu : un + 660 < cLine)
    (hret : ∀ h' tk' g', hz.StaysIn h' → s.heap.UpToSlots h' → (AllBare s.gens → AllBare g') → R (.ok (.ret (.bool (isSw ks)))) { s with heap := h', toks := tk', gens := g' }) :
    codeAny (model RP w) (Ar dp un (some outer) gd) (.call (.ref 691) args) R s := by
  have Xs := X.keeps S.stays
  have Ts := T.keeps S.stays
  refine enterK (K := KH w.params) (f := 691) Xs Ts.nolimit (by rfl) (by rfl) (by show dp < recursionLimit; omega) hbd (fun x hx => ?_) (fun L h₁ F N hL => ?_) (by rfl) (by rfl) (by rfl) ?_
  · simp only [List.mem_cons, List.not_mem_nil, or_false] at hx
    rcases hx with rfl | rfl <;> rfl
  · show wpAny (model RP w) ((Ar dp un (some outer) gd).deeper (if_E w L)) (execs (iB w) (if_E w L)) _ _ _
    obtain ⟨p1, p2, hB⟩ := iB_is w
    rw [hB]
    refine wpAny_execs_cons (wpAny_Try_except ?_)
    refine it712 (dp := dp + 1) (un := un + 3) (outer := outer) (hz := hz) (gd := gd) (h₀ := s.heap) (L := L) (m := fun _ => none) (news := []) b ks hb tb hsz S Xs Ts (fr_ext F fun y => ?_) N (by omega) (by omega) (fun e h' tk' g' F' N' hg => ?_) (fun e h₂ h' tk' g' ex F' hT hg => ?_)
    · show List.lookup y [(Str.ofString "script_pub_key", Value.bytes b tb), (Str.ofString "assert_funct", Value.ref 712)] = _
      rw [lookup2]
      by_cases h1 : y = Str.ofString "script_pub_key"
      · subst h1; rfl
      · simp only [h1, if_false]
    · refine wpAny_execs_nil ?_
      refine i_yes (dp := dp) (un := un) (fr := none) (gd := none) Xs Ts F' N' (by omega) (by omega) fun tk => ?_
      have := hret h' tk g' (fun b o e => F'.keep b o (S.stays b o e)) (Heap.UpToSlots.of_keeps F'.keep) hg
      rw [e] at this
      exact this
    · refine caught_own (V := .type "ValueError") (m := fun y => if y = Str.ofString "assert_funct" then some (.ref 712) else if y = Str.ofString "script_pub_key" then some (.bytes b tb) else none) (by rfl) S F' hT (fun A' h₃ Q' E' F₃ hQ => ?_) (fun A' h₃ tk Q' E' hst he hQ => ?_) (fun h₃ tk E' F₃ hup => ?_)
      · exact i_name (dp := dp) (un := un) (fr := none) (gd := none) (news := []) X T F₃ News.nil (by omega) (by omega) fun tk => hQ tk
      · obtain ⟨oe, he, hc⟩ := he
        have h58 := X 58 _ (by rfl)
        have h58' := hst _ _ h58
        with_reducible refine' wpAny_excMatches_sub_type (bm := [.ref 45, .type "ValueError", .type "Exception", .type "BaseException", .type "object"]) ?hC he hc PySem.F.isExc_ValueError PySem.F.notTuple_ValueError ?_
        case hC => exact h58'
        rw [show ([.ref 45, .type "ValueError", .type "Exception", .type "BaseException", .type "object"] : List Value).contains (.type "ValueError") = true from by simp]
        exact hQ
      · refine i_no (dp := dp) (un := un) (fr := none) (gd := none) (news := []) X T F₃ News.nil (by omega) (by omega) fun tk => ?_
        have := hret h₃ tk g' F₃.keep ((Heap.UpToSlots.of_keeps F'.keep).trans hup) hg
        rw [e] at this
        exact this
  · intro x hx
    revert x
    dsimp only [bodyOf, fdOf, top.o_1107, fnS]
    decide
end Mine
namespace Mine
local macro_rules | `(tactic| walk_at "zz") => `(tactic| fail "zz")
local macro_rules | `(tactic| k_room) => `(tactic| ((try simp only [depth_under_make, depth_under_kw, depth_in1, depth_deeper, depth_caller]); (try dsimp only [Ar]); omega))
local macro_rules | `(tactic| k_units) => `(tactic| ((try simp only [units_in1, units_deeper, Around.mark_units, units_caller]); (try dsimp only [Ar]); omega))
local macro_rules | `(tactic| cell_enter) => `(tactic| (refine' enterK ?k1 ?k2 ?k6 ?k7 ?k8 ?k9 ?kB ?_ ?c2 ?c3 ?c4 ?c5; (case k1 => assumption); (case k2 => exact TopRead.nolimit (by assumption)); (case k6 => k_is); (case k7 => k_is); (case k8 => k_room); (case k9 => first | exact BindsTo.of_eq rfl | exact binds_K (by assumption) rfl (by k_is) rfl rfl rfl | fail "k_enter: no rule for these arguments"); (case c5 => decide); (case kB => exact locs rfl); (case c2 => exact rfl); (case c3 => exact rfl); (case c4 => exact rfl); k_whole; intro L' h' F' N' kSz; (try dsimp only); (try k_fold)))
local macro_rules | `(tactic| walk_at "call type:bytes") => `(tactic| (k_here; (with_reducible show wpAny _ _ (call (Value.type _) [Value.bytes _ _]) _ _ _); (with_unfolding_all refine call_bytes_bytes ?_)))

structure Zed (w : World) (mg mb : Str → Option Value) (hz : Heap) : Prop where
  x : (KH w.params).In hz
  t : TopRead q lw mg mb hz

theorem if698_p {w : World} {mg mb : Str → Option Value} {dp un : Nat} {outer : List Env} {gd : Option (List Code)} {s : Shared} {hz : Heap} {Q E : Value → Shared → Prop} (b : Array UInt8) (ks : List Int) (hb : KBw.bInts b = ks) (tb : Tok) (hsz : ks.length ≤ 4096) (S : Stand hz outer s.heap) (Z : Zed w mg mb hz) (hd : dp + 160 < recursionLimit) (hu : un + 660 < cLine)
    (hret : ∀ h' tk' g', hz.StaysIn h' → s.heap.UpToSlots h' → (AllBare s.gens → AllBare g') → Q (.bool (isP2 ks)) { s with heap := h', toks := tk', gens := g' }) :
    wpAny (model RP w) (Ar dp un (some outer) gd) (call (.ref 691) [.ref 698, .bytes b tb]) Q E s := wpAny_call (if698_c (tb := tb) hb hsz (BindsTo.of_eq rfl) S Z.x Z.t hd hu hret)

theorem if712_p {w : World} {mg mb : Str → Option Value} {dp un : Nat} {outer : List Env} {gd : Option (List Code)} {s : Shared} {hz : Heap} {Q E : Value → Shared → Prop} (b : Array UInt8) (ks : List Int) (hb : KBw.bInts b = ks) (tb : Tok) (hsz : ks.length ≤ 4096) (S : Stand hz outer s.heap) (Z : Zed w mg mb hz) (hd : dp + 160 < recursionLimit) (hu : un + 660 < cLine)
    (hret : ∀ h' tk' g', hz.StaysIn h' → s.heap.UpToSlots h' → (AllBare s.gens → AllBare g') → Q (.bool (isSw ks)) { s with heap := h', toks := tk', gens := g' }) :
    wpAny (model RP w) (Ar dp un (some outer) gd) (call (.ref 691) [.ref 712, .bytes b tb]) Q E s := wpAny_call (if712_c (tb := tb) hb hsz (BindsTo.of_eq rfl) S Z.x Z.t hd hu hret)
local macro_rules | `(tactic| walk_at "call ref") => `(tactic| (k_here; (with_reducible show wpAny _ _ (call (Value.ref 691) [Value.ref 698, Value.bytes _ _]) _ _ _); k_dflt ((with_reducible rename Fr _ _ _ _ => FF); (with_reducible rename News _ _ _ _ => NN); (with_reducible rename Stand _ _ _ => SS); (with_reducible rename Zed _ _ _ _ => ZZ); refine' if698_p _ _ ?kb _ ?ksz ?kS ?kZ ?kd ?ku ?_; (case kb => assumption); (case ksz => assumption); (case kS => exact SS.push FF rfl); (case kZ => exact ZZ); (case kd => k_room); (case ku => k_units); (intro h' tk' g' hst' hup' hg'; clear NN; (try dsimp only at hst' hup' hg' ⊢)))))
local macro_rules | `(tactic| walk_at "call ref") => `(tactic| (k_here; (with_reducible show wpAny _ _ (call (Value.ref 691) [Value.ref 712, Value.bytes _ _]) _ _ _); k_dflt ((with_reducible rename Fr _ _ _ _ => FF); (with_reducible rename News _ _ _ _ => NN); (with_reducible rename Stand _ _ _ => SS); (with_reducible rename Zed _ _ _ _ => ZZ); refine' if712_p _ _ ?kb _ ?ksz ?kS ?kZ ?kd ?ku ?_; (case kb => assumption); (case ksz => assumption); (case kS => exact SS.push FF rfl); (case kZ => exact ZZ); (case kd => k_room); (case ku => k_units); (intro h' tk' g' hst' hup' hg'; clear NN; (try dsimp only at hst' hup' hg' ⊢)))))

noncomputable abbrev ip_E (w : World) (L : Addr) : Env := envOf (Str.ofString "is_p2sh") (fdOf (top.o_1121 w.params)).scope L 705 (.ref 704)

theorem ip_b {w : World} {mg mb : Str → Option Value} {dp un : Nat} {outer : List Env} {hz : Heap} {gd : Option (List Code)} {s : Shared} {E : Value → Shared → Prop}
    {h₀ : Heap} {L : Addr} {m : Str → Option Value} {news : List (Addr × Obj)} {Q : Flow → Shared → Prop} (b : Array UInt8) (ks : List Int) (hb : KBw.bInts b = ks) (tb : Tok) (hsz : ks.length ≤ 4096)
    (S : Stand hz outer h₀) (Z : Zed w mg mb hz) (X : (KH w.params).In h₀) (T : TopRead q lw mg mb h₀) (F : Fr h₀ L s.heap (fun y => if y = Str.ofString "script_pub_key" then some (.bytes b tb) else m y)) (N : News h₀ L s.heap news) (hd : dp + 200 < recursionLimit) (hu : un + 700 < cLine)
    (hret : ∀ h₂ m' h' tk' g', Fr h₀ L h₂ m' → hz.StaysIn h' → h₂.UpToSlots h' → (AllBare s.gens → AllBare g') → Q (.ret (.bool (isP2 ks))) { s with heap := h', toks := tk', gens := g' }) :
    wpAny (model PySem.Challenge.rw_ez0016_01.prog w) (Ar dp un (some (ip_E w L :: outer)) gd) (execs (bodyOf (fdOf (top.o_1121 w.params))) (ip_E w L)) Q E s := by
  revert X; k_fill; intro X
  dsimp only [bodyOf, fdOf, top.o_1121, fnS, List.getD, List.getElem?_cons_succ, List.getElem?_cons_zero, Option.getD]
  k_steps
  all_goals (try (with_reducible rename Fr _ _ _ _ => FF))
  all_goals (try (with_reducible rename News _ _ _ _ => NN))
  exact hret _ _ _ _ _ FF (by with_reducible assumption) (by with_reducible assumption) (by with_reducible assumption)

theorem ip_c {w : World} {mg mb : Str → Option Value} {dp un : Nat} {outer : List Env} {gd : Option (List Code)} {s : Shared} {hz : Heap} {b : Array UInt8} {ks : List Int} (hb : KBw.bInts b = ks) {tb : Tok} (hsz : ks.length ≤ 4096) {R : Result → Shared → Prop} {args : Args}
    (hbd : BindsTo s (fdOf (top.o_1121 w.params)) args [(Str.ofString "script_pub_key", .bytes b tb)])
    (S : Stand hz outer s.heap) (Z : Zed w mg mb hz) (hd : dp + 210 < recursionLimit) (hu : un + 720 < cLine)
    (hret : ∀ h' tk' g', hz.StaysIn h' → s.heap.UpToSlots h' → (AllBare s.gens → AllBare g') → R (.ok (.ret (.bool (isP2 ks)))) { s with heap := h', toks := tk', gens := g' }) :
    codeAny (model RP w) (Ar dp un (some outer) gd) (.call (.ref 705) args) R s := by
  have Xs := Z.x.keeps S.stays
  have Ts := Z.t.keeps S.stays
  refine enterK (K := KH w.params) (f := 705) Xs Ts.nolimit (by rfl) (by rfl) (by show dp < recursionLimit; omega) hbd (fun x hx => ?_) (fun L h₁ F N hL => ?_) (by rfl) (by rfl) (by rfl) ?_
  · simp only [List.mem_cons, List.not_mem_nil, or_false] at hx
    rcases hx with rfl <;> rfl
  · exact ip_b (dp := dp + 1) (un := un + 3) (outer := outer) (hz := hz) (gd := gd) (h₀ := s.heap) (L := L) (m := fun _ => none) (news := []) b ks hb tb hsz S Z Xs Ts (fr_ext F fun y => lookup1 y) N (by omega) (by omega)
      (fun h₂ m' h' tk' g' F' hst hup hg => hret h' tk' g' hst ((Heap.UpToSlots.of_keeps F'.keep).trans hup) hg)
  · intro x hx
    revert x
    dsimp only [bodyOf, fdOf, top.o_1121, fnS]
    decide
theorem ip_p {w : World} {mg mb : Str → Option Value} {dp un : Nat} {outer : List Env} {gd : Option (List Code)} {s : Shared} {hz : Heap} {Q E : Value → Shared → Prop} (b : Array UInt8) (ks : List Int) (hb : KBw.bInts b = ks) (tb : Tok) (hsz : ks.length ≤ 4096) (S : Stand hz outer s.heap) (Z : Zed w mg mb hz) (hd : dp + 210 < recursionLimit) (hu : un + 720 < cLine)
    (hret : ∀ h' tk' g', hz.StaysIn h' → s.heap.UpToSlots h' → (AllBare s.gens → AllBare g') → Q (.bool (isP2 ks)) { s with heap := h', toks := tk', gens := g' }) :
    wpAny (model RP w) (Ar dp un (some outer) gd) (call (.ref 705) [.bytes b tb]) Q E s := wpAny_call (ip_c (tb := tb) hb hsz (BindsTo.of_eq rfl) S Z hd hu hret)

noncomputable abbrev iw_E (w : World) (L : Addr) : Env := envOf (Str.ofString "is_segwit") (fdOf (top.o_1138 w.params)).scope L 719 (.ref 718)

theorem iw_b {w : World} {mg mb : Str → Option Value} {dp un : Nat} {outer : List Env} {hz : Heap} {gd : Option (List Code)} {s : Shared} {E : Value → Shared → Prop}
    {h₀ : Heap} {L : Addr} {m : Str → Option Value} {news : List (Addr × Obj)} {Q : Flow → Shared → Prop} (b : Array UInt8) (ks : List Int) (hb : KBw.bInts b = ks) (tb : Tok) (hsz : ks.length ≤ 4096)
    (S : Stand hz outer h₀) (Z : Zed w mg mb hz) (X : (KH w.params).In h₀) (T : TopRead q lw mg mb h₀) (F : Fr h₀ L s.heap (fun y => if y = Str.ofString "script_pub_key" then some (.bytes b tb) else m y)) (N : News h₀ L s.heap news) (hd : dp + 200 < recursionLimit) (hu : un + 700 < cLine)
    (hret : ∀ h₂ m' h' tk' g', Fr h₀ L h₂ m' → hz.StaysIn h' → h₂.UpToSlots h' → (AllBare s.gens → AllBare g') → Q (.ret (.bool (isSw ks))) { s with heap := h', toks := tk', gens := g' }) :
    wpAny (model PySem.Challenge.rw_ez0016_01.prog w) (Ar dp un (some (iw_E w L :: outer)) gd) (execs (bodyOf (fdOf (top.o_1138 w.params))) (iw_E w L)) Q E s := by
  revert X; k_fill; intro X
  dsimp only [bodyOf, fdOf, top.o_1138, fnS, List.getD, List.getElem?_cons_succ, List.getElem?_cons_zero, Option.getD]
  k_steps
  all_goals (try (with_reducible rename Fr _ _ _ _ => FF))
  all_goals (try (with_reducible rename News _ _ _ _ => NN))
  exact hret _ _ _ _ _ FF (by with_reducible assumption) (by with_reducible assumption) (by with_reducible assumption)

theorem iw_c {w : World} {mg mb : Str → Option Value} {dp un : Nat} {outer : List Env} {gd : Option (List Code)} {s : Shared} {hz : Heap} {b : Array UInt8} {ks : List Int} (hb : KBw.bInts b = ks) {tb : Tok} (hsz : ks.length ≤ 4096) {R : Result → Shared → Prop} {args : Args}
    (hbd : BindsTo s (fdOf (top.o_1138 w.params)) args [(Str.ofString "script_pub_key", .bytes b tb)])
    (S : Stand hz outer s.heap) (Z : Zed w mg mb hz) (hd : dp + 210 < recursionLimit) (hu : un + 720 < cLine)
    (hret : ∀ h' tk' g', hz.StaysIn h' → s.heap.UpToSlots h' → (AllBare s.gens → AllBare g') → R (.ok (.ret (.bool (isSw ks)))) { s with heap := h', toks := tk', gens := g' }) :
    codeAny (model RP w) (Ar dp un (some outer) gd) (.call (.ref 719) args) R s := by
  have Xs := Z.x.keeps S.stays
  have Ts := Z.t.keeps S.stays
  refine enterK (K := KH w.params) (f := 719) Xs Ts.nolimit (by rfl) (by rfl) (by show dp < recursionLimit; omega) hbd (fun x hx => ?_) (fun L h₁ F N hL => ?_) (by rfl) (by rfl) (by rfl) ?_
  · simp only [List.mem_cons, List.not_mem_nil, or_false] at hx
    rcases hx with rfl <;> rfl
  · exact iw_b (dp := dp + 1) (un := un + 3) (outer := outer) (hz := hz) (gd := gd) (h₀ := s.heap) (L := L) (m := fun _ => none) (news := []) b ks hb tb hsz S Z Xs Ts (fr_ext F fun y => lookup1 y) N (by omega) (by omega)
      (fun h₂ m' h' tk' g' F' hst hup hg => hret h' tk' g' hst ((Heap.UpToSlots.of_keeps F'.keep).trans hup) hg)
  · intro x hx
    revert x
    dsimp only [bodyOf, fdOf, top.o_1138, fnS]
    decide
theorem iw_p {w : World} {mg mb : Str → Option Value} {dp un : Nat} {outer : List Env} {gd : Option (List Code)} {s : Shared} {hz : Heap} {Q E : Value → Shared → Prop} (b : Array UInt8) (ks : List Int) (hb : KBw.bInts b = ks) (tb : Tok) (hsz : ks.length ≤ 4096) (S : Stand hz outer s.heap) (Z : Zed w mg mb hz) (hd : dp + 210 < recursionLimit) (hu : un + 720 < cLine)
    (hret : ∀ h' tk' g', hz.StaysIn h' → s.heap.UpToSlots h' → (AllBare s.gens → AllBare g') → Q (.bool (isSw ks)) { s with heap := h', toks := tk', gens := g' }) :
    wpAny (model RP w) (Ar dp un (some outer) gd) (call (.ref 719) [.bytes b tb]) Q E s := wpAny_call (iw_c (tb := tb) hb hsz (BindsTo.of_eq rfl) S Z hd hu hret)
end Mine
namespace Mine
local macro_rules | `(tactic| k_room) => `(tactic| ((try simp only [depth_under_make, depth_under_kw, depth_in1, depth_deeper, depth_caller]); (try dsimp only [Ar]); omega))
local macro_rules | `(tactic| k_units) => `(tactic| ((try simp only [units_in1, units_deeper, Around.mark_units, units_caller]); (try dsimp only [Ar]); omega))
local macro_rules | `(tactic| cell_enter) => `(tactic| (refine' enterK ?k1 ?k2 ?k6 ?k7 ?k8 ?k9 ?kB ?_ ?c2 ?c3 ?c4 ?c5; (case k1 => assumption); (case k2 => exact TopRead.nolimit (by assumption)); (case k6 => k_is); (case k7 => k_is); (case k8 => k_room); (case k9 => first | exact BindsTo.of_eq rfl | exact binds_K (by assumption) rfl (by k_is) rfl rfl rfl | fail "k_enter: no rule for these arguments"); (case c5 => decide); (case kB => exact locs rfl); (case c2 => exact rfl); (case c3 => exact rfl); (case c4 => exact rfl); k_whole; intro L' h' F' N' kSz; (try dsimp only); (try k_fold)))
local macro_rules | `(tactic| walk_at "call type:bytes") => `(tactic| (k_here; (with_reducible show wpAny _ _ (call (Value.type _) [Value.bytes _ _]) _ _ _); (with_unfolding_all refine call_bytes_bytes ?_)))

def cutAt (h : Heap) (L : Addr) : Heap := { h with objs := h.objs.extract 0 L }
theorem cutAt_size (h : Heap) (L : Addr) : (cutAt h L).objs.size ≤ L := by
  show (h.objs.extract 0 L).size ≤ L
  rw [Array.size_extract]; exact Nat.le_trans (Nat.sub_le _ _) (Nat.min_le_left _ _)
theorem cutAt_idx (h : Heap) {L b : Addr} (hb : b < L) : (h.objs.extract 0 L)[b]? = h.objs[b]? := by
  rw [Array.getElem?_extract]
  rcases Nat.lt_or_ge b h.objs.size with q | q
  · have : b < min L h.objs.size - 0 := by rw [Nat.sub_zero]; exact Nat.lt_min.mpr ⟨hb, q⟩
    rw [if_pos this, Nat.zero_add]
  · have : ¬ b < min L h.objs.size - 0 := fun z => by
      rw [Nat.sub_zero] at z
      exact absurd (Nat.lt_of_lt_of_le z (Nat.min_le_right _ _)) (Nat.not_lt.mpr q)
    rw [if_neg this, Array.getElem?_eq_none q]
theorem cutAt_get (h : Heap) {L b : Addr} (hb : b < L) : (cutAt h L).get? b = h.get? b := by
  unfold Heap.get? cutAt
  dsimp only
  rw [cutAt_idx h hb]
theorem cutAt_lt {h : Heap} {L b : Addr} {o : Obj} (e : (cutAt h L).get? b = some o) : b < L := Nat.lt_of_lt_of_le (Heap.lt_size e) (cutAt_size h L)
theorem cutAt_of {h : Heap} {L b : Addr} {o : Obj} (e : (cutAt h L).get? b = some o) : h.get? b = some o := (cutAt_get h (cutAt_lt e)).symm.trans e
/-- after a call that caught an exception: the same frame over a new base -/
theorem rebase {w : World} {mg mb : Str → Option Value} {hz hE hb h h' : Heap} {outer : List Env} {L : Addr} {m : Str → Option Value} (S : Stand hz outer hb) (F : Fr hb L h m) (hst : hz.StaysIn h') (hup : h.UpToSlots h') (Z : Zed w mg mb hz)
    (U : hE.UpToSlots hb) : Stand hz outer (cutAt h' L) ∧ Fr (cutAt h' L) L h' m ∧ (KH w.params).In (cutAt h' L) ∧ TopRead q lw mg mb (cutAt h' L) ∧ hE.UpToSlots (cutAt h' L) := by
  have low : ∀ {b o}, hb.get? b = some o → b < L := fun e => Nat.lt_of_lt_of_le (Heap.lt_size e) F.above
  have lowz : ∀ {b o}, hz.get? b = some o → b < L := fun e => low (S.stays _ _ e)
  have st : hz.StaysIn (cutAt h' L) := fun b o e => (cutAt_get h' (lowz e)).trans (hst b o e)
  have up : hb.UpToSlots (cutAt h' L) := fun b o e hn => by
    obtain ⟨sl, q⟩ := ((Heap.UpToSlots.of_keeps F.keep).trans hup) b o e hn
    exact ⟨sl, (cutAt_get h' (low e)).trans q⟩
  refine ⟨⟨st, S.frames.of_keeps fun b o e hn => ?_, ?_⟩, ⟨hup.ns F.ns, fun b o e => cutAt_of e, cutAt_size _ _⟩, Z.x.keeps st, Z.t.keeps st, U.trans up⟩
  · obtain ⟨sl, q⟩ := up b o e hn
    exact ⟨_, q, rfl⟩
  · show hz.objs.size ≤ (h'.objs.extract 0 L).size
    have h1 := (hup.ns F.ns).lt
    have h2 := Nat.le_trans S.size F.above
    rw [Array.size_extract, Nat.sub_zero]
    exact Nat.le_min.mpr ⟨h2, Nat.le_trans h2 (Nat.le_of_lt h1)⟩
theorem nilOf {h₀ h : Heap} {L : Addr} {m : Str → Option Value} (F : Fr h₀ L h m) : News h₀ L h [] := News.nil
theorem cnt_p {w : World} {mg mb : Str → Option Value} {dp un : Nat} {fr : Option (List Env)} {gd : Option (List Code)} {s : Shared} {Q E : Value → Shared → Prop} (b : Array UInt8) (ks : List Int) (hb : KBw.bInts b = ks) (tb : Tok) (hsz : ks.length ≤ 4096) (acc : Bool)
    (X : (KH w.params).In s.heap) (T : TopRead q lw mg mb s.heap) (hd : dp + 80 < recursionLimit) (hu : un + 460 < cLine)
    (hret : ∀ t h' tk' g', Ext s.heap h' → (AllBare s.gens → AllBare g') → Q (.int (cnt acc ks) t) { s with heap := h', toks := tk', gens := g' }) :
    wpAny (model RP w) (Ar dp un fr gd) (call (.ref 824) [.bytes b tb, .bool acc]) Q E s := wpAny_call (cnt_code (tb := tb) hb hsz acc (BindsTo.of_eq rfl) X T hd hu hret)
theorem cnt_k {w : World} {mg mb : Str → Option Value} {dp un : Nat} {fr : Option (List Env)} {gd : Option (List Code)} {s : Shared} {Q E : Value → Shared → Prop} (b : Array UInt8) (ks : List Int) (hb : KBw.bInts b = ks) (tb : Tok) (hsz : ks.length ≤ 4096) (acc : Bool) (kw : List (Str × Value)) (hk : kw = [(Str.ofString "accurate", .bool acc)])
    (X : (KH w.params).In s.heap) (T : TopRead q lw mg mb s.heap) (hd : dp + 80 < recursionLimit) (hu : un + 460 < cLine)
    (hret : ∀ t h' tk' g', Ext s.heap h' → (AllBare s.gens → AllBare g') → Q (.int (cnt acc ks) t) { s with heap := h', toks := tk', gens := g' }) :
    wpAny (model RP w) (Ar dp un fr gd) (call (.ref 824) [.bytes b tb] kw) Q E s := by
  subst hk
  exact wpAny_call (cnt_code (tb := tb) hb hsz acc (BindsTo.of_eq rfl) X T hd hu hret)
theorem lp_p {w : World} {mg mb : Str → Option Value} {dp un : Nat} {fr : Option (List Env)} {gd : Option (List Code)} {s : Shared} {Q E : Value → Shared → Prop} (b : Array UInt8) (ks : List Int) (hb : KBw.bInts b = ks) (tb : Tok) (hsz : ks.length ≤ 4096)
    (X : (KH w.params).In s.heap) (T : TopRead q lw mg mb s.heap) (hd : dp + 80 < recursionLimit) (hu : un + 460 < cLine)
    (hnone : lp ks = none → ∀ h' tk' g', Ext s.heap h' → (AllBare s.gens → AllBare g') → Q .none { s with heap := h', toks := tk', gens := g' })
    (hsome : ∀ d ds t, KBw.bInts d = ds → lp ks = some ds → ds.length ≤ ks.length → ∀ h' tk' g', Ext s.heap h' → (AllBare s.gens → AllBare g') → Q (.bytes d t) { s with heap := h', toks := tk', gens := g' }) :
    wpAny (model RP w) (Ar dp un fr gd) (call (.ref 839) [.bytes b tb]) Q E s := wpAny_call (lp_code (tb := tb) hb hsz (BindsTo.of_eq rfl) X T hd hu hnone fun d t e hl => hsome d _ t rfl e hl)
end Mine
namespace Mine
local macro_rules | `(tactic| k_room) => `(tactic| ((try simp only [depth_under_make, depth_under_kw, depth_in1, depth_deeper, depth_caller]); (try dsimp only [Ar]); omega))
local macro_rules | `(tactic| k_units) => `(tactic| ((try simp only [units_in1, units_deeper, Around.mark_units, units_caller]); (try dsimp only [Ar]); omega))
local macro_rules | `(tactic| cell_enter) => `(tactic| (refine' enterK ?k1 ?k2 ?k6 ?k7 ?k8 ?k9 ?kB ?_ ?c2 ?c3 ?c4 ?c5; (case k1 => assumption); (case k2 => exact TopRead.nolimit (by assumption)); (case k6 => k_is); (case k7 => k_is); (case k8 => k_room); (case k9 => first | exact BindsTo.of_eq rfl | exact binds_K (by assumption) rfl (by k_is) rfl rfl rfl | fail "k_enter: no rule for these arguments"); (case c5 => decide); (case kB => exact locs rfl); (case c2 => exact rfl); (case c3 => exact rfl); (case c4 => exact rfl); k_whole; intro L' h' F' N' kSz; (try dsimp only); (try k_fold)))
local macro_rules | `(tactic| walk_at "call type:bytes") => `(tactic| (k_here; (with_reducible show wpAny _ _ (call (Value.type _) [Value.bytes _ _]) _ _ _); (with_unfolding_all refine call_bytes_bytes ?_)))
local macro_rules | `(tactic| walk_at "call ref") => `(tactic| (k_here; (with_reducible show wpAny _ _ (call (Value.ref 80) [Value.bytes _ _]) _ _ _); k_dflt ((with_reducible rename Fr _ _ _ _ => FF); (with_reducible rename News _ _ _ _ => NN); (with_reducible rename TopRead _ _ _ _ _ => TT); refine' bfo_p _ _ ?kX ?kT ?kd ?ku ?_; (case kX => exact Frag.In.keeps (by assumption) FF.keep); (case kT => exact TopRead.keeps TT FF.keep); (case kd => k_room); (case ku => k_units); (intro  h' tk'  hk'; (have F' := Fr.keeps FF hk'); (have N' := News.keeps NN hk'); clear FF NN hk'; (try dsimp only at F' N' ⊢)))))
local macro_rules | `(tactic| walk_at "call ref") => `(tactic| (k_here; (with_reducible show wpAny _ _ (call (Value.ref 705) [Value.bytes _ _]) _ _ _); k_dflt ((with_reducible rename Fr _ _ _ _ => FF); (with_reducible rename News _ _ _ _ => NN); (with_reducible rename Stand _ _ _ => SS); (with_reducible rename Zed _ _ _ _ => ZZ); (with_reducible rename Frag.In _ _ => XX); (with_reducible rename TopRead _ _ _ _ _ => TT); (with_reducible rename Heap.UpToSlots _ _ => UU); (with_reducible rename (AllBare _ → AllBare _) => BB); refine' ip_p _ _ ?kb _ ?ksz ?kS ?kZ ?kd ?ku ?_; (case kb => assumption); (case ksz => assumption); (case kS => exact SS.push FF rfl); (case kZ => exact ZZ); (case kd => k_room); (case ku => k_units); (intro h' tk' g' hst' hup' hg'; (have RB := rebase SS FF hst' hup' ZZ UU); (have BB' := fun z => hg' (BB z)); clear NN SS XX TT UU BB hg' FF; obtain ⟨S', F', X', T', U'⟩ := RB; (have N' := nilOf F'); clear hst' hup'; (try dsimp only at S' F' X' T' U' BB' N' ⊢)))))
local macro_rules | `(tactic| walk_at "call ref") => `(tactic| (k_here; (with_reducible show wpAny _ _ (call (Value.ref 719) [Value.bytes _ _]) _ _ _); k_dflt ((with_reducible rename Fr _ _ _ _ => FF); (with_reducible rename News _ _ _ _ => NN); (with_reducible rename Stand _ _ _ => SS); (with_reducible rename Zed _ _ _ _ => ZZ); (with_reducible rename Frag.In _ _ => XX); (with_reducible rename TopRead _ _ _ _ _ => TT); (with_reducible rename Heap.UpToSlots _ _ => UU); (with_reducible rename (AllBare _ → AllBare _) => BB); refine' iw_p _ _ ?kb _ ?ksz ?kS ?kZ ?kd ?ku ?_; (case kb => assumption); (case ksz => assumption); (case kS => exact SS.push FF rfl); (case kZ => exact ZZ); (case kd => k_room); (case ku => k_units); (intro h' tk' g' hst' hup' hg'; (have RB := rebase SS FF hst' hup' ZZ UU); (have BB' := fun z => hg' (BB z)); clear NN SS XX TT UU BB hg' FF; obtain ⟨S', F', X', T', U'⟩ := RB; (have N' := nilOf F'); clear hst' hup'; (try dsimp only at S' F' X' T' U' BB' N' ⊢)))))
local macro_rules | `(tactic| walk_at "call ref") => `(tactic| (k_here; (with_reducible show wpAny _ _ (call (Value.ref 824) [Value.bytes _ _, Value.bool _]) _ _ _); k_dflt ((with_reducible rename Fr _ _ _ _ => FF); (with_reducible rename News _ _ _ _ => NN); (with_reducible rename Frag.In _ _ => XX); (with_reducible rename TopRead _ _ _ _ _ => TT); (with_reducible rename (AllBare _ → AllBare _) => BB); refine' cnt_p _ _ ?kb _ ?ksz _ ?kX ?kT ?kd ?ku ?_; (case kb => assumption); (case ksz => assumption); (case kX => exact Frag.In.keeps XX FF.keep); (case kT => exact TopRead.keeps TT FF.keep); (case kd => k_room); (case ku => k_units); all_goals first | (intro t h' tk' g' hk' hg'; (have F' := Fr.keeps FF hk'); (have N' := News.keeps NN hk'); (have BB' := fun z => hg' (BB z)); clear FF NN hk' BB hg'; (try dsimp only at F' N' BB' ⊢)))))
local macro_rules | `(tactic| walk_at "call ref") => `(tactic| (k_here; (with_reducible show wpAny _ _ (call (Value.ref 824) [Value.bytes _ _] (List.zip _ [Value.bool _])) _ _ _); k_dflt ((with_reducible rename Fr _ _ _ _ => FF); (with_reducible rename News _ _ _ _ => NN); (with_reducible rename Frag.In _ _ => XX); (with_reducible rename TopRead _ _ _ _ _ => TT); (with_reducible rename (AllBare _ → AllBare _) => BB); refine' cnt_k _ _ ?kb _ ?ksz _ _ ?kk ?kX ?kT ?kd ?ku ?_; (case kk => rfl); (case kb => assumption); (case ksz => assumption); (case kX => exact Frag.In.keeps XX FF.keep); (case kT => exact TopRead.keeps TT FF.keep); (case kd => k_room); (case ku => k_units); all_goals first | (intro t h' tk' g' hk' hg'; (have F' := Fr.keeps FF hk'); (have N' := News.keeps NN hk'); (have BB' := fun z => hg' (BB z)); clear FF NN hk' BB hg'; (try dsimp only at F' N' BB' ⊢)))))
local macro_rules | `(tactic| walk_at "call ref") => `(tactic| (k_here; (with_reducible show wpAny _ _ (call (Value.ref 839) [Value.bytes _ _]) _ _ _); k_dflt ((with_reducible rename Fr _ _ _ _ => FF); (with_reducible rename News _ _ _ _ => NN); (with_reducible rename Frag.In _ _ => XX); (with_reducible rename TopRead _ _ _ _ _ => TT); (with_reducible rename (AllBare _ → AllBare _) => BB); refine' lp_p _ _ ?kb _ ?ksz ?kX ?kT ?kd ?ku ?_ ?_; (case kb => assumption); (case ksz => assumption); (case kX => exact Frag.In.keeps XX FF.keep); (case kT => exact TopRead.keeps TT FF.keep); (case kd => k_room); (case ku => k_units); all_goals first | (intro hlp h' tk' g' hk' hg'; (have F' := Fr.keeps FF hk'); (have N' := News.keeps NN hk'); (have BB' := fun z => hg' (BB z)); clear FF NN hk' BB hg'; (try dsimp only at F' N' BB' ⊢)) | (intro d ds td hd' hlp hl h' tk' g' hk' hg'; (have hsz' := Nat.le_trans hl (by assumption)); (have F' := Fr.keeps FF hk'); (have N' := News.keeps NN hk'); (have BB' := fun z => hg' (BB z)); clear FF NN hk' BB hg'; (try dsimp only at F' N' BB' ⊢)))))

def p2n (ks cs : List Int) : Int := if isP2 cs = true then (match lp ks with | some r => cnt true r | none => 0) else cnt true cs

noncomputable abbrev pp_E (w : World) (L : Addr) : Env := envOf (Str.ofString "p2sh_sig_op_count") (fdOf (t846 w.params)).scope L 846 (.ref 845)

theorem pp_b {w : World} {mg mb : Str → Option Value} {dp un : Nat} {outer : List Env} {hz hE : Heap} {gd : Option (List Code)} {s : Shared} {E : Value → Shared → Prop}
    {h₀ : Heap} {L : Addr} {m : Str → Option Value} {news : List (Addr × Obj)} {Q : Flow → Shared → Prop} (b : Array UInt8) (ks : List Int) (hb : KBw.bInts b = ks) (tb : Tok) (hsz : ks.length ≤ 4096) (c : Array UInt8) (cs : List Int) (hc : KBw.bInts c = cs) (tc : Tok) (hcz : cs.length ≤ 4096)
    (S : Stand hz outer h₀) (Z : Zed w mg mb hz) (U : hE.UpToSlots h₀) (BB : AllBare s.gens → AllBare s.gens) (X : (KH w.params).In h₀) (T : TopRead q lw mg mb h₀) (F : Fr h₀ L s.heap (fun y => if y = Str.ofString "script_sig" then some (.bytes b tb) else if y = Str.ofString "script_pub_key" then some (.bytes c tc) else m y)) (N : News h₀ L s.heap news) (hd : dp + 300 < recursionLimit) (hu : un + 800 < cLine)
    (hret : ∀ hb' n t m' h' tk' g', n = p2n ks cs → Fr hb' L h' m' → Stand hz outer hb' → hE.UpToSlots hb' → (AllBare s.gens → AllBare g') → Q (.ret (.int n t)) { s with heap := h', toks := tk', gens := g' }) :
    wpAny (model PySem.Challenge.rw_ez0016_01.prog w) (Ar dp un (some (pp_E w L :: outer)) gd) (execs (bodyOf (fdOf (t846 w.params))) (pp_E w L)) Q E s := by
  revert X; k_fill; intro X
  dsimp only [bodyOf, fdOf, t846, fnS, nth, pw, PySem.Challenge.pw_ez0016_01, List.getD, List.getElem?_cons_succ, List.getElem?_cons_zero, Option.getD]
  k_steps
  all_goals (try (with_reducible rename Fr _ _ _ _ => FF))
  all_goals (try (with_reducible rename News _ _ _ _ => NN))
  all_goals
    with_reducible rename Stand _ _ _ => SS
    with_reducible rename Heap.UpToSlots _ _ => UU
    with_reducible rename (AllBare _ → AllBare _) => BB
    first
    | (rename (isP2 _ = true) => e1; rename (lp _ = none) => e2; exact hret _ _ _ _ _ _ _ (by unfold p2n; rw [if_pos e1, e2]) FF SS UU BB)
    | (rename (isP2 _ = true) => e1; rename (lp _ = some _) => e2; exact hret _ _ _ _ _ _ _ (by unfold p2n; rw [if_pos e1, e2]) FF SS UU BB)
    | (rename (isP2 _ = false) => e1; exact hret _ _ _ _ _ _ _ (by unfold p2n; rw [if_neg (by rw [e1]; decide)]) FF SS UU BB)

theorem pp_c {w : World} {mg mb : Str → Option Value} {dp un : Nat} {outer : List Env} {gd : Option (List Code)} {s : Shared} {hz : Heap} {b : Array UInt8} {ks : List Int} (hb : KBw.bInts b = ks) {tb : Tok} (hsz : ks.length ≤ 4096) {c : Array UInt8} {cs : List Int} (hc : KBw.bInts c = cs) {tc : Tok} (hcz : cs.length ≤ 4096) {R : Result → Shared → Prop} {args : Args}
    (hbd : BindsTo s (fdOf (t846 w.params)) args [(Str.ofString "script_sig", .bytes b tb), (Str.ofString "script_pub_key", .bytes c tc)])
    (S : Stand hz outer s.heap) (Z : Zed w mg mb hz) (hd : dp + 310 < recursionLimit) (hu : un + 820 < cLine)
    (hret : ∀ t h' tk' g', hz.StaysIn h' → s.heap.UpToSlots h' → (AllBare s.gens → AllBare g') → R (.ok (.ret (.int (p2n ks cs) t))) { s with heap := h', toks := tk', gens := g' }) :
    codeAny (model RP w) (Ar dp un (some outer) gd) (.call (.ref 846) args) R s := by
  have Xs := Z.x.keeps S.stays
  have Ts := Z.t.keeps S.stays
  refine enterK (K := KH w.params) (f := 846) Xs Ts.nolimit (by rfl) (by rfl) (by show dp < recursionLimit; omega) hbd (fun x hx => ?_) (fun L h₁ F N hL => ?_) (by rfl) (by rfl) (by rfl) ?_
  · simp only [List.mem_cons, List.not_mem_nil, or_false] at hx
    rcases hx with rfl | rfl <;> rfl
  · refine pp_b (dp := dp + 1) (un := un + 3) (outer := outer) (hz := hz) (hE := s.heap) (gd := gd) (h₀ := s.heap) (L := L) (m := fun _ => none) (news := []) b ks hb tb hsz c cs hc tc hcz S Z (Heap.UpToSlots.refl _) (fun h => h) Xs Ts (fr_ext F fun y => ?_) N (by omega) (by omega)
      (fun hb' n t m' h' tk' g' e F' S' hup hg => ?_)
    · show List.lookup y [(Str.ofString "script_pub_key", Value.bytes c tc), (Str.ofString "script_sig", Value.bytes b tb)] = _
      rw [lookup2]
      by_cases h1 : y = Str.ofString "script_pub_key"
      · subst h1; rfl
      · simp only [h1, if_false]
    · subst e
      exact hret t h' tk' g' (fun b o e => F'.keep b o (S'.stays b o e)) (hup.trans (Heap.UpToSlots.of_keeps F'.keep)) hg
  · intro x hx
    revert x
    dsimp only [bodyOf, fdOf, t846, fnS, nth, pw, PySem.Challenge.pw_ez0016_01]
    decide
end Mine
namespace Mine
local macro_rules | `(tactic| k_room) => `(tactic| ((try simp only [depth_under_make, depth_under_kw, depth_in1, depth_deeper, depth_caller]); (try dsimp only [Ar]); omega))
local macro_rules | `(tactic| k_units) => `(tactic| ((try simp only [units_in1, units_deeper, Around.mark_units, units_caller]); (try dsimp only [Ar]); omega))
local macro_rules | `(tactic| cell_enter) => `(tactic| (refine' enterK ?k1 ?k2 ?k6 ?k7 ?k8 ?k9 ?kB ?_ ?c2 ?c3 ?c4 ?c5; (case k1 => assumption); (case k2 => exact TopRead.nolimit (by assumption)); (case k6 => k_is); (case k7 => k_is); (case k8 => k_room); (case k9 => first | exact BindsTo.of_eq rfl | exact binds_K (by assumption) rfl (by k_is) rfl rfl rfl | fail "k_enter: no rule for these arguments"); (case c5 => decide); (case kB => exact locs rfl); (case c2 => exact rfl); (case c3 => exact rfl); (case c4 => exact rfl); k_whole; intro L' h' F' N' kSz; (try dsimp only); (try k_fold)))
local macro_rules | `(tactic| walk_at "call type:bytes") => `(tactic| (k_here; (with_reducible show wpAny _ _ (call (Value.type _) [Value.bytes _ _]) _ _ _); (with_unfolding_all refine call_bytes_bytes ?_)))

abbrev ifBody (e : Expr) : Expr := match e with | .IfExp _ b _ _ => b | _ => default
abbrev asVal (s : Stmt) : Expr := match s with | .Assign _ v _ => v | _ => default
abbrev arg0 (e : Expr) : Expr := match e with | .Call _ (a :: _) _ _ => a | _ => default
abbrev genElt (e : Expr) : Expr := match e with | .GeneratorExp e _ _ _ => e | _ => default
abbrev genIt (e : Expr) : Expr := match e with | .GeneratorExp _ (g :: _) _ _ => g.iter | _ => default
abbrev genScope (e : Expr) : Scope := match e with | .GeneratorExp _ _ s _ => s | _ => default
noncomputable abbrev nB (w : World) : List Stmt := bodyOf (fdOf (top.o_1194 w.params))
noncomputable abbrev nS (w : World) (i : Nat) : Stmt := (nB w).getD i (.Pass ⟨0, 0, 0, 0⟩)
noncomputable abbrev wi_E (w : World) (L : Addr) : Env := envOf (Str.ofString "Witness.__init__") (fdOf (top.o_1194 w.params)).scope L 772 (.ref 771)
noncomputable abbrev tupE (w : World) : Expr := ifBody (asVal (nS w 1))
noncomputable abbrev genE (w : World) : Expr := arg0 (tupE w)
noncomputable abbrev g_E (w : World) (L C : Addr) (code : Value) : Env := genEnv (genScope (genE w)) [] C code builtinsNs (wi_E w L)
theorem gname_x {M : Model} {A : Around} {E : Value → Shared → Prop} {s : Shared} {h₀ : Heap} {C : Addr} {env : Env} {scope : Scope} {code v : Value} {m : Str → Option Value} {x : Str} {p : Pos} {Q : Value → Shared → Prop} (F : Fr h₀ C s.heap m) (hv : m x = some v) (hk : scope.kind = .function) (hx : (genEnv scope [] C code builtinsNs env).kindOf x = some .local) (hd : (x == ("__debug__" : Str)) = false) (h : Q v s) :
    wpAny M A (eval (.Name x p) (genEnv scope [] C code builtinsNs env)) Q E s := wpAny_Name (wpAny_loadName_local hk hx F.ns hv h) hd
theorem gname_f {K : Frag} {M : Model} {mg mb : Str → Option Value} {A : Around} {E : Value → Shared → Prop} {s : Shared} {h₀ : Heap} {C : Addr} {env : Env} {scope : Scope} {code v : Value} {m : Str → Option Value} {x : Str} {p : Pos} {Q : Value → Shared → Prop} (F : Fr h₀ C s.heap m) (X : K.In h₀) (T : TopRead q lw mg mb h₀)
    (hn : nsIn K mainGlobals x = some (some v)) (hg : env.globals = mainGlobals) (hk : scope.kind = .function) (hx : (genEnv scope [] C code builtinsNs env).kindOf x = some .globalImplicit) (hd : (x == ("__debug__" : Str)) = false) (h : Q v s) :
    wpAny M A (eval (.Name x p) (genEnv scope [] C code builtinsNs env)) Q E s :=
  Name_function_global hk hx (loadGlobal_global (env := genEnv scope [] C code builtinsNs env) (show s.heap.Ns env.globals mg from hg ▸ T.g.keeps F.keep) (mg_of X T.g hn) h) hd
local macro_rules | `(tactic| walk_at "eval Name") => `(tactic| (k_here; (with_reducible rename Fr _ _ _ _ => FF); k_dflt (first | refine gname_x FF rfl rfl rfl rfl ?_ | (refine' gname_f FF ?X ?T ?n rfl rfl rfl rfl ?_; (case X => assumption); (case T => assumption); (case n => k_is)))))

theorem ge_elt {w : World} {mg mb : Str → Option Value} {dp un : Nat} {fr : Option (List Env)} {gd : Option (List Code)} {s : Shared} {E : Value → Shared → Prop}
    {h₀ : Heap} {L : Addr} {m : Str → Option Value} {news : List (Addr × Obj)} {Q : Value → Shared → Prop} {C : Addr} {code : Value} (b : Array UInt8) (tb : Tok)
    (X : (KH w.params).In h₀) (T : TopRead q lw mg mb h₀) (F : Fr h₀ C s.heap (fun y => if y = Str.ofString "element" then some (.bytes b tb) else m y)) (N : News h₀ C s.heap news) (hd : dp + 40 < recursionLimit) (hu : un + 260 < cLine)
    (hret : ∀ h' tk', Ext s.heap h' → Q (.bytes b tb) { s with heap := h', toks := tk' }) :
    wpAny (model PySem.Challenge.rw_ez0016_01.prog w) (Ar dp un fr gd) (eval (genElt (genE w)) (g_E w L C code)) Q E s := by
  revert X; k_fill; intro X
  dsimp only [g_E, genE, tupE, ifBody, asVal, arg0, genElt, genScope, nS, nB, bodyOf, fdOf, top.o_1194, fnS, List.getD, List.getElem?_cons_succ, List.getElem?_cons_zero, Option.getD]
  k_steps
  all_goals (try (with_reducible rename Fr _ _ _ _ => FF))
  all_goals (try (with_reducible rename News _ _ _ _ => NN))
  exact bfo_p b tb (Frag.In.keeps (by assumption) FF.keep) (TopRead.keeps (by assumption) FF.keep) (by omega) (by omega) hret

theorem wi_stack {w : World} {mg mb : Str → Option Value} {dp un : Nat} {fr : Option (List Env)} {gd : Option (List Code)} {s : Shared} {E : Value → Shared → Prop}
    {h₀ : Heap} {L : Addr} {m : Str → Option Value} {news : List (Addr × Obj)} {Q : Value → Shared → Prop} {l : Addr}
    (X : (KH w.params).In h₀) (T : TopRead q lw mg mb h₀) (F : Fr h₀ L s.heap (fun y => if y = Str.ofString "stack" then some (.ref l) else m y)) (N : News h₀ L s.heap news) (hd : dp + 30 < recursionLimit) (hu : un + 230 < cLine)
    (hret : Q (.ref l) s) :
    wpAny (model PySem.Challenge.rw_ez0016_01.prog w) (Ar dp un fr gd) (eval (genIt (genE w)) (wi_E w L)) Q E s := by
  revert X; k_fill; intro X
  dsimp only [g_E, genIt, genE, tupE, ifBody, asVal, arg0, genElt, genScope, nS, nB, bodyOf, fdOf, top.o_1194, fnS, List.getD, List.getElem?_cons_succ, List.getElem?_cons_zero, Option.getD]
  k_steps
  all_goals (try (with_reducible rename Fr _ _ _ _ => FF))
  all_goals (try (with_reducible rename News _ _ _ _ => NN))
  exact hret

theorem ar_of {A : Around} (h : A.handled = none) : A = Ar A.depth A.units A.frames A.guards := by
  obtain ⟨h', d, f, g, u⟩ := A
  cases h; rfl
theorem genE_is (w : World) : ∃ px pos, genE w = .GeneratorExp (genElt (genE w)) [⟨.Name (Str.ofString "element") px, genIt (genE w), [], 0⟩] (genScope (genE w)) pos := ⟨_, _, rfl⟩
/-- a table that the text keeps for its own codes -/
structure Tab (h : Heap) (ps : Array Value) : Prop where
  code : h.IsCode 771 767 ps
  tab : h.TableAt 771 767 ps
theorem gen_code {w : World} {A : Around} {E : Value → Shared → Prop} {s : Shared} {L : Addr} {ps : Array Value} {pos : Pos} {qn : Str} {sc : Scope} {Q : Value → Shared → Prop} (H : Tab s.heap ps)
    (hQ : ∀ code h' tk more, Heap.ExtBut 767 s.heap h' → Tab h' (ps ++ more) → Q code { s with heap := h', toks := tk }) : wpAny (model RP w) A (genexprCode (wi_E w L) pos qn sc) Q E s := by
  cases hnf : codeAmong pos ps.toList with
  | none => exact wpAny_genexprCodeX rfl H.code H.tab hnf fun c' h' tk hx _ _ hc _ ht _ => hQ _ h' tk _ hx ⟨hc, ht⟩
  | some c => exact wpAny_genexprCode_hit rfl H.code hnf (hQ c s.heap s.toks #[] (Heap.ExtBut.refl _ _) (by rw [Array.append_empty]; exact H))
theorem gexp {w : World} {mg mb : Str → Option Value} {dp un : Nat} {fr : Option (List Env)} {gd : Option (List Code)} {s : Shared} {E : Value → Shared → Prop} {h₀ : Heap} {L l : Addr} {m : Str → Option Value} {news : List (Addr × Obj)} {vals : Array Value} {ps : Array Value} {Q : Value → Shared → Prop}
    (X : (KH w.params).In h₀) (T : TopRead q lw mg mb h₀) (F : Fr h₀ L s.heap m) (hms : m (Str.ofString "stack") = some (.ref l)) (N : News h₀ L s.heap news) (h0 : h₀.get? 767 = none) (hd : dp + 60 < recursionLimit) (hu : un + 300 < cLine)
    (hB : ∃ bm ob, mg "__builtins__" = some (.ref bm) ∧ bm ≠ builtinsNs ∧ h₀.get? bm = some ob ∧ ob.cls = .type "module" ∧ ob.dict = some builtinsNs ∧ ob.data = .plain) (hl : s.heap.IsList l vals) (hv : ∀ v ∈ vals, ∃ b t, v = .bytes b t) (H : Tab s.heap ps) (hb0 : AllBare s.gens)
    (hret : ∀ a h' tk g' fp wr n G P St more, WalksS RP w (Ar dp un fr gd).in4 a fp wr G n P St → St 0 { s with heap := h', toks := tk, gens := g' } → (∀ i s', St i s' → s'.TypeIs (.ref a) "generator") → (∀ b ∈ fp, b < h'.objs.size) → a ∈ fp → n = vals.size → (∀ j y, P j y → vals[j]? = some y) →
      Heap.ExtBut 767 s.heap h' → Tab h' (ps ++ more) → (∀ b ∈ wr, s.heap.get? b = none) → AllBare g' → (∀ g'', G g' g'' → AllBare g'') → Q (.ref a) { s with heap := h', toks := tk, gens := g' }) :
    wpAny (model RP w) (Ar dp un fr gd) (eval (genE w) (wi_E w L)) Q E s := by
  dsimp only [genE, tupE, ifBody, asVal, arg0, nS, nB, bodyOf, fdOf, top.o_1194, List.getD, List.getElem?_cons_succ, List.getElem?_cons_zero, Option.getD]
  refine wpAny_GeneratorExp_walksQD (A := Ar dp un fr gd) (cl := []) rfl rfl rfl (by decide) rfl rfl rfl (by show dp < recursionLimit; omega) ?_ (by intro _; rfl)
  refine ld F hms ?_
  have kp : Ext s.heap (s.heap.push { cls := .type "list_iterator", data := .fields #[.ref l, .int 0 0] }) := fun b o e => Heap.get?_push_of_some _ e
  have hfr : s.heap.get? s.heap.objs.size = none := Heap.get?_none_of_le (Nat.le_refl _)
  have hit : (s.heap.push { cls := .type "list_iterator", data := .fields #[.ref l, .int 0 0] }).get? s.heap.objs.size = some { cls := .type "list_iterator", data := .fields #[.ref l, .int 0 0] } := Heap.get?_push_size _ rfl
  refine wpAny_pyIter_list hl ⟨T.nolimit.keeps fun b o e => kp _ _ (F.keep b o e), ?_⟩
  refine gen_code ⟨H.code.keeps kp, H.tab.keeps kp⟩ fun code h₃ tk₃ more hx Hm => ?_
  have k3 : Ext h₀ h₃ := fun b o e => hx b o (fun z => by rw [z] at e; rw [h0] at e; cases e) (kp _ _ (F.keep b o e))
  obtain ⟨bm, ob, b1, b2, b3, b4, b5, b6⟩ := hB
  refine wpAny_builtinsFor (m := mg) (T.g.keeps k3) b1 b2 (k3 _ _ b3) b4 b5 b6 ?_
  have h767 : (767 : Nat) < s.heap.objs.size := H.code.lt.2
  have n767 : s.heap.objs.size ≠ 767 := fun z => by rw [z] at h767; exact absurd h767 (Nat.lt_irrefl _)
  have hI : h₃.get? s.heap.objs.size = some { cls := .type "list_iterator", data := .fields #[.ref l, .int 0 0] } := hx _ _ n767 hit
  have hsz : s.heap.objs.size < h₃.objs.size := Heap.lt_size hI
  have hlI : l ≠ s.heap.objs.size := fun z => by
    obtain ⟨o, e, _⟩ := hl
    rw [z] at e; rw [hfr] at e; cases e
  have hl3 : h₃.IsList l vals := by
    obtain ⟨o, e, c, n, d⟩ := hl
    refine ⟨o, hx _ _ (fun z => ?_) (kp _ _ e), c, n, d⟩
    subst z
    rw [H.tab.2] at e
    cases e; cases c
  have hll : l < h₃.objs.size := by obtain ⟨o, e, _⟩ := hl3; exact Heap.lt_size e
  have nl3 : h₃.NoLimit := T.nolimit.keeps k3
  refine ⟨s.heap.objs.size, [s.heap.objs.size, l], [s.heap.objs.size], vals.size, fun i v => vals[i]? = some v, _, fun _ => true, fun i y => vals[i]? = some y, rfl, fun A' hA => Walks.list hA s.heap.objs.size l hlI vals, ⟨⟨_, hI, rfl, rfl⟩, hl3⟩, ?_, nl3, ?_, fun href hr => ⟨?_, ?_⟩, fun a h₅ tk gs hgs hlt hsz5 hk5 W St => ?_⟩
  · intro b hb
    rcases List.mem_cons.mp hb with rfl | hb
    · exact hsz
    · obtain rfl := List.mem_singleton.mp hb
      exact hll
  · intro z
    have z := List.mem_singleton.mp z
    obtain ⟨_, hn, _⟩ := T.nolimit.keeps F.keep
    have := hn.lt
    rw [z] at this
    exact absurd this (Nat.lt_irrefl _)
  · intro A' E' i v s₂ m₂ _ _ _ _ _ _ _
    exact wpAny_pure ⟨rfl, s₂.heap, s₂.toks, rfl, fun _ _ e => e⟩
  · intro A' E' i v s₂ m₂ hA hdep hun hP _ hn hm hk
    obtain ⟨b, t, rfl⟩ := hv v (Array.mem_of_getElem? hP)
    rw [ar_of hA]
    have hdep' : A'.depth ≤ dp + 1 := hdep
    have hun' : A'.units ≤ un + 8 := hun
    refine ge_elt (L := L) (C := h₃.objs.size) (code := code) (m := m₂) (news := []) b t X T (fr_ext (⟨hn, fun b' o e => ?_, ?_⟩ : Fr h₀ _ s₂.heap m₂) fun y => ?_) News.nil (by omega) (by omega) (fun h' tk' hk' => ⟨hP, h', tk', rfl, hk'⟩)
    · have e3 := k3 _ _ e
      refine hk b' (List.mem_range.mpr (Heap.lt_size e3)) (fun z => ?_) o (hr _ _ e3)
      have z := List.mem_singleton.mp z
      rw [z] at e
      exact absurd (hfr.symm.trans (F.keep _ _ e)) (by simp)
    · exact Nat.le_of_lt (Nat.lt_of_le_of_lt F.above (Nat.lt_trans F.ns.lt hsz))
    · by_cases h1 : y = Str.ofString "element"
      · subst h1; simp [hm]
      · simp only [h1, if_false]
  · have hp : passing (fun _ => true) vals.size 0 = List.range vals.size := by
      unfold passing
      rw [List.drop_zero, List.filter_eq_self]; intro _ _; rfl
    refine hret a h₅ tk _ _ _ _ _ _ _ more W St (fun i s' hs => ?_) ?_ (.head _) (by rw [hp, List.length_range]) ?_ (fun b o hb e => hk5 _ _ (hx b o hb (kp _ _ e))) ⟨Hm.code.keeps hk5, Hm.tab.keeps hk5⟩ ?_ ?_ ?_
    · obtain ⟨⟨o, nm, qn, ho, hc, _⟩, _⟩ := hs
      exact ⟨o, ho, hc⟩
    · intro b hb
      rw [hsz5]
      rcases List.mem_cons.mp hb with rfl | hb
      · exact Nat.lt_succ_self _
      rcases List.mem_cons.mp hb with rfl | hb
      · exact Nat.lt_succ_of_lt hlt
      · exact Nat.lt_succ_of_lt (Nat.lt_trans (List.mem_range.mp hb) hlt)
    · rintro j y ⟨i, hi, hy⟩
      rw [hp, List.getElem?_range] at hi
      · cases hi; exact hy
      · rcases Nat.lt_or_ge j vals.size with q | q
        · exact q
        · rw [List.getElem?_eq_none (by rw [List.length_range]; exact q)] at hi; cases hi
    · intro b hb
      rcases List.mem_cons.mp hb with rfl | hb
      · exact Heap.get?_none_of_le (Nat.le_of_lt hsz)
      · obtain rfl := List.mem_singleton.mp hb
        exact hfr
    · intro y hy
      rcases Array.mem_push.mp hy with h' | rfl
      · exact hb0 y h'
      · exact hgs
    · intro g'' hG
      refine GenOnlyQ.bare hG fun y hy => ?_
      rcases Array.mem_push.mp hy with h' | rfl
      · exact hb0 y h'
      · exact hgs
end Mine
namespace Mine
local macro_rules | `(tactic| k_room) => `(tactic| ((try simp only [depth_under_make, depth_under_kw, depth_in1, depth_deeper, depth_caller]); (try dsimp only [Ar]); omega))
local macro_rules | `(tactic| k_units) => `(tactic| ((try simp only [units_in1, units_deeper, Around.mark_units, units_caller]); (try dsimp only [Ar]); omega))
local macro_rules | `(tactic| cell_enter) => `(tactic| (refine' enterK ?k1 ?k2 ?k6 ?k7 ?k8 ?k9 ?kB ?_ ?c2 ?c3 ?c4 ?c5; (case k1 => assumption); (case k2 => exact TopRead.nolimit (by assumption)); (case k6 => k_is); (case k7 => k_is); (case k8 => k_room); (case k9 => first | exact BindsTo.of_eq rfl | exact binds_K (by assumption) rfl (by k_is) rfl rfl rfl | fail "k_enter: no rule for these arguments"); (case c5 => decide); (case kB => exact locs rfl); (case c2 => exact rfl); (case c3 => exact rfl); (case c4 => exact rfl); k_whole; intro L' h' F' N' kSz; (try dsimp only); (try k_fold)))
local macro_rules | `(tactic| walk_at "call type:bytes") => `(tactic| (k_here; (with_reducible show wpAny _ _ (call (Value.type _) [Value.bytes _ _]) _ _ _); (with_unfolding_all refine call_bytes_bytes ?_)))

def tupObj (vals : Array Value) : Obj := { cls := .type "tuple", data := .seq vals }
theorem Tab.keeps {h h' : Heap} {ps : Array Value} (x : Tab h ps) (a : ∀ o, h.get? 771 = some o → h'.get? 771 = some o) (b : ∀ o, h.get? 767 = some o → h'.get? 767 = some o) : Tab h' ps := by
  obtain ⟨⟨o, vs, file, tf, flags, tg, inF, text, tt, op, ho, r1, r2, r3, r4, r5, r6, hop, r⟩, ⟨oc, vc, hoc, rc⟩, ht⟩ := x
  exact ⟨⟨o, vs, file, tf, flags, tg, inF, text, tt, op, a _ ho, r1, r2, r3, r4, r5, r6, b _ hop, r⟩, ⟨oc, vc, a _ hoc, rc⟩, b _ ht⟩
theorem items_eq {P : Nat → Value → Prop} {acc vals : Array Value} {n : Nat} (h : ItemsOf P acc n) (hn : n = vals.size) (hP : ∀ j y, P j y → vals[j]? = some y) : acc = vals := by
  apply Array.ext (h.1.trans hn)
  intro i h1 h2
  have := hP i _ (h.2 i acc[i] (Array.getElem?_eq_getElem h1))
  rw [Array.getElem?_eq_getElem h2] at this
  exact (Option.some.inj this).symm
theorem tupE_is (w : World) : ∃ p1 p2, tupE w = .Call (.Name (Str.ofString "tuple") p1) [genE w] [] p2 := ⟨_, _, rfl⟩
theorem tg {w : World} {mg mb : Str → Option Value} {dp un : Nat} {fr : Option (List Env)} {gd : Option (List Code)} {s : Shared} {E : Value → Shared → Prop} {h₀ : Heap} {L l : Addr} {m : Str → Option Value} {news : List (Addr × Obj)} {vals : Array Value} {ps : Array Value} {Q : Value → Shared → Prop}
    (X : (KH w.params).In h₀) (T : TopRead q lw mg mb h₀) (F : Fr h₀ L s.heap m) (hms : m (Str.ofString "stack") = some (.ref l)) (N : News h₀ L s.heap news) (h0 : h₀.get? 767 = none) (hd : dp + 60 < recursionLimit) (hu : un + 300 < cLine)
    (hB : ∃ bm ob, mg "__builtins__" = some (.ref bm) ∧ bm ≠ builtinsNs ∧ h₀.get? bm = some ob ∧ ob.cls = .type "module" ∧ ob.dict = some builtinsNs ∧ ob.data = .plain) (hl : s.heap.IsList l vals) (hv : ∀ v ∈ vals, ∃ b t, v = .bytes b t) (H : Tab s.heap ps) (hb0 : AllBare s.gens) (hvz : vals.size ≤ sizeLine)
    (hret : ∀ vs h' tk g' more, vs = vals → Heap.ExtBut 767 s.heap h' → Tab h' (ps ++ more) → AllBare g' → s.heap.get? h'.objs.size = none → Q (.ref h'.objs.size) { s with heap := h'.push (tupObj vs), toks := tk, gens := g' }) :
    wpAny (model PySem.Challenge.rw_ez0016_01.prog w) (Ar dp un fr gd) (eval (tupE w) (wi_E w L)) Q E s := by
  have X' := X
  revert X; k_fill; intro X
  dsimp only [genE, tupE, ifBody, asVal, arg0, nS, nB, bodyOf, fdOf, top.o_1194, fnS, List.getD, List.getElem?_cons_succ, List.getElem?_cons_zero, Option.getD]
  k_steps
  refine gexp X' T F hms N h0 (by omega) (by omega) hB hl hv H hb0 (fun a h' tk g' fp wr n G P St more W St0 hty hfp ha hn hP hx Ht hwr hbg hG => ?_)
  clear F N hms hB
  k_steps
  refine call_tuple_gen (WalksS.in4_3 W) hty St0 hfp ha (fun s' acc hm hacc => ?_) (by rw [hn]; exact hvz)
  have e := items_eq hacc hn hP
  subst e
  obtain ⟨hmh, hmg, hmd, hmo, hmt⟩ := hm
  obtain ⟨h'', g'', d'', tk'', os''⟩ := s'
  dsimp only at hmh hmg hmd hmo hmt ⊢
  subst hmd hmo
  have w767 : (767 : Nat) ∉ wr := fun z => by
    have := hwr _ z
    rw [H.tab.2] at this; cases this
  have kk : Heap.ExtBut 767 s.heap h'' := fun b o hb e => hmh b o (fun z => by rw [hwr _ z] at e; cases e) (hx b o hb e)
  have w771 : (771 : Nat) ∉ wr := fun z => by
    have := hwr _ z
    obtain ⟨⟨o, vs, e, _⟩, _⟩ := H.tab
    rw [e] at this; cases this
  have Ht' : Tab h'' (ps ++ more) := Ht.keeps (fun o e => hmh _ o w771 e) (fun o e => hmh _ o w767 e)
  refine hret _ h'' tk'' g'' more rfl kk Ht' (hG g'' hmg) ?_
  cases q : s.heap.get? h''.objs.size with
  | none => rfl
  | some o =>
    by_cases z : h''.objs.size = 767
    · have := Heap.lt_size Ht'.tab.2
      rw [z] at this
      exact absurd this (Nat.lt_irrefl _)
    · exact absurd (Heap.lt_size (kk _ _ z q)) (Nat.lt_irrefl _)
end Mine
namespace Mine
local macro_rules | `(tactic| walk_at "zz") => `(tactic| fail "zz")
local macro_rules | `(tactic| k_room) => `(tactic| ((try simp only [depth_under_make, depth_under_kw, depth_in1, depth_deeper, depth_caller]); (try dsimp only [Ar]); omega))
local macro_rules | `(tactic| k_units) => `(tactic| ((try simp only [units_in1, units_deeper, Around.mark_units, units_caller]); (try dsimp only [Ar]); omega))
local macro_rules | `(tactic| cell_enter) => `(tactic| (refine' enterK ?k1 ?k2 ?k6 ?k7 ?k8 ?k9 ?kB ?_ ?c2 ?c3 ?c4 ?c5; (case k1 => assumption); (case k2 => exact TopRead.nolimit (by assumption)); (case k6 => k_is); (case k7 => k_is); (case k8 => k_room); (case k9 => first | exact BindsTo.of_eq rfl | exact binds_K (by assumption) rfl (by k_is) rfl rfl rfl | fail "k_enter: no rule for these arguments"); (case c5 => decide); (case kB => exact locs rfl); (case c2 => exact rfl); (case c3 => exact rfl); (case c4 => exact rfl); k_whole; intro L' h' F' N' kSz; (try dsimp only); (try k_fold)))
local macro_rules | `(tactic| walk_at "call type:bytes") => `(tactic| (k_here; (with_reducible show wpAny _ _ (call (Value.type _) [Value.bytes _ _]) _ _ _); (with_unfolding_all refine call_bytes_bytes ?_)))

noncomputable abbrev wDict (w : World) (t : Tok) (D : Addr) : Obj := dictOf [{ hash := PyData.keyHash w.params (Str.ofString "stack"), key := .str (Str.ofString "stack") t, val := .ref D }] 1
abbrev tabO (ps : Array Value) : Obj := { cls := .none, data := .fields ps }
theorem tab_mk {w : World} {h₀ h : Heap} {L : Addr} {m : Str → Option Value} {ps : Array Value} (X : (KH w.params).In h₀) (F : Fr h₀ L h m) (e : h.get? 767 = some (tabO ps)) (ht : TriplesOk ps.toList) : Tab h ps :=
  ⟨⟨Mine.top.o_1193 w.params, _, _, _, _, _, _, _, _, _, F.keep _ _ (X 771 _ (by rfl)), rfl, rfl, rfl, rfl, rfl, rfl, e, rfl, ht, by decide⟩, ⟨_, _, F.keep _ _ (X 771 (Mine.top.o_1193 w.params) (by rfl)), rfl, rfl, rfl⟩, e⟩
theorem Tab.triples {h : Heap} {ps : Array Value} (x : Tab h ps) : TriplesOk ps.toList := by
  obtain ⟨⟨o, vs, file, tf, flags, tg, inF, text, tt, op, ho, r1, r2, r3, r4, r5, r6, hop, hpd, htr, _⟩, _, ht⟩ := x
  rw [ht] at hop
  cases hop; cases hpd
  exact htr
theorem fr_tab {h₀ h h' : Heap} {L : Addr} {m : Str → Option Value} {news : List (Addr × Obj)} {o₀ o : Obj} (F : Fr h₀ L h m) (N : News h₀ L h ((767, o₀) :: news)) (hx : Heap.ExtBut 767 h h') : Fr h₀ L (h'.push o) m := by
  obtain ⟨a, b, c⟩ := N _ (.head _)
  have hL : L ≠ 767 := fun z => b z.symm
  exact ⟨F.ns.at' fun o e => Heap.get?_push_of_some _ (hx _ _ hL e), fun b' o e => Heap.get?_push_of_some _ (hx _ _ (fun z => by rw [z] at e; rw [c] at e; cases e) (F.keep _ _ e)), F.above⟩
theorem news_tab {h₀ h h' : Heap} {L : Addr} {m : Str → Option Value} {news : List (Addr × Obj)} {ps ps' : Array Value} {vals : Array Value} (F : Fr h₀ L h m) (N : News h₀ L h ((767, tabO ps) :: news)) (hn : ∀ p ∈ news, p.1 ≠ 767) (hx : Heap.ExtBut 767 h h') (Ht : Tab h' ps') (hf : h.get? h'.objs.size = none) :
    News h₀ L (h'.push (tupObj vals)) ((h'.objs.size, tupObj vals) :: (767, tabO ps') :: news) ∧ ∀ p ∈ (767, tabO ps') :: news, p.1 < h'.objs.size := by
  obtain ⟨a, b, c⟩ := N _ (.head _)
  have keep : ∀ p ∈ news, h'.get? p.1 = some p.2 := fun p hp => hx _ _ (hn p hp) (N _ (.tail _ hp)).1
  refine ⟨fun p hp => ?_, fun p hp => ?_⟩
  · rcases List.mem_cons.mp hp with rfl | hp
    · refine ⟨Heap.get?_push_size _ rfl, fun z => ?_, ?_⟩
      · have z : h'.objs.size = L := z
        obtain ⟨oL, _, _, hL, _⟩ := F.ns
        rw [← z] at hL
        rw [hf] at hL; cases hL
      · show h₀.get? h'.objs.size = none
        cases q : h₀.get? h'.objs.size with
        | none => rfl
        | some o => have := F.keep _ _ q; rw [hf] at this; cases this
    rcases List.mem_cons.mp hp with rfl | hp
    · exact ⟨Heap.get?_push_of_some _ Ht.tab.2, b, c⟩
    · exact ⟨Heap.get?_push_of_some _ (keep p hp), (N _ (.tail _ hp)).2⟩
  · rcases List.mem_cons.mp hp with rfl | hp
    · exact Heap.lt_size Ht.tab.2
    · exact Heap.lt_size (keep p hp)

noncomputable abbrev oct_E (w : World) (L : Addr) : Env := envOf (Str.ofString "is_octets") (fdOf (top.o_1081 w.params)).scope L 665 (.ref 664)

theorem oct_b {w : World} {mg mb : Str → Option Value} {dp un : Nat} {fr : Option (List Env)} {gd : Option (List Code)} {s : Shared} {E : Value → Shared → Prop}
    {h₀ : Heap} {L : Addr} {m : Str → Option Value} {news : List (Addr × Obj)} {Q : Flow → Shared → Prop} (l : Addr) {vals : Array Value} {c : Nat}
    (X : (KH w.params).In h₀) (T : TopRead q lw mg mb h₀) (F : Fr h₀ L s.heap (fun y => if y = Str.ofString "value" then some (.ref l) else m y)) (N : News h₀ L s.heap ((l, listOf vals c) :: news)) (hd : dp + 30 < recursionLimit) (hu : un + 230 < cLine)
    (hret : ∀ m' h' tk', Fr h₀ L h' m' → News h₀ L h' ((l, listOf vals c) :: news) → Q (.ret (.bool false)) { s with heap := h', toks := tk' }) :
    wpAny (model PySem.Challenge.rw_ez0016_01.prog w) (Ar dp un fr gd) (execs (bodyOf (fdOf (top.o_1081 w.params))) (oct_E w L)) Q E s := by
  revert X; k_fill; intro X
  dsimp only [bodyOf, fdOf, top.o_1081, fnS, List.getD, List.getElem?_cons_succ, List.getElem?_cons_zero, Option.getD]
  k_steps
  all_goals (try (with_reducible rename Fr _ _ _ _ => FF))
  all_goals (try (with_reducible rename News _ _ _ _ => NN))
  exact hret _ _ _ FF (fun p hp => NN p (.tail _ hp))

local macro_rules | `(tactic| walk_at "truthy ref") => `(tactic| (k_here; (with_reducible show wpAny _ _ (truthy (Value.ref _)) _ _ _); k_dflt ((with_reducible rename News _ _ _ _ => NN); refine' wpAny_truthy_list ?hl ?hf ?_; (case hl => exact News.isList NN (by k_mem)); (case hf => omega))))
local macro_rules | `(tactic| walk_at "eval Call") => `(tactic| (k_here; (with_reducible show wpAny _ _ (eval (Expr.Call (Expr.Name _ _) [Expr.GeneratorExp _ _ _ _] [] _) _) _ _ _); k_dflt ((with_reducible rename Fr _ _ _ _ => FF); (with_reducible rename News _ _ _ _ => NN); (with_reducible rename Frag.In _ _ => XX); (with_reducible rename TopRead _ _ _ _ _ => TT); refine' tg XX TT FF ?hms NN ?h0 ?hd ?hu ?hB ?hl ?hv ?H ?hb0 ?hvz ?_; (case hms => rfl); (case h0 => assumption); (case hd => k_room); (case hu => k_units); (case hB => assumption); (case hl => exact News.isList NN (by k_mem)); (case hv => assumption); (case H => exact tab_mk XX FF (NN _ (.head _)).1 (by assumption)); (case hb0 => assumption); (case hvz => exact Nat.le_trans (show _ ≤ 4 by assumption) (Nat.le_of_ble_eq_true rfl)); (intro vs h' tk' g' more hvs' hx' Ht' hg' hf'; (have F' := fr_tab (o := tupObj vs) FF NN hx'); obtain ⟨N', l1'⟩ := news_tab (vals := vs) FF NN (by assumption) hx' Ht' hf'; (have ht' := Ht'.triples); k_lt l1'; clear FF NN hx' Ht' hf'; (try dsimp only at F' N' l1' ⊢)))))

theorem n_1 {w : World} {mg mb : Str → Option Value} {dp un : Nat} {fr : Option (List Env)} {gd : Option (List Code)} {s : Shared} {E : Value → Shared → Prop}
    {h₀ : Heap} {L : Addr} {m : Str → Option Value} {news : List (Addr × Obj)} {Q : Flow → Shared → Prop} (l x dx : Addr) {vals ps : Array Value} {c : Nat} (h0 : h₀.get? 767 = none) (hB : ∃ bm ob, mg "__builtins__" = some (.ref bm) ∧ bm ≠ builtinsNs ∧ h₀.get? bm = some ob ∧ ob.cls = .type "module" ∧ ob.dict = some builtinsNs ∧ ob.data = .plain) (hv : ∀ v ∈ vals, ∃ b t, v = .bytes b t) (hvs : vals.size ≤ 4) (htr : TriplesOk ps.toList) (hb0 : AllBare s.gens) (hn : ∀ p ∈ (x, instObj 811 dx) :: (dx, dictOf [] 0) :: (l, listOf vals c) :: [], p.1 ≠ 767) (hxd : @LT.lt Nat _ dx x) (hld : @LT.lt Nat _ l dx) (h7 : @LT.lt Nat _ 767 l)
    (X : (KH w.params).In h₀) (T : TopRead q lw mg mb h₀) (F : Fr h₀ L s.heap (fun y => if y = Str.ofString "self" then some (.ref x) else if y = Str.ofString "stack" then some (.ref l) else if y = Str.ofString "check_validity" then some (.bool true) else m y)) (N : News h₀ L s.heap ((767, tabO ps) :: (x, instObj 811 dx) :: (dx, dictOf [] 0) :: (l, listOf vals c) :: [])) (hd : dp + 80 < recursionLimit) (hu : un + 360 < cLine)
    (hret : ∀ (D : Addr) (t : Tok) (vs : Array Value) h' tk' g' (ps' more : Array Value), vs = vals → ps' = ps ++ more → (@LT.lt Nat _ 767 D ∧ @LT.lt Nat _ x D ∧ @LT.lt Nat _ dx D ∧ @LT.lt Nat _ l D) → TriplesOk ps'.toList → Fr h₀ L h' (fun y => if y = Str.ofString "self" then some (.ref x) else if y = Str.ofString "stack" then some (.ref l) else if y = Str.ofString "check_validity" then some (.bool true) else m y) → News h₀ L h' ((D, tupObj vs) :: (767, tabO ps') :: (x, instObj 811 dx) :: (dx, wDict w t D) :: (l, listOf vals c) :: []) → AllBare g' → Q .next { s with heap := h', toks := tk', gens := g' }) :
    wpAny (model PySem.Challenge.rw_ez0016_01.prog w) (Ar dp un fr gd) (exec (nS w 1) (wi_E w L)) Q E s := by
  revert X; k_fill; intro X
  dsimp only [nS, nB, bodyOf, fdOf, top.o_1194, fnS, List.getD, List.getElem?_cons_succ, List.getElem?_cons_zero, Option.getD]
  k_steps
  all_goals (try (with_reducible rename Fr _ _ _ _ => FF))
  all_goals (try (with_reducible rename News _ _ _ _ => NN))
  all_goals
    first
    | exact hret _ _ #[] _ _ _ ps #[] (Array.isEmpty_iff.mp (by assumption)).symm (by simp) (by assumption) (by assumption) FF NN (by assumption)
    | exact hret _ _ _ _ _ _ _ _ (by assumption) rfl (by assumption) (by assumption) FF NN (by assumption)
    | trace_state
end Mine
namespace Mine
local macro_rules | `(tactic| k_room) => `(tactic| ((try simp only [depth_under_make, depth_under_kw, depth_in1, depth_deeper, depth_caller]); (try dsimp only [Ar]); omega))
local macro_rules | `(tactic| k_units) => `(tactic| ((try simp only [units_in1, units_deeper, Around.mark_units, units_caller]); (try dsimp only [Ar]); omega))
local macro_rules | `(tactic| cell_enter) => `(tactic| (refine' enterK ?k1 ?k2 ?k6 ?k7 ?k8 ?k9 ?kB ?_ ?c2 ?c3 ?c4 ?c5; (case k1 => assumption); (case k2 => exact TopRead.nolimit (by assumption)); (case k6 => k_is); (case k7 => k_is); (case k8 => k_room); (case k9 => first | exact BindsTo.of_eq rfl | exact binds_K (by assumption) rfl (by k_is) rfl rfl rfl | fail "k_enter: no rule for these arguments"); (case c5 => decide); (case kB => exact locs rfl); (case c2 => exact rfl); (case c3 => exact rfl); (case c4 => exact rfl); k_whole; intro L' h' F' N' kSz; (try dsimp only); (try k_fold)))
local macro_rules | `(tactic| walk_at "call type:bytes") => `(tactic| (k_here; (with_reducible show wpAny _ _ (call (Value.type _) [Value.bytes _ _]) _ _ _); (with_unfolding_all refine call_bytes_bytes ?_)))

theorem hide_in {h h₁ : Heap} {L l : Addr} {m : Str → Option Value} {o : Obj} {news : List (Addr × Obj)} (F : Fr h L h₁ m) (N : News h L h₁ news) (e : h.get? l = some o) : Fr (h.hide l) L h₁ m ∧ News (h.hide l) L h₁ ((l, o) :: news) := by
  have sub : ∀ b o', (h.hide l).get? b = some o' → h.get? b = some o' := fun b o' e => Heap.of_hide e
  refine ⟨⟨F.ns, fun b o' e => F.keep _ _ (sub _ _ e), by rw [Heap.hide_size]; exact F.above⟩, fun p hp => ?_⟩
  rcases List.mem_cons.mp hp with rfl | hp
  · exact ⟨F.keep _ _ e, Nat.ne_of_lt (Nat.lt_of_lt_of_le (Heap.lt_size e) F.above), Heap.hide_self ..⟩
  · refine ⟨(N p hp).1, (N p hp).2.1, ?_⟩
    cases q : (h.hide l).get? p.1 with
    | none => rfl
    | some o' => have := sub _ _ q; rw [(N p hp).2.2] at this; cases this
theorem hide_out {h h' : Heap} {l : Addr} {o : Obj} (k : Ext (h.hide l) h') (e : h.get? l = some o) (e' : h'.get? l = some o) : Ext h h' := fun b o' q => by
  by_cases z : b = l
  · subst z; rw [e] at q; cases q; exact e'
  · exact k _ _ ((Heap.hide_ne h z).trans q)
theorem ext_hide {h₀ h : Heap} {l : Addr} (hE : Ext h₀ h) (h0 : h₀.get? l = none) : Ext h₀ (h.hide l) := fun b o e => (Heap.hide_ne h (fun z => by rw [z] at e; rw [h0] at e; cases e)).trans (hE _ _ e)
theorem oct_p {w : World} {mg mb : Str → Option Value} {dp un : Nat} {fr : Option (List Env)} {gd : Option (List Code)} {s : Shared} {Q E : Value → Shared → Prop} {h₀ : Heap} (l : Addr) {vals : Array Value} {c : Nat} (hl : s.heap.get? l = some (listOf vals c)) (h0 : h₀.get? l = none) (hE : Ext h₀ s.heap)
    (X : (KH w.params).In h₀) (T : TopRead q lw mg mb h₀) (hd : dp + 31 < recursionLimit) (hu : un + 234 < cLine)
    (hret : ∀ h' tk', Ext s.heap h' → Q (.bool false) { s with heap := h', toks := tk' }) :
    wpAny (model RP w) (Ar dp un fr gd) (call (.ref 665) [.ref l]) Q E s := by
  refine wpAny_call ?_
  refine enterK (K := KH w.params) (f := 665) (X.keeps hE) (T.keeps hE).nolimit (by rfl) (by rfl) (by show dp < recursionLimit; omega) (binds := [(Str.ofString "value", .ref l)]) (BindsTo.of_eq rfl) (fun x hx => ?_) (fun L' h₁ F N hL => ?_) (by rfl) (by rfl) (by rfl) ?_
  · simp only [List.mem_cons, List.not_mem_nil, or_false] at hx
    rcases hx with rfl <;> rfl
  · obtain ⟨F₁, N₁⟩ := hide_in F N hl
    refine oct_b (dp := dp + 1) (un := un + 3) (fr := fr.map (oct_E w L' :: ·)) (gd := gd) (h₀ := s.heap.hide l) (L := L') (m := fun _ => none) (news := []) l (X.keeps (ext_hide hE h0)) (T.keeps (ext_hide hE h0)) (fr_ext F₁ fun y => lookup1 y) N₁ (by omega) (by omega) (fun m' h' tk' F' N' => hret h' tk' (hide_out F'.keep hl (N' _ (.head _)).1))
  · intro x hx
    revert x
    dsimp only [bodyOf, fdOf, top.o_1081, fnS]
    decide
local macro_rules | `(tactic| walk_at "call ref") => `(tactic| (k_here; (with_reducible show wpAny _ _ (call (Value.ref 665) [Value.ref _]) _ _ _); k_dflt ((with_reducible rename Fr _ _ _ _ => FF); (with_reducible rename News _ _ _ _ => NN); (with_reducible rename Frag.In _ _ => XX); (with_reducible rename TopRead _ _ _ _ _ => TT); refine' oct_p _ ?kl ?k0 FF.keep XX TT ?kd ?ku ?_; (case kl => exact (NN _ (.tail _ (.tail _ (.tail _ (.head _))))).1); (case k0 => exact (NN _ (.tail _ (.tail _ (.tail _ (.head _))))).2.2); (case kd => k_room); (case ku => k_units); (intro h' tk' hk'; (have F' := Fr.keeps FF hk'); (have N' := News.keeps NN hk'); clear FF NN hk'; (try dsimp only at F' N' ⊢)))))

noncomputable abbrev vB (w : World) : List Stmt := bodyOf (fdOf (top.o_1208 w.params))
noncomputable abbrev vS (w : World) (i : Nat) : Stmt := (vB w).getD i (.Pass ⟨0, 0, 0, 0⟩)
noncomputable abbrev v_E (w : World) (L : Addr) : Env := envOf (Str.ofString "Witness.assert_valid") (fdOf (top.o_1208 w.params)).scope L 786 (.ref 785)
theorem vB_is (w : World) : ∃ pos, vB w = [.For (forTgt (vS w 0)) (forIter (vS w 0)) (forBody (vS w 0)) [] pos] := ⟨_, rfl⟩

theorem v_iter {w : World} {mg mb : Str → Option Value} {dp un : Nat} {fr : Option (List Env)} {gd : Option (List Code)} {s : Shared} {E : Value → Shared → Prop}
    {h₀ : Heap} {L : Addr} {m : Str → Option Value} {news : List (Addr × Obj)} {Q : Value → Shared → Prop} (x dx D : Addr) (t : Tok) {vals : Array Value}
    (X : (KH w.params).In h₀) (T : TopRead q lw mg mb h₀) (F : Fr h₀ L s.heap (fun y => if y = Str.ofString "self" then some (.ref x) else m y)) (N : News h₀ L s.heap ((D, tupObj vals) :: (x, instObj 811 dx) :: (dx, wDict w t D) :: [])) (hd : dp + 30 < recursionLimit) (hu : un + 230 < cLine)
    (hret : ∀ h' tk', Fr h₀ L h' (fun y => if y = Str.ofString "self" then some (.ref x) else m y) → News h₀ L h' ((D, tupObj vals) :: (x, instObj 811 dx) :: (dx, wDict w t D) :: []) → wpAny (model PySem.Challenge.rw_ez0016_01.prog w) (Ar dp un fr gd) (pyIter (.ref D)) Q E { s with heap := h', toks := tk' }) :
    wpAny (model PySem.Challenge.rw_ez0016_01.prog w) (Ar dp un fr gd) (eval (forIter (vS w 0)) (v_E w L)) (fun v s₁ => wpAny (model PySem.Challenge.rw_ez0016_01.prog w) (Ar dp un fr gd) (pyIter v) Q E s₁) E s := by
  revert X; k_fill; intro X
  dsimp only [vS, vB, forTgt, forIter, forBody, bodyOf, fdOf, top.o_1208, fnS, List.getD, List.getElem?_cons_succ, List.getElem?_cons_zero, Option.getD]
  k_steps
  all_goals (try (with_reducible rename Fr _ _ _ _ => FF))
  all_goals (try (with_reducible rename News _ _ _ _ => NN))
  exact hret _ _ FF NN

theorem v_turn {w : World} {mg mb : Str → Option Value} {dp un : Nat} {fr : Option (List Env)} {gd : Option (List Code)} {s : Shared} {E : Value → Shared → Prop}
    {h₀ : Heap} {L : Addr} {m : Str → Option Value} {news : List (Addr × Obj)} {Q : Flow → Shared → Prop} {J : (Str → Option Value) → Prop} (b : Array UInt8) (tb : Tok)
    (X : (KH w.params).In h₀) (T : TopRead q lw mg mb h₀) (F : Fr h₀ L s.heap m) (N : News h₀ L s.heap news) (hd : dp + 30 < recursionLimit) (hu : un + 230 < cLine)
    (hJ : ∀ m', J m') :
    wpAny (model PySem.Challenge.rw_ez0016_01.prog w) (Ar dp un fr gd) (assign (forTgt (vS w 0)) (v_E w L) (.bytes b tb)) (fun _ s₂ => wpAny (model PySem.Challenge.rw_ez0016_01.prog w) (Ar dp un fr gd) (execs (forBody (vS w 0)) (v_E w L)) (GPost2 h₀ L J news s Q) E s₂) E s := by
  revert X; k_fill; intro X
  dsimp only [vS, vB, forTgt, forIter, forBody, bodyOf, fdOf, top.o_1208, fnS, List.getD, List.getElem?_cons_succ, List.getElem?_cons_zero, Option.getD]
  k_steps
  all_goals (try (with_reducible rename Fr _ _ _ _ => FF))
  all_goals (try (with_reducible rename News _ _ _ _ => NN))
  all_goals exact GPost2.intro FF NN (fun p hp => hp) (fun h => h) (hJ _)

theorem av_p {w : World} {mg mb : Str → Option Value} {dp un : Nat} {fr : Option (List Env)} {gd : Option (List Code)} {s : Shared} {Q E : Value → Shared → Prop} {h₀ : Heap} (x dx D : Addr) (t : Tok) {vals : Array Value} (hE : Ext h₀ s.heap) (nx : h₀.get? x = none) (nd : h₀.get? dx = none) (nD : h₀.get? D = none)
    (ex : s.heap.get? x = some (instObj 811 dx)) (ed : s.heap.get? dx = some (wDict w t D)) (eD : s.heap.get? D = some (tupObj vals)) (h1 : x ≠ dx) (h2 : D ≠ dx) (h3 : D ≠ x) (hv : ∀ v ∈ vals, ∃ b t, v = .bytes b t)
    (X : (KH w.params).In h₀) (T : TopRead q lw mg mb h₀) (hd : dp + 31 < recursionLimit) (hu : un + 234 < cLine)
    (hret : ∀ h' tk' g', Ext s.heap h' → (AllBare s.gens → AllBare g') → Q .none { s with heap := h', toks := tk', gens := g' }) :
    wpAny (model RP w) (Ar dp un fr gd) (call (.ref 786) [.ref x]) Q E s := by
  refine wpAny_call ?_
  have ex1 : (s.heap.hide dx).get? x = some (instObj 811 dx) := (Heap.hide_ne _ h1).trans ex
  have eD1 : (s.heap.hide dx).get? D = some (tupObj vals) := (Heap.hide_ne _ h2).trans eD
  have eD2 : ((s.heap.hide dx).hide x).get? D = some (tupObj vals) := (Heap.hide_ne _ h3).trans eD1
  have k0 := ext_hide (ext_hide (ext_hide hE nd) nx) nD
  refine enterK (K := KH w.params) (f := 786) (X.keeps hE) (T.keeps hE).nolimit (by rfl) (by rfl) (by show dp < recursionLimit; omega) (binds := [(Str.ofString "self", .ref x)]) (BindsTo.of_eq rfl) (fun x hx => ?_) (fun L' h₁ F N hL => ?_) (by rfl) (by rfl) (by rfl) ?_
  · simp only [List.mem_cons, List.not_mem_nil, or_false] at hx
    rcases hx with rfl <;> rfl
  · obtain ⟨F₁, N₁⟩ := hide_in F N ed
    obtain ⟨F₂, N₂⟩ := hide_in F₁ N₁ ex1
    obtain ⟨F₃, N₃⟩ := hide_in F₂ N₂ eD2
    show wpAny (model RP w) ((Ar dp un fr gd).deeper (v_E w L')) (execs (vB w) (v_E w L')) _ _ _
    obtain ⟨pos, hB⟩ := vB_is w
    rw [hB]
    refine wpAny_execs_cons (wpAny_For (v_iter (dp := dp + 1) (un := un + 3) (fr := fr.map (v_E w L' :: ·)) (gd := gd) (L := L') (m := fun _ => none) (news := []) x dx D t (vals := vals) (X.keeps k0) (T.keeps k0) (fr_ext F₃ fun y => lookup1 y) N₃ (by omega) (by omega) (fun h₄ tk₄ F₄ N₄ => ?_)) (by intro _; rfl))
    refine loop_seq (b := false) (env := v_E w L') (items := vals) (fun _ _ => True) rfl F₄ N₄ ⟨_, (N₄ _ (.head _)).1, rfl, _, rfl⟩ (N₄ _ (.head _)).2.1 True.intro (fun j v m₁ h tk g news₁ E' hvj _ hg F₅ N₅ hsub hseq => ?_) (fun m₁ h tk g _ hg F₅ N₅ => ?_)
    · obtain ⟨b, tb, rfl⟩ := hv v (Array.mem_of_getElem? hvj)
      exact v_turn (dp := dp + 1) (un := un + 3) (fr := fr.map (v_E w L' :: ·)) (gd := gd) (L := L') b tb (X.keeps k0) (T.keeps k0) F₅ N₅ (by omega) (by omega) fun _ => True.intro
    · refine wpAny_execs_nil ?_
      refine hret h tk g (hide_out (hide_out (hide_out F₅.keep eD2 (N₅ _ (.head _)).1) ex1 (N₅ _ (.tail _ (.head _))).1) ed (N₅ _ (.tail _ (.tail _ (.head _)))).1) hg
  · intro x hx
    revert x
    dsimp only [bodyOf, fdOf, top.o_1208, fnS]
    decide

theorem n_0 {w : World} {mg mb : Str → Option Value} {dp un : Nat} {fr : Option (List Env)} {gd : Option (List Code)} {s : Shared} {E : Value → Shared → Prop}
    {h₀ : Heap} {L : Addr} {m : Str → Option Value} {news : List (Addr × Obj)} {Q : Flow → Shared → Prop} (l x dx : Addr) {vals ps : Array Value} {c : Nat}
    (X : (KH w.params).In h₀) (T : TopRead q lw mg mb h₀) (F : Fr h₀ L s.heap (fun y => if y = Str.ofString "self" then some (.ref x) else if y = Str.ofString "stack" then some (.ref l) else if y = Str.ofString "check_validity" then some (.bool true) else m y)) (N : News h₀ L s.heap ((767, tabO ps) :: (x, instObj 811 dx) :: (dx, dictOf [] 0) :: (l, listOf vals c) :: [])) (hd : dp + 40 < recursionLimit) (hu : un + 260 < cLine)
    (hret : ∀ h' tk', Fr h₀ L h' (fun y => if y = Str.ofString "self" then some (.ref x) else if y = Str.ofString "stack" then some (.ref l) else if y = Str.ofString "check_validity" then some (.bool true) else m y) → News h₀ L h' ((767, tabO ps) :: (x, instObj 811 dx) :: (dx, dictOf [] 0) :: (l, listOf vals c) :: []) → Q .next { s with heap := h', toks := tk' }) :
    wpAny (model PySem.Challenge.rw_ez0016_01.prog w) (Ar dp un fr gd) (exec (nS w 0) (wi_E w L)) Q E s := by
  revert X; k_fill; intro X
  dsimp only [nS, nB, bodyOf, fdOf, top.o_1194, fnS, List.getD, List.getElem?_cons_succ, List.getElem?_cons_zero, Option.getD]
  k_steps
  all_goals (try (with_reducible rename Fr _ _ _ _ => FF))
  all_goals (try (with_reducible rename News _ _ _ _ => NN))
  exact hret _ _ FF NN

theorem n_2 {w : World} {mg mb : Str → Option Value} {dp un : Nat} {fr : Option (List Env)} {gd : Option (List Code)} {s : Shared} {E : Value → Shared → Prop}
    {h₀ : Heap} {L : Addr} {m : Str → Option Value} {news : List (Addr × Obj)} {Q : Flow → Shared → Prop} (l x dx D : Addr) (t : Tok) {vals ps : Array Value} {c : Nat} (hv : ∀ v ∈ vals, ∃ b t, v = .bytes b t) (h1 : x ≠ dx) (h2 : D ≠ dx) (h3 : D ≠ x)
    (X : (KH w.params).In h₀) (T : TopRead q lw mg mb h₀) (F : Fr h₀ L s.heap (fun y => if y = Str.ofString "self" then some (.ref x) else if y = Str.ofString "stack" then some (.ref l) else if y = Str.ofString "check_validity" then some (.bool true) else m y)) (N : News h₀ L s.heap ((D, tupObj vals) :: (767, tabO ps) :: (x, instObj 811 dx) :: (dx, wDict w t D) :: (l, listOf vals c) :: [])) (hd : dp + 80 < recursionLimit) (hu : un + 360 < cLine)
    (hret : ∀ h' tk' g', Fr h₀ L h' (fun y => if y = Str.ofString "self" then some (.ref x) else if y = Str.ofString "stack" then some (.ref l) else if y = Str.ofString "check_validity" then some (.bool true) else m y) → News h₀ L h' ((D, tupObj vals) :: (767, tabO ps) :: (x, instObj 811 dx) :: (dx, wDict w t D) :: (l, listOf vals c) :: []) → (AllBare s.gens → AllBare g') → Q .next { s with heap := h', toks := tk', gens := g' }) :
    wpAny (model PySem.Challenge.rw_ez0016_01.prog w) (Ar dp un fr gd) (exec (nS w 2) (wi_E w L)) Q E s := by
  revert X; k_fill; intro X
  dsimp only [nS, nB, bodyOf, fdOf, top.o_1194, fnS, List.getD, List.getElem?_cons_succ, List.getElem?_cons_zero, Option.getD]
  k_steps
  all_goals (try (with_reducible rename Fr _ _ _ _ => FF))
  all_goals (try (with_reducible rename News _ _ _ _ => NN))
  show wpAny _ _ (call (.ref 786) [.ref x]) _ _ _
  with_reducible rename Frag.In _ _ => XX
  with_reducible rename TopRead _ _ _ _ _ => TT
  refine av_p x dx D t FF.keep (NN _ (.tail _ (.tail _ (.head _)))).2.2 (NN _ (.tail _ (.tail _ (.tail _ (.head _))))).2.2 (NN _ (.head _)).2.2 (NN _ (.tail _ (.tail _ (.head _)))).1 (NN _ (.tail _ (.tail _ (.tail _ (.head _))))).1 (NN _ (.head _)).1 h1 h2 h3 hv XX TT (by omega) (by omega) (fun h' tk' g' hk hg => ?_)
  exact wpAny_execs_nil (hret h' tk' g' (Fr.keeps FF hk) (News.keeps NN hk) hg)
end Mine
namespace Mine
theorem ns_some_of {K : Frag} {h : Heap} {N : Addr} {mg : Str → Option Value} {n : Str} {v : Value} (X : K.In h) (G : h.Ns N mg) (e : nsIn K N n = some (some v)) : mg n = some v := by
  obtain ⟨o, es, ep, ho, hd, _, hf⟩ := G
  unfold nsIn at e
  split at e
  · rename_i c d es' n' sl q
    have := X _ _ q
    rw [ho] at this
    cases this
    cases hd
    split at e
    · rename_i ent he
      cases e
      rw [← hf]
      unfold nsFind findBy
      rw [← Array.find?_toList, he]
      rfl
    · split at e <;> cases e
  · cases e
theorem init_binds {w : World} {s : Shared} {x l : Addr} (X : (KH w.params).In s.heap) : BindsTo s (fdOf (top.o_1194 w.params)) ⟨[.ref x, .ref l], []⟩ [(Str.ofString "self", .ref x), (Str.ofString "stack", .ref l), (Str.ofString "check_validity", .bool true)] := by
  intro M A E Q hq
  show wpAny M A (seqItems? (.ref 764) >>= _) Q E s
  refine wpAny_bind (wpAny_seqItems (X 764 _ (by rfl)) rfl ?_)
  have e1 : (Str.ofString "check_validity" == Str.ofString "self") = false := by decide
  have e2 : (Str.ofString "check_validity" == Str.ofString "stack") = false := by decide
  have e3 : (Str.ofString "stack" == Str.ofString "self") = false := by decide
  have e4 : (Str.ofString "self" == Str.ofString "stack") = false := by decide
  have e5 : (Str.ofString "self" == Str.ofString "check_validity") = false := by decide
  have e6 : (Str.ofString "stack" == Str.ofString "check_validity") = false := by decide
  dsimp only [fdOf, top.o_1194]
  simp [List.lookup, List.filter, e1, e2, e3, e4, e5, e6]
  refine wpAny_bind (wpAny_nsGet (.of_isNs (isNs_of_in X (by kernel_rfl))) ?_)
  rw [ns_some_of (v := .bool true) X (.of_isNs (isNs_of_in X (by kernel_rfl))) (by kernel_rfl)]
  simp [List.lookup, List.filter, e1, e2, e3, e4, e5, e6]
  exact wpAny_pure hq
end Mine
namespace Mine
theorem lookup3 {x x' x'' : String} {v v' v'' : Value} (y : Str) : List.lookup y [(Str.ofString x, v), (Str.ofString x', v'), (Str.ofString x'', v'')] = if y = Str.ofString x then some v else if y = Str.ofString x' then some v' else if y = Str.ofString x'' then some v'' else none := by
  rw [List.lookup_cons, lookup2]
  by_cases h1 : y = Str.ofString x
  · subst h1; simp
  · have e1 : (y == Str.ofString x) = false := by simp [h1]
    rw [e1, if_neg h1]
theorem nB_is (w : World) : nB w = [nS w 0, nS w 1, nS w 2] := rfl
theorem under_is (dp un : Nat) (fr : Option (List Env)) (gd : Option (List Code)) (C : Addr) (vals : List Value) (kw : List (Str × Value)) : ∃ un' fr' gd', un' ≤ un + 8 ∧ (Ar dp un fr gd).under (.builtin "type.__call__" ⟨.ref C :: vals, kw⟩) = Ar (dp + 1) un' fr' gd' := by
  refine ⟨un + (Code.builtin "type.__call__" ⟨.ref C :: vals, kw⟩).cUnits, ((Ar dp un fr gd).under (.builtin "type.__call__" ⟨.ref C :: vals, kw⟩)).frames, ((Ar dp un fr gd).under (.builtin "type.__call__" ⟨.ref C :: vals, kw⟩)).guards, ?_, ?_⟩
  · have : (Code.builtin "type.__call__" ⟨.ref C :: vals, kw⟩).cUnits = 1 := by first | rfl | simp [Code.cUnits, Code.frames, Code.isFrame]
    omega
  · have e := depth_under_kw (Ar dp un fr gd) C vals kw
    unfold Around.under at *
    dsimp only at e ⊢
    rw [e]
/-- making a Witness of a list of byte strings -/
theorem wit_p {w : World} {mg mb : Str → Option Value} {dp un : Nat} {fr : Option (List Env)} {gd : Option (List Code)} {s : Shared} {Q E : Value → Shared → Prop} {h₀ : Heap} (l : Addr) {vals ps : Array Value} {c : Nat} (hE : Ext h₀ s.heap) (h0l : h₀.get? l = none) (h07 : h₀.get? 767 = none)
    (el : s.heap.get? l = some (listOf vals c)) (e7 : s.heap.get? 767 = some (tabO ps)) (htr : TriplesOk ps.toList) (h7l : @LT.lt Nat _ 767 l) (hv : ∀ v ∈ vals, ∃ b t, v = .bytes b t) (hvs : vals.size ≤ 4) (hb0 : AllBare s.gens)
    (hB : ∃ bm ob, mg "__builtins__" = some (.ref bm) ∧ bm ≠ builtinsNs ∧ h₀.get? bm = some ob ∧ ob.cls = .type "module" ∧ ob.dict = some builtinsNs ∧ ob.data = .plain)
    (X : (KH w.params).In h₀) (T : TopRead q lw mg mb h₀) (hd : dp + 120 < recursionLimit) (hu : un + 500 < cLine)
    (hret : ∀ x dx D t h' tk' g' ps' more, ps' = ps ++ more → TriplesOk ps'.toList → Heap.ExtBut 767 s.heap h' → h'.get? 767 = some (tabO ps') → h'.get? x = some (instObj 811 dx) → h'.get? dx = some (wDict w t D) → h'.get? D = some (tupObj vals) →
      s.heap.get? x = none → s.heap.get? dx = none → s.heap.get? D = none → x ≠ dx → D ≠ dx → D ≠ x → AllBare g' → Q (.ref x) { s with heap := h', toks := tk', gens := g' }) :
    wpAny (model RP w) (Ar dp un fr gd) (call (.ref 811) [.ref l]) Q E s := by
  refine wpAny_call ?_
  have Xs := X.keeps hE
  have Ts := T.keeps hE
  obtain ⟨hh, g, d, tk, os⟩ := s
  dsimp only at *
  have hll : l < hh.objs.size := Heap.lt_size el
  have h7s : 767 < hh.objs.size := Heap.lt_size e7
  let dx := hh.objs.size
  let x := hh.objs.size + 1
  refine make_core (makes_of Xs (by kernel_rfl)) (looks_findIn Xs (r := some (.ref 772)) (by kernel_rfl)) (fun self => bind_fn Xs self (by kernel_rfl)) (.inl rfl) ?_
  obtain ⟨un', fr', gd', hun', hA⟩ := under_is dp un fr gd 811 [.ref l] []
  rw [hA]
  have kp : Ext hh ((hh.push emptyDict).push (instObj 811 hh.objs.size)) := fun b o e => Heap.get?_push_of_some _ (Heap.get?_push_of_some _ e)
  have ed : ((hh.push emptyDict).push (instObj 811 hh.objs.size)).get? dx = some (dictOf [] 0) := Heap.get?_push_of_some _ (Heap.get?_push_size _ rfl)
  have ex : ((hh.push emptyDict).push (instObj 811 hh.objs.size)).get? x = some (instObj 811 dx) := by
    have := Heap.get?_push_size (hh.push emptyDict) (o := instObj 811 hh.objs.size) rfl
    rwa [Heap.size_push] at this
  have n1 : l ≠ dx := Nat.ne_of_lt hll
  have n2 : x ≠ l := Nat.ne_of_gt (Nat.lt_succ_of_lt hll)
  have n3 : x ≠ dx := Nat.succ_ne_self _
  have n4 : (767 : Nat) ≠ l := Nat.ne_of_lt h7l
  have n5 : (767 : Nat) ≠ dx := Nat.ne_of_lt h7s
  have n6 : (767 : Nat) ≠ x := Nat.ne_of_lt (Nat.lt_succ_of_lt h7s)
  have fx : hh.get? x = none := Heap.get?_none_of_le (Nat.le_succ _)
  have fd : hh.get? dx = none := Heap.get?_none_of_le (Nat.le_refl _)
  have h0x : h₀.get? x = none := by
    cases q : h₀.get? x with
    | none => rfl
    | some o => have := hE _ _ q; rw [fx] at this; cases this
  have h0d : h₀.get? dx = none := by
    cases q : h₀.get? dx with
    | none => rfl
    | some o => have := hE _ _ q; rw [fd] at this; cases this
  have hE' : Ext h₀ ((hh.push emptyDict).push (instObj 811 hh.objs.size)) := fun b o e => kp _ _ (hE _ _ e)
  refine enterK (K := KH w.params) (f := 772) (Xs.keeps kp) (Ts.keeps kp).nolimit (by rfl) (by rfl) (by show dp + 1 < recursionLimit; omega) (init_binds (Xs.keeps kp)) (fun y hy => ?_) (fun L h₁ F N hL => ?_) (by rfl) (by rfl) (by rfl) ?_
  · simp only [List.mem_cons, List.not_mem_nil, or_false] at hy
    rcases hy with rfl | rfl | rfl <;> rfl
  · have el' := kp _ _ el
    have ed1 : (((hh.push emptyDict).push (instObj 811 hh.objs.size)).hide l).get? dx = some (dictOf [] 0) := (Heap.hide_ne _ (Ne.symm n1)).trans ed
    have ex2 : ((((hh.push emptyDict).push (instObj 811 hh.objs.size)).hide l).hide dx).get? x = some (instObj 811 dx) := (Heap.hide_ne _ n3).trans ((Heap.hide_ne _ n2).trans ex)
    have e73 : (((((hh.push emptyDict).push (instObj 811 hh.objs.size)).hide l).hide dx).hide x).get? 767 = some (tabO ps) := (Heap.hide_ne _ n6).trans ((Heap.hide_ne _ n5).trans ((Heap.hide_ne _ n4).trans (kp _ _ e7)))
    obtain ⟨F1, N1⟩ := hide_in F N el'
    obtain ⟨F2, N2⟩ := hide_in F1 N1 ed1
    obtain ⟨F3, N3⟩ := hide_in F2 N2 ex2
    obtain ⟨F4, N4⟩ := hide_in F3 N3 e73
    have k0 := ext_hide (ext_hide (ext_hide (ext_hide hE' h0l) h0d) h0x) h07
    show wpAny (model RP w) ((Ar (dp + 1) un' fr' gd').deeper (wi_E w L)) (execs (nB w) (wi_E w L)) _ _ _
    rw [nB_is]
    refine wpAny_execs_cons (n_0 (dp := dp + 1 + 1) (un := un' + 3) (fr := fr'.map (wi_E w L :: ·)) (gd := gd') (L := L) (m := fun _ => none) (news := []) l x dx (X.keeps k0) (T.keeps k0) (fr_ext F4 fun y => ?_) N4 (by omega) (by omega) (fun h₂ tk₂ F₂ N₂ => ?_))
    · show List.lookup y [(Str.ofString "check_validity", Value.bool true), (Str.ofString "stack", Value.ref l), (Str.ofString "self", Value.ref x)] = _
      rw [lookup3]
      by_cases h1 : y = Str.ofString "check_validity"
      · subst h1; rfl
      by_cases h2 : y = Str.ofString "stack"
      · subst h2; rfl
      simp only [h1, h2, if_false]
    refine wpAny_execs_cons (n_1 (dp := dp + 1 + 1) (un := un' + 3) (fr := fr'.map (wi_E w L :: ·)) (gd := gd') (L := L) (m := fun _ => none) (news := []) l x dx (Heap.hide_self ..) ?_ hv hvs htr hb0 (fun p hp => ?_) (Nat.lt_succ_self _) hll h7l (X.keeps k0) (T.keeps k0) F₂ N₂ (by omega) (by omega) (fun D t vs h₃ tk₃ g₃ ps' more evs eps hlt htr' F₃ N₃ hb₃ => ?_))
    · obtain ⟨bm, ob, b1, b2, b3, r⟩ := hB
      exact ⟨bm, ob, b1, b2, k0 _ _ b3, r⟩
    · rcases List.mem_cons.mp hp with rfl | hp
      · exact Ne.symm n6
      rcases List.mem_cons.mp hp with rfl | hp
      · exact Ne.symm n5
      · obtain rfl := List.mem_singleton.mp hp
        exact Ne.symm n4
    subst evs
    obtain ⟨d1, d2, d3, d4⟩ := hlt
    refine wpAny_execs_cons (n_2 (dp := dp + 1 + 1) (un := un' + 3) (fr := fr'.map (wi_E w L :: ·)) (gd := gd') (L := L) (m := fun _ => none) (news := []) l x dx D t hv n3 (Nat.ne_of_gt d3) (Nat.ne_of_gt d2) (X.keeps k0) (T.keeps k0) F₃ N₃ (by omega) (by omega) (fun h₄ tk₄ g₄ F₄ N₄ hb₄ => ?_))
    refine wpAny_execs_nil ⟨rfl, ?_⟩
    have iD := N₄ _ (.head _)
    have i7 := N₄ _ (.tail _ (.head _))
    have ix := N₄ _ (.tail _ (.tail _ (.head _)))
    have id := N₄ _ (.tail _ (.tail _ (.tail _ (.head _))))
    have il := N₄ _ (.tail _ (.tail _ (.tail _ (.tail _ (.head _)))))
    have toB : ∀ b o, b ≠ 767 → b ≠ l → hh.get? b = some o → ((((((hh.push emptyDict).push (instObj 811 hh.objs.size)).hide l).hide dx).hide x).hide 767).get? b = some o := fun b o q1 q2 e => by
      have q3 : b ≠ dx := fun z => by rw [z, fd] at e; cases e
      have q4 : b ≠ x := fun z => by rw [z, fx] at e; cases e
      exact (Heap.hide_ne _ q1).trans ((Heap.hide_ne _ q4).trans ((Heap.hide_ne _ q3).trans ((Heap.hide_ne _ q2).trans (kp _ _ e))))
    refine hret x dx D t h₄ tk₄ g₄ ps' more eps htr' (fun b o hb e => ?_) i7.1 ix.1 id.1 iD.1 fx fd ?_ n3 (Nat.ne_of_gt d3) (Nat.ne_of_gt d2) (hb₄ hb₃)
    · by_cases z : b = l
      · subst z
        rw [el] at e; cases e
        exact il.1
      · exact F₄.keep _ _ (toB b o hb z e)
    · cases q : hh.get? D with
      | none => rfl
      | some o =>
        have := toB D o (Nat.ne_of_gt d1) (Nat.ne_of_gt d4) q
        rw [iD.2.2] at this; cases this
  · intro y hy
    revert y
    dsimp only [bodyOf, fdOf, top.o_1194, fnS]
    decide
end Mine
namespace Mine
local macro_rules | `(tactic| k_room) => `(tactic| ((try simp only [depth_under_make, depth_under_kw, depth_in1, depth_deeper, depth_caller]); (try dsimp only [Ar]); omega))
local macro_rules | `(tactic| k_units) => `(tactic| ((try simp only [units_in1, units_deeper, Around.mark_units, units_caller]); (try dsimp only [Ar]); omega))
local macro_rules | `(tactic| cell_enter) => `(tactic| (refine' enterK ?k1 ?k2 ?k6 ?k7 ?k8 ?k9 ?kB ?_ ?c2 ?c3 ?c4 ?c5; (case k1 => assumption); (case k2 => exact TopRead.nolimit (by assumption)); (case k6 => k_is); (case k7 => k_is); (case k8 => k_room); (case k9 => first | exact BindsTo.of_eq rfl | exact binds_K (by assumption) rfl (by k_is) rfl rfl rfl | fail "k_enter: no rule for these arguments"); (case c5 => decide); (case kB => exact locs rfl); (case c2 => exact rfl); (case c3 => exact rfl); (case c4 => exact rfl); k_whole; intro L' h' F' N' kSz; (try dsimp only); (try k_fold)))
local macro_rules | `(tactic| walk_at "call type:bytes") => `(tactic| (k_here; (with_reducible show wpAny _ _ (call (Value.type _) [Value.bytes _ _]) _ _ _); (with_unfolding_all refine call_bytes_bytes ?_)))
local macro_rules | `(tactic| walk_at "call ref") => `(tactic| (k_here; (with_reducible show wpAny _ _ (call (Value.ref 824) [Value.bytes _ _, Value.bool _]) _ _ _); k_dflt ((with_reducible rename Fr _ _ _ _ => FF); (with_reducible rename News _ _ _ _ => NN); (with_reducible rename Frag.In _ _ => XX); (with_reducible rename TopRead _ _ _ _ _ => TT); (with_reducible rename (AllBare _ → AllBare _) => BB); refine' cnt_p _ _ ?kb _ ?ksz _ ?kX ?kT ?kd ?ku ?_; (case kb => assumption); (case ksz => assumption); (case kX => exact Frag.In.keeps XX FF.keep); (case kT => exact TopRead.keeps TT FF.keep); (case kd => k_room); (case ku => k_units); all_goals first | (intro t h' tk' g' hk' hg'; (have F' := Fr.keeps FF hk'); (have N' := News.keeps NN hk'); (have BB' := fun z => hg' (BB z)); clear FF NN hk' BB hg'; (try dsimp only at F' N' BB' ⊢)))))
local macro_rules | `(tactic| walk_at "call ref") => `(tactic| (k_here; (with_reducible show wpAny _ _ (call (Value.ref 824) [Value.bytes _ _] (List.zip _ [Value.bool _])) _ _ _); k_dflt ((with_reducible rename Fr _ _ _ _ => FF); (with_reducible rename News _ _ _ _ => NN); (with_reducible rename Frag.In _ _ => XX); (with_reducible rename TopRead _ _ _ _ _ => TT); (with_reducible rename (AllBare _ → AllBare _) => BB); refine' cnt_k _ _ ?kb _ ?ksz _ _ ?kk ?kX ?kT ?kd ?ku ?_; (case kk => rfl); (case kb => assumption); (case ksz => assumption); (case kX => exact Frag.In.keeps XX FF.keep); (case kT => exact TopRead.keeps TT FF.keep); (case kd => k_room); (case ku => k_units); all_goals first | (intro t h' tk' g' hk' hg'; (have F' := Fr.keeps FF hk'); (have N' := News.keeps NN hk'); (have BB' := fun z => hg' (BB z)); clear FF NN hk' BB hg'; (try dsimp only at F' N' BB' ⊢)))))

local macro_rules | `(tactic| walk_at "truthy ref") => `(tactic| (k_here; (with_reducible show wpAny _ _ (truthy (Value.ref _)) _ _ _); k_dflt ((with_reducible rename News _ _ _ _ => NN); refine' truthy_tuple ?hl ?hf ?_; (case hl => exact ⟨_, (NN _ (.head _)).1, rfl, _, rfl⟩); (case hf => omega))))

theorem last_tup {w : World} {A : Around} {E : Value → Shared → Prop} {s : Shared} {value slice : Expr} {t : Addr} {items : Array Value} {u : Tok} {x : Value} {Q : Value → Shared → Prop} (ht : IsTup s.heap t items) (hz : items.size ≤ 4) (hne : items.isEmpty = false) (hx : items.isEmpty = false → items.back? = some x) (h : Q x s)
    (hs : subscripted slice false (.ref t) (.int (-1) u) = operate [.ref t, .int (-1) u] (getItem (.ref t) (.int (-1) u))) (hg : ∀ r, letTemporaryGo value (.ref t) r = pure ()) :
    wpAny (model RP w) A (subscriptTail value slice (.ref t) (.int (-1) u)) Q E s := by
  have hp : 0 < items.size := by
    rcases Nat.eq_zero_or_pos items.size with q | q
    · rw [Array.isEmpty, q] at hne; cases hne
    · exact q
  have hb := hx hne
  rw [Array.back?_eq_getElem?] at hb
  refine item_tuple ht (by decide) (by decide) (j := items.size - 1) ?_ hb h hs hg
  unfold seqIndex?
  simp
  omega
local macro_rules | `(tactic| walk_at "subscriptTail") => `(tactic| (k_here; (with_reducible show wpAny _ _ (subscriptTail _ _ (Value.ref _) (Value.int (-1) _)) _ _ _); k_dflt ((with_reducible rename News _ _ _ _ => NN); refine' last_tup ?ht ?hz ?hn ?hx ?_ ?hs ?hg; (case ht => exact ⟨_, (NN _ (.head _)).1, rfl, _, rfl⟩); (case hz => assumption); (case hn => assumption); (case hx => assumption); (case hs => with_unfolding_all rfl); (case hg => (intro _; with_unfolding_all rfl)))))

def wpn (ks ls : List Int) (e : Bool) : Int := if ks.getD (Int.toNat 0) 0 = 0 then (if (ks.length : Int) = 22 then 1 else if (ks.length : Int) = 34 ∧ e = false then cnt true ls else 0) else 0

theorem wp_b {w : World} {mg mb : Str → Option Value} {dp un : Nat} {fr : Option (List Env)} {gd : Option (List Code)} {s : Shared} {E : Value → Shared → Prop}
    {h₀ : Heap} {L : Addr} {m : Str → Option Value} {news : List (Addr × Obj)} {Q : Flow → Shared → Prop} (b : Array UInt8) (ks : List Int) (hb : KBw.bInts b = ks) (tb : Tok) (hsz : ks.length ≤ 4096) (h1 : 1 ≤ ks.length) (x dx D : Addr) (t : Tok) (vals : Array Value) (hvs : vals.size ≤ 4) (lb : Array UInt8) (ls : List Int) (lt : Tok) (hlb : KBw.bInts lb = ls) (hlz : ls.length ≤ 4096) (hlast : vals.isEmpty = false → vals.back? = some (.bytes lb lt)) (BB : AllBare s.gens → AllBare s.gens)
    (X : (KH w.params).In h₀) (T : TopRead q lw mg mb h₀) (F : Fr h₀ L s.heap (fun y => if y = Str.ofString "program" then some (.bytes b tb) else if y = Str.ofString "witness" then some (.ref x) else m y)) (N : News h₀ L s.heap ((D, tupObj vals) :: (x, instObj 811 dx) :: (dx, wDict w t D) :: [])) (hd : dp + 120 < recursionLimit) (hu : un + 560 < cLine)
    (hret : ∀ n t' m' h' tk' g', n = wpn ks ls vals.isEmpty → Fr h₀ L h' m' → News h₀ L h' ((D, tupObj vals) :: (x, instObj 811 dx) :: (dx, wDict w t D) :: []) → (AllBare s.gens → AllBare g') → Q (.ret (.int n t')) { s with heap := h', toks := tk', gens := g' }) :
    wpAny (model PySem.Challenge.rw_ez0016_01.prog w) (Ar dp un fr gd) (execs (bodyOf (fdOf (t853 w.params))) (envOf (Str.ofString "_witness_program_sig_op_count") (fdOf (t853 w.params)).scope L 853 (.ref 852))) Q E s := by
  revert X; k_fill; intro X
  dsimp only [bodyOf, fdOf, t853, fnS, nth, pw, PySem.Challenge.pw_ez0016_01, List.getD, List.getElem?_cons_succ, List.getElem?_cons_zero, Option.getD]
  k_steps
  all_goals (try (with_reducible rename Fr _ _ _ _ => FF))
  all_goals (try (with_reducible rename News _ _ _ _ => NN))
  all_goals
    first
    | exact hret _ _ _ _ _ _ (by unfold wpn; first
      | rw [if_neg (by assumption)]
      | rw [if_pos (by assumption), if_pos (by assumption)]
      | rw [if_pos (by assumption), if_neg (by assumption), if_pos ⟨by assumption, by assumption⟩]
      | rw [if_pos (by assumption), if_neg (by assumption), if_neg (fun q => absurd q.1 (by assumption))]
      | rw [if_pos (by assumption), if_neg (by assumption), if_neg (fun q => absurd (q.2.symm.trans (by assumption : vals.isEmpty = true)) Bool.false_ne_true)]) FF NN (by assumption)
    | trace_state

theorem wps_p {w : World} {mg mb : Str → Option Value} {dp un : Nat} {fr : Option (List Env)} {gd : Option (List Code)} {s : Shared} {Q E : Value → Shared → Prop} {h₀ : Heap} (b : Array UInt8) (ks : List Int) (hb : KBw.bInts b = ks) (tb : Tok) (hsz : ks.length ≤ 4096) (h1 : 1 ≤ ks.length) (x dx D : Addr) (t : Tok) (vals : Array Value) (hvs : vals.size ≤ 4)
    (lb : Array UInt8) (ls : List Int) (lt : Tok) (hlb : KBw.bInts lb = ls) (hlz : ls.length ≤ 4096) (hlast : vals.isEmpty = false → vals.back? = some (.bytes lb lt)) (hE : Ext h₀ s.heap) (nx : h₀.get? x = none) (nd : h₀.get? dx = none) (nD : h₀.get? D = none)
    (ex : s.heap.get? x = some (instObj 811 dx)) (ed : s.heap.get? dx = some (wDict w t D)) (eD : s.heap.get? D = some (tupObj vals)) (h1' : x ≠ dx) (h2 : D ≠ dx) (h3 : D ≠ x)
    (X : (KH w.params).In h₀) (T : TopRead q lw mg mb h₀) (hd : dp + 130 < recursionLimit) (hu : un + 580 < cLine)
    (hret : ∀ t' h' tk' g', Ext s.heap h' → (AllBare s.gens → AllBare g') → Q (.int (wpn ks ls vals.isEmpty) t') { s with heap := h', toks := tk', gens := g' }) :
    wpAny (model RP w) (Ar dp un fr gd) (call (.ref 853) [.bytes b tb, .ref x]) Q E s := by
  refine wpAny_call ?_
  have ex1 : (s.heap.hide dx).get? x = some (instObj 811 dx) := (Heap.hide_ne _ h1').trans ex
  have eD1 : (s.heap.hide dx).get? D = some (tupObj vals) := (Heap.hide_ne _ h2).trans eD
  have eD2 : ((s.heap.hide dx).hide x).get? D = some (tupObj vals) := (Heap.hide_ne _ h3).trans eD1
  have k0 := ext_hide (ext_hide (ext_hide hE nd) nx) nD
  refine enterK (K := KH w.params) (f := 853) (X.keeps hE) (T.keeps hE).nolimit (by rfl) (by rfl) (by show dp < recursionLimit; omega) (binds := [(Str.ofString "program", .bytes b tb), (Str.ofString "witness", .ref x)]) (BindsTo.of_eq rfl) (fun x hx => ?_) (fun L' h₁ F N hL => ?_) (by rfl) (by rfl) (by rfl) ?_
  · simp only [List.mem_cons, List.not_mem_nil, or_false] at hx
    rcases hx with rfl | rfl <;> rfl
  · obtain ⟨F₁, N₁⟩ := hide_in F N ed
    obtain ⟨F₂, N₂⟩ := hide_in F₁ N₁ ex1
    obtain ⟨F₃, N₃⟩ := hide_in F₂ N₂ eD2
    refine wp_b (dp := dp + 1) (un := un + 3) (fr := fr.map (envOf (Str.ofString "_witness_program_sig_op_count") (fdOf (t853 w.params)).scope L' 853 (.ref 852) :: ·)) (gd := gd) (L := L') (m := fun _ => none) (news := []) b ks hb tb hsz h1 x dx D t vals hvs lb ls lt hlb hlz hlast (fun h => h) (X.keeps k0) (T.keeps k0) (fr_ext F₃ fun y => ?_) N₃ (by omega) (by omega)
      (fun n t' m' h' tk' g' e F₅ N₅ hg => ?_)
    · show List.lookup y [(Str.ofString "witness", Value.ref x), (Str.ofString "program", Value.bytes b tb)] = _
      rw [lookup2]
      by_cases h1 : y = Str.ofString "witness"
      · subst h1; rfl
      · simp only [h1, if_false]
    · subst e
      exact hret t' h' tk' g' (hide_out (hide_out (hide_out F₅.keep eD2 (N₅ _ (.head _)).1) ex1 (N₅ _ (.tail _ (.head _))).1) ed (N₅ _ (.tail _ (.tail _ (.head _)))).1) hg
  · intro x hx
    revert x
    dsimp only [bodyOf, fdOf, t853, fnS, nth, pw, PySem.Challenge.pw_ez0016_01]
    decide
end Mine
namespace Mine
local macro_rules | `(tactic| k_room) => `(tactic| ((try simp only [depth_under_make, depth_under_kw, depth_in1, depth_deeper, depth_caller]); (try dsimp only [Ar]); omega))
local macro_rules | `(tactic| k_units) => `(tactic| ((try simp only [units_in1, units_deeper, Around.mark_units, units_caller]); (try dsimp only [Ar]); omega))
local macro_rules | `(tactic| cell_enter) => `(tactic| (refine' enterK ?k1 ?k2 ?k6 ?k7 ?k8 ?k9 ?kB ?_ ?c2 ?c3 ?c4 ?c5; (case k1 => assumption); (case k2 => exact TopRead.nolimit (by assumption)); (case k6 => k_is); (case k7 => k_is); (case k8 => k_room); (case k9 => first | exact BindsTo.of_eq rfl | exact binds_K (by assumption) rfl (by k_is) rfl rfl rfl | fail "k_enter: no rule for these arguments"); (case c5 => decide); (case kB => exact locs rfl); (case c2 => exact rfl); (case c3 => exact rfl); (case c4 => exact rfl); k_whole; intro L' h' F' N' kSz; (try dsimp only); (try k_fold)))
local macro_rules | `(tactic| walk_at "call type:bytes") => `(tactic| (k_here; (with_reducible show wpAny _ _ (call (Value.type _) [Value.bytes _ _]) _ _ _); (with_unfolding_all refine call_bytes_bytes ?_)))

structure WitAt (w : World) (mg mb : Str → Option Value) (hk hz : Heap) (x dx D : Addr) (t : Tok) (vals : Array Value) : Prop where
  sub : Ext hk hz
  X : (KH w.params).In hk
  T : TopRead q lw mg mb hk
  nx : hk.get? x = none
  nd : hk.get? dx = none
  nD : hk.get? D = none
  ex : hz.get? x = some (instObj 811 dx)
  ed : hz.get? dx = some (wDict w t D)
  eD : hz.get? D = some (tupObj vals)
  h1 : x ≠ dx
  h2 : D ≠ dx
  h3 : D ≠ x
theorem WitAt.keeps {w : World} {mg mb : Str → Option Value} {hk hz hz' : Heap} {x dx D : Addr} {t : Tok} {vals : Array Value} (W : WitAt w mg mb hk hz x dx D t vals) (k : Ext hz hz') : WitAt w mg mb hk hz' x dx D t vals :=
  ⟨fun b o e => k _ _ (W.sub b o e), W.X, W.T, W.nx, W.nd, W.nD, k _ _ W.ex, k _ _ W.ed, k _ _ W.eD, W.h1, W.h2, W.h3⟩

noncomputable abbrev atw_E (w : World) (L : Addr) : Env := envOf (Str.ofString "assert_type") (fdOf (top.o_1088 w.params)).scope L 672 (.ref 671)

theorem atw_b {w : World} {mg mb : Str → Option Value} {dp un : Nat} {fr : Option (List Env)} {gd : Option (List Code)} {s : Shared} {E : Value → Shared → Prop}
    {h₀ : Heap} {L : Addr} {m : Str → Option Value} {news : List (Addr × Obj)} {Q : Flow → Shared → Prop} (x dx : Addr) (a : Str) (ta : Tok)
    (X : (KH w.params).In h₀) (T : TopRead q lw mg mb h₀) (F : Fr h₀ L s.heap (fun y => if y = Str.ofString "value" then some (.ref x) else if y = Str.ofString "expected" then some (.ref 811) else if y = Str.ofString "what" then some (.str a ta) else m y)) (N : News h₀ L s.heap ((x, instObj 811 dx) :: [])) (hd : dp + 30 < recursionLimit) (hu : un + 230 < cLine)
    (hret : ∀ f m' h' tk', (f = .next ∨ f = .ret .none) → Fr h₀ L h' m' → News h₀ L h' ((x, instObj 811 dx) :: []) → Q f { s with heap := h', toks := tk' }) :
    wpAny (model PySem.Challenge.rw_ez0016_01.prog w) (Ar dp un fr gd) (execs (bodyOf (fdOf (top.o_1088 w.params))) (atw_E w L)) Q E s := by
  revert X; k_fill; intro X
  dsimp only [bodyOf, fdOf, top.o_1088, fnS, List.getD, List.getElem?_cons_succ, List.getElem?_cons_zero, Option.getD]
  k_steps
  all_goals (try (with_reducible rename Fr _ _ _ _ => FF))
  all_goals (try (with_reducible rename News _ _ _ _ => NN))
  with_reducible rename Frag.In _ _ => XX
  refine isi_call (t := .ref 811) (XX.keeps FF.keep) (fun M => (Looks.ld (NN _ (.head _)).1).andThen .now) (by kernel_rfl) (by intro e; cases e) ?_
  k_steps
  all_goals (try (with_reducible rename Fr _ _ _ _ => FF))
  all_goals (try (with_reducible rename News _ _ _ _ => NN))
  all_goals exact hret _ _ _ _ (by first | exact .inl rfl | exact .inr rfl) FF NN

theorem atw_p {w : World} {mg mb : Str → Option Value} {dp un : Nat} {fr : Option (List Env)} {gd : Option (List Code)} {s : Shared} {Q E : Value → Shared → Prop} {hk : Heap} (x dx D : Addr) (t : Tok) (vals : Array Value) (a : Str) (ta : Tok) (W : WitAt w mg mb hk s.heap x dx D t vals) (hd : dp + 40 < recursionLimit) (hu : un + 240 < cLine)
    (hret : ∀ h' tk', Ext s.heap h' → Q .none { s with heap := h', toks := tk' }) :
    wpAny (model RP w) (Ar dp un fr gd) (call (.ref 672) [.ref x, .ref 811, .str a ta]) Q E s := by
  refine wpAny_call ?_
  have k0 := ext_hide W.sub W.nx
  refine enterK (K := KH w.params) (f := 672) (W.X.keeps W.sub) (W.T.keeps W.sub).nolimit (by rfl) (by rfl) (by show dp < recursionLimit; omega) (binds := [(Str.ofString "value", .ref x), (Str.ofString "expected", .ref 811), (Str.ofString "what", .str a ta)]) (BindsTo.of_eq rfl) (fun x hx => ?_) (fun L' h₁ F N hL => ?_) (by rfl) (by rfl) (by rfl) ?_
  · simp only [List.mem_cons, List.not_mem_nil, or_false] at hx
    rcases hx with rfl | rfl | rfl <;> rfl
  · obtain ⟨F₁, N₁⟩ := hide_in F N W.ex
    refine atw_b (dp := dp + 1) (un := un + 3) (fr := fr.map (atw_E w L' :: ·)) (gd := gd) (L := L') (m := fun _ => none) (news := []) x dx a ta (W.X.keeps k0) (W.T.keeps k0) (fr_ext F₁ fun y => ?_) N₁ (by omega) (by omega)
      (fun f m' h' tk' hf F₅ N₅ => ?_)
    · show List.lookup y [(Str.ofString "what", Value.str a ta), (Str.ofString "expected", Value.ref 811), (Str.ofString "value", Value.ref x)] = _
      rw [lookup3]
      by_cases h1 : y = Str.ofString "what"
      · subst h1; rfl
      by_cases h2 : y = Str.ofString "expected"
      · subst h2; rfl
      simp only [h1, h2, if_false]
    · have := hret h' tk' (hide_out F₅.keep W.ex (N₅ _ (.head _)).1)
      rcases hf with rfl | rfl <;> exact this
  · intro x hx
    revert x
    dsimp only [bodyOf, fdOf, top.o_1088, fnS]
    decide
end Mine
namespace Mine
local macro_rules | `(tactic| k_room) => `(tactic| ((try simp only [depth_under_make, depth_under_kw, depth_in1, depth_deeper, depth_caller]); (try dsimp only [Ar]); omega))
local macro_rules | `(tactic| k_units) => `(tactic| ((try simp only [units_in1, units_deeper, Around.mark_units, units_caller]); (try dsimp only [Ar]); omega))
local macro_rules | `(tactic| cell_enter) => `(tactic| (refine' enterK ?k1 ?k2 ?k6 ?k7 ?k8 ?k9 ?kB ?_ ?c2 ?c3 ?c4 ?c5; (case k1 => assumption); (case k2 => exact TopRead.nolimit (by assumption)); (case k6 => k_is); (case k7 => k_is); (case k8 => k_room); (case k9 => first | exact BindsTo.of_eq rfl | exact binds_K (by assumption) rfl (by k_is) rfl rfl rfl | fail "k_enter: no rule for these arguments"); (case c5 => decide); (case kB => exact locs rfl); (case c2 => exact rfl); (case c3 => exact rfl); (case c4 => exact rfl); k_whole; intro L' h' F' N' kSz; (try dsimp only); (try k_fold)))
local macro_rules | `(tactic| walk_at "call type:bytes") => `(tactic| (k_here; (with_reducible show wpAny _ _ (call (Value.type _) [Value.bytes _ _]) _ _ _); (with_unfolding_all refine call_bytes_bytes ?_)))
local macro_rules | `(tactic| walk_at "call ref") => `(tactic| (k_here; (with_reducible show wpAny _ _ (call (Value.ref 80) [Value.bytes _ _]) _ _ _); k_dflt ((with_reducible rename Fr _ _ _ _ => FF); (with_reducible rename News _ _ _ _ => NN); (with_reducible rename TopRead _ _ _ _ _ => TT); refine' bfo_p _ _ ?kX ?kT ?kd ?ku ?_; (case kX => exact Frag.In.keeps (by assumption) FF.keep); (case kT => exact TopRead.keeps TT FF.keep); (case kd => k_room); (case ku => k_units); (intro  h' tk'  hk'; (have F' := Fr.keeps FF hk'); (have N' := News.keeps NN hk'); clear FF NN hk'; (try dsimp only at F' N' ⊢)))))
local macro_rules | `(tactic| walk_at "call ref") => `(tactic| (k_here; (with_reducible show wpAny _ _ (call (Value.ref 705) [Value.bytes _ _]) _ _ _); k_dflt ((with_reducible rename Fr _ _ _ _ => FF); (with_reducible rename News _ _ _ _ => NN); (with_reducible rename Stand _ _ _ => SS); (with_reducible rename Zed _ _ _ _ => ZZ); (with_reducible rename Frag.In _ _ => XX); (with_reducible rename TopRead _ _ _ _ _ => TT); (with_reducible rename Heap.UpToSlots _ _ => UU); (with_reducible rename (AllBare _ → AllBare _) => BB); refine' ip_p _ _ ?kb _ ?ksz ?kS ?kZ ?kd ?ku ?_; (case kb => assumption); (case ksz => assumption); (case kS => exact SS.push FF rfl); (case kZ => exact ZZ); (case kd => k_room); (case ku => k_units); (intro h' tk' g' hst' hup' hg'; (have RB := rebase SS FF hst' hup' ZZ UU); (have BB' := fun z => hg' (BB z)); clear NN SS XX TT UU BB hg' FF; obtain ⟨S', F', X', T', U'⟩ := RB; (have N' := nilOf F'); clear hst' hup'; (try dsimp only at S' F' X' T' U' BB' N' ⊢)))))
local macro_rules | `(tactic| walk_at "call ref") => `(tactic| (k_here; (with_reducible show wpAny _ _ (call (Value.ref 719) [Value.bytes _ _]) _ _ _); k_dflt ((with_reducible rename Fr _ _ _ _ => FF); (with_reducible rename News _ _ _ _ => NN); (with_reducible rename Stand _ _ _ => SS); (with_reducible rename Zed _ _ _ _ => ZZ); (with_reducible rename Frag.In _ _ => XX); (with_reducible rename TopRead _ _ _ _ _ => TT); (with_reducible rename Heap.UpToSlots _ _ => UU); (with_reducible rename (AllBare _ → AllBare _) => BB); refine' iw_p _ _ ?kb _ ?ksz ?kS ?kZ ?kd ?ku ?_; (case kb => assumption); (case ksz => assumption); (case kS => exact SS.push FF rfl); (case kZ => exact ZZ); (case kd => k_room); (case ku => k_units); (intro h' tk' g' hst' hup' hg'; (have RB := rebase SS FF hst' hup' ZZ UU); (have BB' := fun z => hg' (BB z)); clear NN SS XX TT UU BB hg' FF; obtain ⟨S', F', X', T', U'⟩ := RB; (have N' := nilOf F'); clear hst' hup'; (try dsimp only at S' F' X' T' U' BB' N' ⊢)))))
local macro_rules | `(tactic| walk_at "call ref") => `(tactic| (k_here; (with_reducible show wpAny _ _ (call (Value.ref 839) [Value.bytes _ _]) _ _ _); k_dflt ((with_reducible rename Fr _ _ _ _ => FF); (with_reducible rename News _ _ _ _ => NN); (with_reducible rename Frag.In _ _ => XX); (with_reducible rename TopRead _ _ _ _ _ => TT); (with_reducible rename (AllBare _ → AllBare _) => BB); refine' lp_p _ _ ?kb _ ?ksz ?kX ?kT ?kd ?ku ?_ ?_; (case kb => assumption); (case ksz => assumption); (case kX => exact Frag.In.keeps XX FF.keep); (case kT => exact TopRead.keeps TT FF.keep); (case kd => k_room); (case ku => k_units); all_goals first | (intro hlp h' tk' g' hk' hg'; (have F' := Fr.keeps FF hk'); (have N' := News.keeps NN hk'); (have BB' := fun z => hg' (BB z)); clear FF NN hk' BB hg'; (try dsimp only at F' N' BB' ⊢)) | (intro d ds td hd' hlp hl h' tk' g' hk' hg'; (have hsz' := Nat.le_trans hl (by assumption)); (have F' := Fr.keeps FF hk'); (have N' := News.keeps NN hk'); (have BB' := fun z => hg' (BB z)); clear FF NN hk' BB hg'; (try dsimp only at F' N' BB' ⊢)))))

theorem isSw_pos {ks : List Int} (h : isSw ks = true) : 1 ≤ ks.length := by
  unfold isSw isSw1 at h
  simp only [Bool.and_eq_true, bne_iff_ne] at h
  omega
local macro_rules | `(tactic| walk_at "call ref") => `(tactic| (k_here; (with_reducible show wpAny _ _ (call (Value.ref 672) [Value.ref _, Value.ref 811, Value.str _ _]) _ _ _); k_dflt ((with_reducible rename Fr _ _ _ _ => FF); (with_reducible rename News _ _ _ _ => NN); (with_reducible rename Stand _ _ _ => SS); (with_reducible rename WitAt _ _ _ _ _ _ _ _ _ _ => WW); refine' atw_p _ _ _ _ _ _ _ ?W ?kd ?ku ?_; (case W => exact WW.keeps fun b o e => FF.keep _ _ (SS.stays _ _ e)); (case kd => k_room); (case ku => k_units); (intro h' tk' hk'; (have F' := Fr.keeps FF hk'); (have N' := News.keeps NN hk'); clear FF NN hk'; (try dsimp only at F' N' ⊢)))))
local macro_rules | `(tactic| walk_at "call ref") => `(tactic| (k_here; (with_reducible show wpAny _ _ (call (Value.ref 853) [Value.bytes _ _, Value.ref _]) _ _ _); k_dflt ((with_reducible rename Fr _ _ _ _ => FF); (with_reducible rename News _ _ _ _ => NN); (with_reducible rename Stand _ _ _ => SS); (with_reducible rename WitAt _ _ _ _ _ _ _ _ _ _ => WW); (with_reducible rename (AllBare _ → AllBare _) => BB); have WK := WW.keeps fun b o e => FF.keep _ _ (SS.stays _ _ e); refine' wps_p _ _ ?kb _ ?ksz ?k1 _ _ _ _ _ ?kv _ _ _ ?klb ?klz ?kla WK.sub WK.nx WK.nd WK.nD WK.ex WK.ed WK.eD WK.h1 WK.h2 WK.h3 WK.X WK.T ?kd ?ku ?_; (case kb => assumption); (case ksz => assumption); (case k1 => exact isSw_pos (by assumption)); (case kv => assumption); (case kla => assumption); (case klb => assumption); (case klz => assumption); (case kd => k_room); (case ku => k_units); (intro t' h' tk' g' hk' hg'; (have F' := Fr.keeps FF hk'); (have N' := News.keeps NN hk'); (have BB' := fun z => hg' (BB z)); clear FF NN hk' BB hg' WK; (try dsimp only at F' N' BB' ⊢)))))
def wsn (ks cs ls : List Int) (e : Bool) : Int := if isSw cs = true then wpn cs ls e else if isP2 cs = true then (match lp ks with | some r => if isSw r = true then wpn r ls e else 0 | none => 0) else 0

noncomputable abbrev ws_E (w : World) (L : Addr) : Env := envOf (Str.ofString "witness_sig_op_count") (fdOf (t860 w.params)).scope L 860 (.ref 859)

theorem ws_b {w : World} {mg mb : Str → Option Value} {dp un : Nat} {outer : List Env} {hz hE : Heap} {gd : Option (List Code)} {s : Shared} {E : Value → Shared → Prop}
    {h₀ : Heap} {L : Addr} {m : Str → Option Value} {news : List (Addr × Obj)} {Q : Flow → Shared → Prop} (b : Array UInt8) (ks : List Int) (hb : KBw.bInts b = ks) (tb : Tok) (hsz : ks.length ≤ 4096) (c : Array UInt8) (cs : List Int) (hc : KBw.bInts c = cs) (tc : Tok) (hcz : cs.length ≤ 4096) (x dx D : Addr) (t : Tok) (vals : Array Value) (hvs : vals.size ≤ 4) (lb : Array UInt8) (ls : List Int) (lt : Tok) (hlb : KBw.bInts lb = ls) (hlz : ls.length ≤ 4096) (hlast : vals.isEmpty = false → vals.back? = some (.bytes lb lt)) (hk : Heap) (WW : WitAt w mg mb hk hz x dx D t vals)
    (S : Stand hz outer h₀) (Z : Zed w mg mb hz) (U : hE.UpToSlots h₀) (BB : AllBare s.gens → AllBare s.gens) (X : (KH w.params).In h₀) (T : TopRead q lw mg mb h₀) (F : Fr h₀ L s.heap (fun y => if y = Str.ofString "script_sig" then some (.bytes b tb) else if y = Str.ofString "script_pub_key" then some (.bytes c tc) else if y = Str.ofString "witness" then some (.ref x) else m y)) (N : News h₀ L s.heap news) (hd : dp + 400 < recursionLimit) (hu : un + 900 < cLine)
    (hret : ∀ hb' n t' m' h' tk' g', n = wsn ks cs ls vals.isEmpty → Fr hb' L h' m' → Stand hz outer hb' → hE.UpToSlots hb' → (AllBare s.gens → AllBare g') → Q (.ret (.int n t')) { s with heap := h', toks := tk', gens := g' }) :
    wpAny (model PySem.Challenge.rw_ez0016_01.prog w) (Ar dp un (some (ws_E w L :: outer)) gd) (execs (bodyOf (fdOf (t860 w.params))) (ws_E w L)) Q E s := by
  revert X; k_fill; intro X
  dsimp only [bodyOf, fdOf, t860, fnS, nth, pw, PySem.Challenge.pw_ez0016_01, List.getD, List.getElem?_cons_succ, List.getElem?_cons_zero, Option.getD]
  k_steps
  all_goals (try (with_reducible rename Fr _ _ _ _ => FF))
  all_goals (try (with_reducible rename News _ _ _ _ => NN))
  all_goals
    with_reducible rename Stand _ _ _ => SS
    with_reducible rename Heap.UpToSlots _ _ => UU
    with_reducible rename (AllBare _ → AllBare _) => BB
    first
    | (rename (isSw cs = true) => e1; exact hret _ _ _ _ _ _ _ (by unfold wsn; rw [if_pos e1]) FF SS UU BB)
    | (rename (isSw cs = false) => e1; rename (isP2 cs = false) => e2; exact hret _ _ _ _ _ _ _ (by unfold wsn; rw [if_neg (by rw [e1]; decide), if_neg (by rw [e2]; decide)]) FF SS UU BB)
    | (rename (isSw cs = false) => e1; rename (isP2 cs = true) => e2; rename (lp ks = none) => e3; exact hret _ _ _ _ _ _ _ (by unfold wsn; rw [if_neg (by rw [e1]; decide), if_pos e2, e3]) FF SS UU BB)
    | (rename (isSw cs = false) => e1; rename (isP2 cs = true) => e2; rename (lp ks = some _) => e3; rename (isSw _ = true) => e4; exact hret _ _ _ _ _ _ _ (by unfold wsn; rw [if_neg (by rw [e1]; decide), if_pos e2, e3]; exact (if_pos e4).symm) FF SS UU BB)
    | (rename (isSw cs = false) => e1; rename (isP2 cs = true) => e2; rename (lp ks = some _) => e3; rename (isSw _ = false) => e4; exact hret _ _ _ _ _ _ _ (by unfold wsn; rw [if_neg (by rw [e1]; decide), if_pos e2, e3]; exact (if_neg (by rw [e4]; decide)).symm) FF SS UU BB)
    | trace_state

theorem ws_p {w : World} {mg mb : Str → Option Value} {dp un : Nat} {outer : List Env} {gd : Option (List Code)} {s : Shared} {hz : Heap} {Q E : Value → Shared → Prop} (b : Array UInt8) (ks : List Int) (hb : KBw.bInts b = ks) (tb : Tok) (hsz : ks.length ≤ 4096) (c : Array UInt8) (cs : List Int) (hc : KBw.bInts c = cs) (tc : Tok) (hcz : cs.length ≤ 4096) (x dx D : Addr) (t : Tok) (vals : Array Value) (hvs : vals.size ≤ 4) (lb : Array UInt8) (ls : List Int) (lt : Tok) (hlb : KBw.bInts lb = ls) (hlz : ls.length ≤ 4096) (hlast : vals.isEmpty = false → vals.back? = some (.bytes lb lt)) (hk : Heap) (WW : WitAt w mg mb hk hz x dx D t vals)
    (S : Stand hz outer s.heap) (Z : Zed w mg mb hz) (hd : dp + 410 < recursionLimit) (hu : un + 920 < cLine)
    (hret : ∀ t' h' tk' g', hz.StaysIn h' → s.heap.UpToSlots h' → (AllBare s.gens → AllBare g') → Q (.int (wsn ks cs ls vals.isEmpty) t') { s with heap := h', toks := tk', gens := g' }) :
    wpAny (model RP w) (Ar dp un (some outer) gd) (call (.ref 860) [.bytes b tb, .bytes c tc, .ref x]) Q E s := by
  refine wpAny_call ?_
  have Xs := Z.x.keeps S.stays
  have Ts := Z.t.keeps S.stays
  refine enterK (K := KH w.params) (f := 860) Xs Ts.nolimit (by rfl) (by rfl) (by show dp < recursionLimit; omega) (binds := [(Str.ofString "script_sig", .bytes b tb), (Str.ofString "script_pub_key", .bytes c tc), (Str.ofString "witness", .ref x)]) (BindsTo.of_eq rfl) (fun x hx => ?_) (fun L h₁ F N hL => ?_) (by rfl) (by rfl) (by rfl) ?_
  · simp only [List.mem_cons, List.not_mem_nil, or_false] at hx
    rcases hx with rfl | rfl | rfl <;> rfl
  · refine ws_b (dp := dp + 1) (un := un + 3) (outer := outer) (hz := hz) (hE := s.heap) (gd := gd) (h₀ := s.heap) (L := L) (m := fun _ => none) (news := []) b ks hb tb hsz c cs hc tc hcz x dx D t vals hvs lb ls lt hlb hlz hlast hk WW S Z (Heap.UpToSlots.refl _) (fun h => h) Xs Ts (fr_ext F fun y => ?_) N (by omega) (by omega)
      (fun hb' n t' m' h' tk' g' e F' S' hup hg => ?_)
    · show List.lookup y [(Str.ofString "witness", Value.ref x), (Str.ofString "script_pub_key", Value.bytes c tc), (Str.ofString "script_sig", Value.bytes b tb)] = _
      rw [lookup3]
      by_cases h1 : y = Str.ofString "witness"
      · subst h1; rfl
      by_cases h2 : y = Str.ofString "script_pub_key"
      · subst h2; rfl
      simp only [h1, h2, if_false]
    · subst e
      exact hret t' h' tk' g' (fun b o e => F'.keep b o (S'.stays b o e)) (hup.trans (Heap.UpToSlots.of_keeps F'.keep)) hg
  · intro x hx
    revert x
    dsimp only [bodyOf, fdOf, t860, fnS, nth, pw, PySem.Challenge.pw_ez0016_01]
    decide
end Mine
namespace Mine
local macro_rules | `(tactic| k_room) => `(tactic| ((try simp only [depth_under_make, depth_under_kw, depth_in1, depth_deeper, depth_caller]); (try dsimp only [Ar]); omega))
local macro_rules | `(tactic| k_units) => `(tactic| ((try simp only [units_in1, units_deeper, Around.mark_units, units_caller]); (try dsimp only [Ar]); omega))
local macro_rules | `(tactic| cell_enter) => `(tactic| (refine' enterK ?k1 ?k2 ?k6 ?k7 ?k8 ?k9 ?kB ?_ ?c2 ?c3 ?c4 ?c5; (case k1 => assumption); (case k2 => exact TopRead.nolimit (by assumption)); (case k6 => k_is); (case k7 => k_is); (case k8 => k_room); (case k9 => first | exact BindsTo.of_eq rfl | exact binds_K (by assumption) rfl (by k_is) rfl rfl rfl | fail "k_enter: no rule for these arguments"); (case c5 => decide); (case kB => exact locs rfl); (case c2 => exact rfl); (case c3 => exact rfl); (case c4 => exact rfl); k_whole; intro L' h' F' N' kSz; (try dsimp only); (try k_fold)))
local macro_rules | `(tactic| walk_at "call type:bytes") => `(tactic| (k_here; (with_reducible show wpAny _ _ (call (Value.type _) [Value.bytes _ _]) _ _ _); (with_unfolding_all refine call_bytes_bytes ?_)))
local macro_rules | `(tactic| walk_at "call ref") => `(tactic| (k_here; (with_reducible show wpAny _ _ (call (Value.ref 80) [Value.bytes _ _]) _ _ _); k_dflt ((with_reducible rename Fr _ _ _ _ => FF); (with_reducible rename News _ _ _ _ => NN); (with_reducible rename TopRead _ _ _ _ _ => TT); refine' bfo_p _ _ ?kX ?kT ?kd ?ku ?_; (case kX => exact Frag.In.keeps (by assumption) FF.keep); (case kT => exact TopRead.keeps TT FF.keep); (case kd => k_room); (case ku => k_units); (intro  h' tk'  hk'; (have F' := Fr.keeps FF hk'); (have N' := News.keeps NN hk'); clear FF NN hk'; (try dsimp only at F' N' ⊢)))))
local macro_rules | `(tactic| walk_at "call ref") => `(tactic| (k_here; (with_reducible show wpAny _ _ (call (Value.ref 672) [Value.bool _, Value.type _, Value.str _ _]) _ _ _); k_dflt ((with_reducible rename Fr _ _ _ _ => FF); (with_reducible rename News _ _ _ _ => NN); (with_reducible rename TopRead _ _ _ _ _ => TT); refine' aty_p _ _ _ ?kX ?kT ?kd ?ku ?_; (case kX => exact Frag.In.keeps (by assumption) FF.keep); (case kT => exact TopRead.keeps TT FF.keep); (case kd => k_room); (case ku => k_units); (intro  h' tk'  hk'; (have F' := Fr.keeps FF hk'); (have N' := News.keeps NN hk'); clear FF NN hk'; (try dsimp only at F' N' ⊢)))))
local macro_rules | `(tactic| walk_at "call ref") => `(tactic| (k_here; (with_reducible show wpAny _ _ (call (Value.ref 824) [Value.bytes _ _, Value.bool _]) _ _ _); k_dflt ((with_reducible rename Fr _ _ _ _ => FF); (with_reducible rename News _ _ _ _ => NN); (with_reducible rename Frag.In _ _ => XX); (with_reducible rename TopRead _ _ _ _ _ => TT); (with_reducible rename (AllBare _ → AllBare _) => BB); refine' cnt_p _ _ ?kb _ ?ksz _ ?kX ?kT ?kd ?ku ?_; (case kb => assumption); (case ksz => assumption); (case kX => exact Frag.In.keeps XX FF.keep); (case kT => exact TopRead.keeps TT FF.keep); (case kd => k_room); (case ku => k_units); all_goals first | (intro t h' tk' g' hk' hg'; (have F' := Fr.keeps FF hk'); (have N' := News.keeps NN hk'); (have BB' := fun z => hg' (BB z)); clear FF NN hk' BB hg'; (try dsimp only at F' N' BB' ⊢)))))

noncomputable abbrev so_E (w : World) (L : Addr) : Env := envOf (Str.ofString "sig_op_count") (fdOf (t832 w.params)).scope L 832 (.ref 831)

theorem so_b {w : World} {mg mb : Str → Option Value} {dp un : Nat} {fr : Option (List Env)} {gd : Option (List Code)} {s : Shared} {E : Value → Shared → Prop}
    {h₀ : Heap} {L : Addr} {m : Str → Option Value} {news : List (Addr × Obj)} {Q : Flow → Shared → Prop} (b : Array UInt8) (ks : List Int) (hb : KBw.bInts b = ks) (tb : Tok) (hsz : ks.length ≤ 4096) (acc : Bool) (BB : AllBare s.gens → AllBare s.gens)
    (X : (KH w.params).In h₀) (T : TopRead q lw mg mb h₀) (F : Fr h₀ L s.heap (fun y => if y = Str.ofString "script" then some (.bytes b tb) else if y = Str.ofString "accurate" then some (.bool acc) else m y)) (N : News h₀ L s.heap news) (hd : dp + 120 < recursionLimit) (hu : un + 560 < cLine)
    (hret : ∀ t m' h' tk' g', Fr h₀ L h' m' → News h₀ L h' news → (AllBare s.gens → AllBare g') → Q (.ret (.int (cnt acc ks) t)) { s with heap := h', toks := tk', gens := g' }) :
    wpAny (model PySem.Challenge.rw_ez0016_01.prog w) (Ar dp un fr gd) (execs (bodyOf (fdOf (t832 w.params))) (so_E w L)) Q E s := by
  revert X; k_fill; intro X
  dsimp only [bodyOf, fdOf, t832, fnS, nth, pw, PySem.Challenge.pw_ez0016_01, List.getD, List.getElem?_cons_succ, List.getElem?_cons_zero, Option.getD]
  k_steps
  all_goals (try (with_reducible rename Fr _ _ _ _ => FF))
  all_goals (try (with_reducible rename News _ _ _ _ => NN))
  exact hret _ _ _ _ _ FF NN (by with_reducible assumption)

theorem so_c {w : World} {mg mb : Str → Option Value} {dp un : Nat} {fr : Option (List Env)} {gd : Option (List Code)} {s : Shared} {args : Args} {R : Result → Shared → Prop} (b : Array UInt8) (ks : List Int) (hb : KBw.bInts b = ks) (tb : Tok) (hsz : ks.length ≤ 4096) (acc : Bool)
    (hbd : BindsTo s (fdOf (t832 w.params)) args [(Str.ofString "script", .bytes b tb), (Str.ofString "accurate", .bool acc)])
    (X : (KH w.params).In s.heap) (T : TopRead q lw mg mb s.heap) (hd : dp + 130 < recursionLimit) (hu : un + 580 < cLine)
    (hret : ∀ t h' tk' g', Ext s.heap h' → (AllBare s.gens → AllBare g') → R (.ok (.ret (.int (cnt acc ks) t))) { s with heap := h', toks := tk', gens := g' }) :
    codeAny (model RP w) (Ar dp un fr gd) (.call (.ref 832) args) R s := by
  refine enterK (K := KH w.params) (f := 832) X T.nolimit (by rfl) (by rfl) (by show dp < recursionLimit; omega) hbd (fun x hx => ?_) (fun L' h₁ F N hL => ?_) (by rfl) (by rfl) (by rfl) ?_
  · simp only [List.mem_cons, List.not_mem_nil, or_false] at hx
    rcases hx with rfl | rfl <;> rfl
  · refine so_b (dp := dp + 1) (un := un + 3) (fr := fr.map (so_E w L' :: ·)) (gd := gd) (h₀ := s.heap) (L := L') (m := fun _ => none) (news := []) b ks hb tb hsz acc (fun h => h) X T (fr_ext F fun y => ?_) N (by omega) (by omega) (fun t m' h' tk' g' F' N' hg => hret t h' tk' g' F'.keep hg)
    show List.lookup y [(Str.ofString "accurate", (.bool acc : Value)), (Str.ofString "script", (.bytes b tb : Value))] = _
    by_cases hscript : y = Str.ofString "script"
    · subst hscript; rfl
    by_cases haccurate : y = Str.ofString "accurate"
    · subst haccurate; rfl
    have escript : (y == Str.ofString "script") = false := by simp [hscript]
    have eaccurate : (y == Str.ofString "accurate") = false := by simp [haccurate]
    rw [List.lookup_cons, List.lookup_cons, eaccurate, escript, if_neg hscript, if_neg haccurate]; rfl
  · intro x hx
    revert x
    dsimp only [bodyOf, fdOf, t832, fnS, nth, pw, PySem.Challenge.pw_ez0016_01, List.getD, List.getElem?_cons_succ, List.getElem?_cons_zero, Option.getD]
    decide

theorem so_k {w : World} {mg mb : Str → Option Value} {dp un : Nat} {fr : Option (List Env)} {gd : Option (List Code)} {s : Shared} {Q E : Value → Shared → Prop} (b : Array UInt8) (ks : List Int) (hb : KBw.bInts b = ks) (tb : Tok) (hsz : ks.length ≤ 4096) (acc : Bool) (kw : List (Str × Value)) (hk : kw = [(Str.ofString "accurate", .bool acc)])
    (X : (KH w.params).In s.heap) (T : TopRead q lw mg mb s.heap) (hd : dp + 130 < recursionLimit) (hu : un + 580 < cLine)
    (hret : ∀ t h' tk' g', Ext s.heap h' → (AllBare s.gens → AllBare g') → Q (.int (cnt acc ks) t) { s with heap := h', toks := tk', gens := g' }) :
    wpAny (model RP w) (Ar dp un fr gd) (call (.ref 832) [.bytes b tb] kw) Q E s := by
  subst hk
  exact wpAny_call (so_c b ks hb tb hsz acc (BindsTo.of_eq rfl) X T hd hu hret)
end Mine
namespace Mine
local macro_rules | `(tactic| k_room) => `(tactic| ((try simp only [depth_under_make, depth_under_kw, depth_in1, depth_deeper, depth_caller]); (try dsimp only [Ar]); omega))
local macro_rules | `(tactic| k_units) => `(tactic| ((try simp only [units_in1, units_deeper, Around.mark_units, units_caller]); (try dsimp only [Ar]); omega))
local macro_rules | `(tactic| cell_enter) => `(tactic| (refine' enterK ?k1 ?k2 ?k6 ?k7 ?k8 ?k9 ?kB ?_ ?c2 ?c3 ?c4 ?c5; (case k1 => assumption); (case k2 => exact TopRead.nolimit (by assumption)); (case k6 => k_is); (case k7 => k_is); (case k8 => k_room); (case k9 => first | exact BindsTo.of_eq rfl | exact binds_K (by assumption) rfl (by k_is) rfl rfl rfl | fail "k_enter: no rule for these arguments"); (case c5 => decide); (case kB => exact locs rfl); (case c2 => exact rfl); (case c3 => exact rfl); (case c4 => exact rfl); k_whole; intro L' h' F' N' kSz; (try dsimp only); (try k_fold)))
local macro_rules | `(tactic| walk_at "call type:bytes") => `(tactic| (k_here; (with_reducible show wpAny _ _ (call (Value.type _) [Value.bytes _ _]) _ _ _); (with_unfolding_all refine call_bytes_bytes ?_)))
local macro_rules | `(tactic| walk_at "exec Raise some none") => `(tactic| (k_here; (with_reducible show wpAny _ _ (exec (Stmt.Raise (some (Expr.Call (Expr.Name _ _) (_ :: _) [] _)) none _) _) _ _ _); k_dflt (first
  | (refine' Raise_own2 ?F ?g ?O PySem.F.excBase_Exception ?hc PySem.F.excBase_ValueError ?h ?_ ?a ?b ?c ?d ?e; (case F => k_asm); (case g => exact TopRead.g (by k_asm)); (case O => exact own_of_in (by k_asm) (by k_asm) (by k_is) (by k_exc)); (case hc => rfl); (case h => first | rfl | assumption); (case a => rfl); (case b => rfl); (case c => rfl); (case d => rfl); (case e => decide); k_whole)
  | (refine' Raise_own2 ?F ?g ?O PySem.F.excBase_Exception ?hc PySem.F.excBase_TypeError ?h ?_ ?a ?b ?c ?d ?e; (case F => k_asm); (case g => exact TopRead.g (by k_asm)); (case O => exact own_of_in (by k_asm) (by k_asm) (by k_is) (by k_exc)); (case hc => rfl); (case h => first | rfl | assumption); (case a => rfl); (case b => rfl); (case c => rfl); (case d => rfl); (case e => decide); k_whole))))

noncomputable abbrev at1_E (w : World) (L : Addr) : Env := envOf (Str.ofString "assert_type") (fdOf (top.o_1088 w.params)).scope L 672 (.ref 671)

theorem at1_b {w : World} {mg mb : Str → Option Value} {dp un : Nat} {fr : Option (List Env)} {gd : Option (List Code)} {s : Shared} {E : Value → Shared → Prop}
    {h₀ : Heap} {L : Addr} {m : Str → Option Value} {news : List (Addr × Obj)} {Q : Flow → Shared → Prop} (i : Int) (ti : Tok) (a : Str) (ta : Tok) (ha : a.length ≤ 100)
    (X : (KH w.params).In h₀) (T : TopRead q lw mg mb h₀) (F : Fr h₀ L s.heap (fun y => if y = Str.ofString "value" then some (.int i ti) else if y = Str.ofString "expected" then some (.type "bool") else if y = Str.ofString "what" then some (.str a ta) else m y)) (N : News h₀ L s.heap news) (hd : dp + 40 < recursionLimit) (hu : un + 260 < cLine)
    (hmade : ∀ vs m' h₂ h' tk' e, Fr h₀ L h₂ m' → Heap.MadeExcOf h₂ h' e (.ref 70) vs → E (.ref e) { s with heap := h', toks := tk' }) :
    wpAny (model PySem.Challenge.rw_ez0016_01.prog w) (Ar dp un fr gd) (execs (bodyOf (fdOf (top.o_1088 w.params))) (at1_E w L)) Q E s := by
  revert X; k_fill; intro X
  dsimp only [bodyOf, fdOf, top.o_1088, fnS, List.getD, List.getElem?_cons_succ, List.getElem?_cons_zero, Option.getD]
  k_steps
  all_goals (try (with_reducible rename Fr _ _ _ _ => FF))
  all_goals (try (with_reducible rename News _ _ _ _ => NN))
  all_goals first
    | exact hmade _ _ _ _ _ _ FF (by with_reducible assumption)
    | trace_state

theorem at1_p {w : World} {mg mb : Str → Option Value} {dp un : Nat} {outer : List Env} {gd : Option (List Code)} {s : Shared} {hz : Heap} {Q E : Value → Shared → Prop} (i : Int) (ti : Tok) (a : Str) (ta : Tok) (ha : a.length ≤ 100)
    (S : Stand hz outer s.heap) (X : (KH w.params).In s.heap) (T : TopRead q lw mg mb s.heap) (hd : dp + 50 < recursionLimit) (hu : un + 280 < cLine)
    (hbad : ∀ e h' tk', Thrown hz outer 70 e s.heap h' → E (.ref e) { s with heap := h', toks := tk' }) :
    wpAny (model RP w) (Ar dp un (some outer) gd) (call (.ref 672) [.int i ti, .type "bool", .str a ta]) Q E s := by
  refine wpAny_call ?_
  refine enterK (K := KH w.params) (f := 672) X T.nolimit (by rfl) (by rfl) (by show dp < recursionLimit; omega) (binds := [(Str.ofString "value", .int i ti), (Str.ofString "expected", .type "bool"), (Str.ofString "what", .str a ta)]) (BindsTo.of_eq rfl) (fun x hx => ?_) (fun L h₁ F N hL => ?_) (by rfl) (by rfl) (by rfl) ?_
  · simp only [List.mem_cons, List.not_mem_nil, or_false] at hx
    rcases hx with rfl | rfl | rfl <;> rfl
  · refine at1_b (dp := dp + 1) (un := un + 3) (fr := (some outer).map (at1_E w L :: ·)) (gd := gd) (h₀ := s.heap) (L := L) (m := fun _ => none) (news := []) i ti a ta ha X T (fr_ext F fun y => ?_) N (by omega) (by omega)
      (fun vs m' h₂ h' tk' ex F' hm => leave_new S F' hm rfl fun h'' hT => hbad ex h'' tk' hT)
    show List.lookup y [(Str.ofString "what", Value.str a ta), (Str.ofString "expected", Value.type "bool"), (Str.ofString "value", Value.int i ti)] = _
    rw [lookup3]
    by_cases h1 : y = Str.ofString "what"
    · subst h1; rfl
    by_cases h2 : y = Str.ofString "expected"
    · subst h2; rfl
    simp only [h1, h2, if_false]
  · intro x hx
    revert x
    dsimp only [bodyOf, fdOf, top.o_1088, fnS]
    decide
local macro_rules | `(tactic| walk_at "call ref") => `(tactic| (k_here; (with_reducible show wpAny _ _ (call (Value.ref 672) [Value.int _ _, Value.type _, Value.str _ _]) _ _ _); k_dflt ((with_reducible rename Fr _ _ _ _ => FF); (with_reducible rename News _ _ _ _ => NN); (with_reducible rename Frag.In _ _ => XX); (with_reducible rename TopRead _ _ _ _ _ => TT); (with_reducible rename Stand _ _ _ => SS); refine' at1_p _ _ _ _ ?ka ?kS ?kX ?kT ?kd ?ku ?_; (case ka => decide); (case kS => exact SS.push FF rfl); (case kX => exact Frag.In.keeps XX FF.keep); (case kT => exact TopRead.keeps TT FF.keep); (case kd => k_room); (case ku => k_units); (intro e h' tk' hT; (try dsimp only at hT ⊢)))))

noncomputable abbrev soi_E (w : World) (L : Addr) : Env := envOf (Str.ofString "sig_op_count") (fdOf (t832 w.params)).scope L 832 (.ref 831)

theorem soi_b {w : World} {mg mb : Str → Option Value} {dp un : Nat} {outer : List Env} {hz : Heap} {gd : Option (List Code)} {s : Shared} {E : Value → Shared → Prop}
    {h₀ : Heap} {L : Addr} {m : Str → Option Value} {news : List (Addr × Obj)} {Q : Flow → Shared → Prop} (b : Array UInt8) (tb : Tok) (i : Int) (ti : Tok)
    (S : Stand hz outer h₀) (X : (KH w.params).In h₀) (T : TopRead q lw mg mb h₀) (F : Fr h₀ L s.heap (fun y => if y = Str.ofString "script" then some (.bytes b tb) else if y = Str.ofString "accurate" then some (.int i ti) else m y)) (N : News h₀ L s.heap news) (hd : dp + 80 < recursionLimit) (hu : un + 360 < cLine)
    (hthr : ∀ m' h₂ h' tk' e, Fr h₀ L h₂ m' → Thrown hz (soi_E w L :: outer) 70 e h₂ h' → E (.ref e) { s with heap := h', toks := tk' }) :
    wpAny (model PySem.Challenge.rw_ez0016_01.prog w) (Ar dp un (some (soi_E w L :: outer)) gd) (execs (bodyOf (fdOf (t832 w.params))) (soi_E w L)) Q E s := by
  revert X; k_fill; intro X
  dsimp only [bodyOf, fdOf, t832, fnS, nth, pw, PySem.Challenge.pw_ez0016_01, List.getD, List.getElem?_cons_succ, List.getElem?_cons_zero, Option.getD]
  k_steps
  all_goals (try (with_reducible rename Fr _ _ _ _ => FF))
  all_goals (try (with_reducible rename News _ _ _ _ => NN))
  all_goals exact hthr _ _ _ _ _ FF (by assumption)

theorem soi_k {w : World} {mg mb : Str → Option Value} {dp un : Nat} {outer : List Env} {gd : Option (List Code)} {s : Shared} {hz : Heap} {Q E : Value → Shared → Prop} (b : Array UInt8) (tb : Tok) (i : Int) (ti : Tok) (kw : List (Str × Value)) (hk : kw = [(Str.ofString "accurate", .int i ti)])
    (S : Stand hz outer s.heap) (X : (KH w.params).In s.heap) (T : TopRead q lw mg mb s.heap) (hd : dp + 90 < recursionLimit) (hu : un + 380 < cLine)
    (hbad : ∀ e h' tk', Thrown hz outer 70 e s.heap h' → E (.ref e) { s with heap := h', toks := tk' }) :
    wpAny (model RP w) (Ar dp un (some outer) gd) (call (.ref 832) [.bytes b tb] kw) Q E s := by
  subst hk
  refine wpAny_call ?_
  refine enterK (K := KH w.params) (f := 832) X T.nolimit (by rfl) (by rfl) (by show dp < recursionLimit; omega) (binds := [(Str.ofString "script", .bytes b tb), (Str.ofString "accurate", .int i ti)]) (BindsTo.of_eq rfl) (fun x hx => ?_) (fun L h₁ F N hL => ?_) (by rfl) (by rfl) (by rfl) ?_
  · simp only [List.mem_cons, List.not_mem_nil, or_false] at hx
    rcases hx with rfl | rfl <;> rfl
  · refine soi_b (dp := dp + 1) (un := un + 3) (outer := outer) (hz := hz) (gd := gd) (h₀ := s.heap) (L := L) (m := fun _ => none) (news := []) b tb i ti S X T (fr_ext F fun y => ?_) N (by omega) (by omega)
      (fun m' h₂ h' tk' ex F' hT => leave_on F' hT fun h'' hT' => hbad ex h'' tk' hT')
    show List.lookup y [(Str.ofString "accurate", Value.int i ti), (Str.ofString "script", Value.bytes b tb)] = _
    rw [lookup2]
    by_cases h1 : y = Str.ofString "accurate"
    · subst h1; rfl
    simp only [h1, if_false]
  · intro x hx
    revert x
    dsimp only [bodyOf, fdOf, t832, fnS, nth, pw, PySem.Challenge.pw_ez0016_01]
    decide
end Mine
namespace Mine
local macro_rules | `(tactic| k_room) => `(tactic| ((try simp only [depth_under_make, depth_under_kw, depth_in1, depth_deeper, depth_caller]); (try dsimp only [Ar]); omega))
local macro_rules | `(tactic| k_units) => `(tactic| ((try simp only [units_in1, units_deeper, Around.mark_units, units_caller]); (try dsimp only [Ar]); omega))
local macro_rules | `(tactic| cell_enter) => `(tactic| (refine' enterK ?k1 ?k2 ?k6 ?k7 ?k8 ?k9 ?kB ?_ ?c2 ?c3 ?c4 ?c5; (case k1 => assumption); (case k2 => exact TopRead.nolimit (by assumption)); (case k6 => k_is); (case k7 => k_is); (case k8 => k_room); (case k9 => first | exact BindsTo.of_eq rfl | exact binds_K (by assumption) rfl (by k_is) rfl rfl rfl | fail "k_enter: no rule for these arguments"); (case c5 => decide); (case kB => exact locs rfl); (case c2 => exact rfl); (case c3 => exact rfl); (case c4 => exact rfl); k_whole; intro L' h' F' N' kSz; (try dsimp only); (try k_fold)))
local macro_rules | `(tactic| walk_at "call type:bytes") => `(tactic| (k_here; (with_reducible show wpAny _ _ (call (Value.type _) [Value.bytes _ _]) _ _ _); (with_unfolding_all refine call_bytes_bytes ?_)))

noncomputable abbrev wB (w : World) : List Stmt := bodyOf (fdOf (t910 w.params))
noncomputable abbrev wS (w : World) (i : Nat) : Stmt := (wB w).getD i (.Pass ⟨0, 0, 0, 0⟩)
noncomputable abbrev lw_E (w : World) (L : Addr) : Env := envOf (Str.ofString "_law_wrong") (fdOf (t910 w.params)).scope L 910 (.ref 909)
noncomputable abbrev wH (w : World) : ExceptHandler := firstH (tryHs (wS w 0))
noncomputable abbrev wR (w : World) : Stmt := (exBody (wH w)).getD 0 (.Pass ⟨0, 0, 0, 0⟩)
theorem wB_is (w : World) : ∃ p1 p2, wB w = [.Try (tryBody (wS w 0)) [.ExceptHandler (some (exType (wH w))) none [wR w] p1] [] [] p2] := ⟨_, _, rfl⟩
local macro_rules | `(tactic| walk_at "call ref") => `(tactic| (k_here; (with_reducible show wpAny _ _ (call (Value.ref 832) [Value.bytes _ _] _) _ _ _); k_dflt ((with_reducible rename Fr _ _ _ _ => FF); (with_reducible rename News _ _ _ _ => NN); (with_reducible rename Frag.In _ _ => XX); (with_reducible rename TopRead _ _ _ _ _ => TT); (with_reducible rename Stand _ _ _ => SS); refine' soi_k _ _ _ _ _ ?kk ?kS ?kX ?kT ?kd ?ku ?_; (case kk => rfl); (case kS => exact SS.push FF rfl); (case kX => exact Frag.In.keeps XX FF.keep); (case kT => exact TopRead.keeps TT FF.keep); (case kd => k_room); (case ku => k_units); (intro e h' tk' hT; (try dsimp only at hT ⊢)))))

theorem lw_try {w : World} {mg mb : Str → Option Value} {dp un : Nat} {outer : List Env} {hz : Heap} {gd : Option (List Code)} {s : Shared} {E : Value → Shared → Prop}
    {h₀ : Heap} {L : Addr} {m : Str → Option Value} {news : List (Addr × Obj)} {Q : Flow → Shared → Prop} (b : Array UInt8) (tb : Tok)
    (S : Stand hz outer h₀) (X : (KH w.params).In h₀) (T : TopRead q lw mg mb h₀) (F : Fr h₀ L s.heap (fun y => if y = Str.ofString "octets" then some (.bytes b tb) else m y)) (N : News h₀ L s.heap news) (hd : dp + 120 < recursionLimit) (hu : un + 420 < cLine)
    (hthr : ∀ h₂ h' tk' e, Fr h₀ L h₂ (fun y => if y = Str.ofString "octets" then some (.bytes b tb) else m y) → Thrown hz (lw_E w L :: outer) 70 e h₂ h' → E (.ref e) { s with heap := h', toks := tk' }) :
    wpAny (model PySem.Challenge.rw_ez0016_01.prog w) (Ar dp un (some (lw_E w L :: outer)) gd) (execs (tryBody (wS w 0)) (lw_E w L)) Q E s := by
  revert X; k_fill; intro X
  dsimp only [wR, wH, firstH, exBody, exType, tryHs, tryBody, wS, wB, bodyOf, fdOf, t910, fnS, nth, pw, PySem.Challenge.pw_ez0016_01, List.getD, List.getElem?_cons_succ, List.getElem?_cons_zero, Option.getD]
  k_steps
  all_goals (try (with_reducible rename Fr _ _ _ _ => FF))
  all_goals (try (with_reducible rename News _ _ _ _ => NN))
  all_goals exact hthr _ _ _ _ FF (by assumption)

theorem lw_name {w : World} {mg mb : Str → Option Value} {dp un : Nat} {fr : Option (List Env)} {gd : Option (List Code)} {s : Shared} {E : Value → Shared → Prop}
    {A : Around} {h₀ : Heap} {L : Addr} {m : Str → Option Value} {news : List (Addr × Obj)} {Q : Value → Shared → Prop} 
    (X : (KH w.params).In h₀) (T : TopRead q lw mg mb h₀) (F : Fr h₀ L s.heap m) (N : News h₀ L s.heap news) (hd : dp + 30 < recursionLimit) (hu : un + 230 < cLine)
    (hret : ∀ tk', Q (.ref 70) { s with toks := tk' }) :
    wpAny (model PySem.Challenge.rw_ez0016_01.prog w) A (eval (exType (wH w)) (lw_E w L)) Q E s := by
  revert X; k_fill; intro X
  dsimp only [wR, wH, firstH, exBody, exType, tryHs, tryBody, wS, wB, bodyOf, fdOf, t910, fnS, nth, pw, PySem.Challenge.pw_ez0016_01, List.getD, List.getElem?_cons_succ, List.getElem?_cons_zero, Option.getD]
  k_steps
  all_goals (try (with_reducible rename Fr _ _ _ _ => FF))
  all_goals (try (with_reducible rename News _ _ _ _ => NN))
  exact hret _

theorem lw_yes {w : World} {mg mb : Str → Option Value} {dp un : Nat} {fr : Option (List Env)} {gd : Option (List Code)} {s : Shared} {E : Value → Shared → Prop}
    {A : Around} {h₀ : Heap} {L : Addr} {m : Str → Option Value} {news : List (Addr × Obj)} {Q : Flow → Shared → Prop} 
    (X : (KH w.params).In h₀) (T : TopRead q lw mg mb h₀) (F : Fr h₀ L s.heap m) (N : News h₀ L s.heap news) (hd : dp + 30 < recursionLimit) (hu : un + 230 < cLine)
    (hret : ∀ tk', Q (.ret (.bool true)) { s with toks := tk' }) :
    wpAny (model PySem.Challenge.rw_ez0016_01.prog w) A (execs [wR w] (lw_E w L)) Q E s := by
  revert X; k_fill; intro X
  dsimp only [wR, wH, firstH, exBody, exType, tryHs, tryBody, wS, wB, bodyOf, fdOf, t910, fnS, nth, pw, PySem.Challenge.pw_ez0016_01, List.getD, List.getElem?_cons_succ, List.getElem?_cons_zero, Option.getD]
  k_steps
  all_goals (try (with_reducible rename Fr _ _ _ _ => FF))
  all_goals (try (with_reducible rename News _ _ _ _ => NN))
  exact hret _

theorem lw_p {w : World} {mg mb : Str → Option Value} {dp un : Nat} {outer : List Env} {gd : Option (List Code)} {s : Shared} {hz : Heap} {Q E : Value → Shared → Prop} (b : Array UInt8) (tb : Tok)
    (S : Stand hz outer s.heap) (Z : Zed w mg mb hz) (hd : dp + 130 < recursionLimit) (hu : un + 440 < cLine)
    (hret : ∀ h' tk', hz.StaysIn h' → s.heap.UpToSlots h' → Q (.bool true) { s with heap := h', toks := tk' }) :
    wpAny (model RP w) (Ar dp un (some outer) gd) (call (.ref 910) [.bytes b tb]) Q E s := by
  refine wpAny_call ?_
  have Xs := Z.x.keeps S.stays
  have Ts := Z.t.keeps S.stays
  refine enterK (K := KH w.params) (f := 910) Xs Ts.nolimit (by rfl) (by rfl) (by show dp < recursionLimit; omega) (binds := [(Str.ofString "octets", .bytes b tb)]) (BindsTo.of_eq rfl) (fun x hx => ?_) (fun L h₁ F N hL => ?_) (by rfl) (by rfl) (by rfl) ?_
  · simp only [List.mem_cons, List.not_mem_nil, or_false] at hx
    rcases hx with rfl <;> rfl
  · show wpAny (model RP w) ((Ar dp un (some outer) gd).deeper (lw_E w L)) (execs (wB w) (lw_E w L)) _ _ _
    obtain ⟨p1, p2, hB⟩ := wB_is w
    rw [hB]
    refine wpAny_execs_cons (wpAny_Try_except ?_)
    refine lw_try (dp := dp + 1) (un := un + 3) (outer := outer) (hz := hz) (gd := gd) (h₀ := s.heap) (L := L) (m := fun _ => none) (news := []) b tb S Xs Ts (fr_ext F fun y => lookup1 y) N (by omega) (by omega) (fun h₂ h' tk' ex F' hT => ?_)
    refine caught_own (V := .ref 70) (m := fun y => if y = Str.ofString "octets" then some (.bytes b tb) else none) (by rfl) S F' hT (fun A' h₃ Q' E' F₃ hQ => ?_) (fun A' h₃ tk Q' E' hst he hQ => ?_) (fun h₃ tk E' F₃ hup => ?_)
    · exact lw_name (dp := dp) (un := un) (fr := none) (gd := none) (news := []) Z.x Z.t F₃ News.nil (by omega) (by omega) fun tk => hQ tk
    · obtain ⟨oe, he, hc⟩ := he
      exact wpAny_excMatches_sub_self (bm := [.ref 45, .type "TypeError", .type "Exception", .type "BaseException", .type "object"]) (hst _ _ (Z.x 70 _ (by rfl))) he hc (by simp) hQ
    · refine lw_yes (dp := dp) (un := un) (fr := none) (gd := none) (news := []) Z.x Z.t F₃ News.nil (by omega) (by omega) fun tk => ?_
      exact hret h₃ tk F₃.keep ((Heap.UpToSlots.of_keeps F'.keep).trans hup)
  · intro x hx
    revert x
    dsimp only [bodyOf, fdOf, t910, fnS, nth, pw, PySem.Challenge.pw_ez0016_01]
    decide
end Mine
namespace Mine
local macro_rules | `(tactic| k_room) => `(tactic| ((try simp only [depth_under_make, depth_under_kw, depth_in1, depth_deeper, depth_caller]); (try dsimp only [Ar]); omega))
local macro_rules | `(tactic| k_units) => `(tactic| ((try simp only [units_in1, units_deeper, Around.mark_units, units_caller]); (try dsimp only [Ar]); omega))
local macro_rules | `(tactic| cell_enter) => `(tactic| (refine' enterK ?k1 ?k2 ?k6 ?k7 ?k8 ?k9 ?kB ?_ ?c2 ?c3 ?c4 ?c5; (case k1 => assumption); (case k2 => exact TopRead.nolimit (by assumption)); (case k6 => k_is); (case k7 => k_is); (case k8 => k_room); (case k9 => first | exact BindsTo.of_eq rfl | exact binds_K (by assumption) rfl (by k_is) rfl rfl rfl | fail "k_enter: no rule for these arguments"); (case c5 => decide); (case kB => exact locs rfl); (case c2 => exact rfl); (case c3 => exact rfl); (case c4 => exact rfl); k_whole; intro L' h' F' N' kSz; (try dsimp only); (try k_fold)))
local macro_rules | `(tactic| walk_at "call type:bytes") => `(tactic| (k_here; (with_reducible show wpAny _ _ (call (Value.type _) [Value.bytes _ _]) _ _ _); (with_unfolding_all refine call_bytes_bytes ?_)))

def isPr (ks : List Int) : Bool := decide (4 ≤ ks.length) && decide (ks.length ≤ 42) && (ks.getD (Int.toNat 0) 0 == 0 || (decide (81 ≤ ks.getD (Int.toNat 0) 0) && decide (ks.getD (Int.toNat 0) 0 ≤ 96))) && decide (2 ≤ ks.getD (Int.toNat 1) 0) && decide (ks.getD (Int.toNat 1) 0 ≤ 40) && decide ((ks.length : Int) = ks.getD (Int.toNat 1) 0 + 2)

noncomputable abbrev li_E (w : World) (L : Addr) : Env := envOf (Str.ofString "_law_is_program") (fdOf (t886 w.params)).scope L 886 (.ref 885)

theorem li_b {w : World} {mg mb : Str → Option Value} {dp un : Nat} {fr : Option (List Env)} {gd : Option (List Code)} {s : Shared} {E : Value → Shared → Prop}
    {h₀ : Heap} {L : Addr} {m : Str → Option Value} {news : List (Addr × Obj)} {Q : Flow → Shared → Prop} (b : Array UInt8) (ks : List Int) (hb : KBw.bInts b = ks) (tb : Tok) (hsz : ks.length ≤ 4096)
    (X : (KH w.params).In h₀) (T : TopRead q lw mg mb h₀) (F : Fr h₀ L s.heap (fun y => if y = Str.ofString "octets" then some (.bytes b tb) else m y)) (N : News h₀ L s.heap news) (hd : dp + 60 < recursionLimit) (hu : un + 300 < cLine)
    (hret : ∀ r m' h' tk', r = isPr ks → Fr h₀ L h' m' → Q (.ret (.bool r)) { s with heap := h', toks := tk' }) :
    wpAny (model PySem.Challenge.rw_ez0016_01.prog w) (Ar dp un fr gd) (execs (bodyOf (fdOf (t886 w.params))) (li_E w L)) Q E s := by
  revert X; k_fill; intro X
  dsimp only [bodyOf, fdOf, t886, fnS, nth, pw, PySem.Challenge.pw_ez0016_01, List.getD, List.getElem?_cons_succ, List.getElem?_cons_zero, Option.getD]
  k_steps
  all_goals (try (with_reducible rename Fr _ _ _ _ => FF))
  all_goals (try (with_reducible rename News _ _ _ _ => NN))
  all_goals first
    | exact hret _ _ _ _ (by rw [Bool.eq_iff_iff]; unfold isPr; simp only [Bool.and_eq_true, Bool.or_eq_true, beq_iff_eq, decide_eq_true_eq]; omega) FF
    | trace_state

theorem li_c {w : World} {mg mb : Str → Option Value} {dp un : Nat} {fr : Option (List Env)} {gd : Option (List Code)} {s : Shared} {args : Args} {R : Result → Shared → Prop} (b : Array UInt8) (ks : List Int) (hb : KBw.bInts b = ks) (tb : Tok) (hsz : ks.length ≤ 4096)
    (hbd : BindsTo s (fdOf (t886 w.params)) args [(Str.ofString "octets", .bytes b tb)])
    (X : (KH w.params).In s.heap) (T : TopRead q lw mg mb s.heap) (hd : dp + 70 < recursionLimit) (hu : un + 320 < cLine)
    (hret : ∀ h' tk', Ext s.heap h' → R (.ok (.ret (.bool (isPr ks)))) { s with heap := h', toks := tk' }) :
    codeAny (model RP w) (Ar dp un fr gd) (.call (.ref 886) args) R s := by
  refine enterK (K := KH w.params) (f := 886) X T.nolimit (by rfl) (by rfl) (by show dp < recursionLimit; omega) hbd (fun x hx => ?_) (fun L' h₁ F N hL => ?_) (by rfl) (by rfl) (by rfl) ?_
  · simp only [List.mem_cons, List.not_mem_nil, or_false] at hx
    rcases hx with rfl <;> rfl
  · refine li_b (dp := dp + 1) (un := un + 3) (fr := fr.map (li_E w L' :: ·)) (gd := gd) (h₀ := s.heap) (L := L') (m := fun _ => none) (news := []) b ks hb tb hsz X T (fr_ext F fun y => ?_) N (by omega) (by omega) (fun r m' h' tk' e F' => by subst e; exact hret h' tk' F'.keep)
    show List.lookup y [(Str.ofString "octets", (.bytes b tb : Value))] = _
    by_cases hoctets : y = Str.ofString "octets"
    · subst hoctets; rfl
    have eoctets : (y == Str.ofString "octets") = false := by simp [hoctets]
    rw [List.lookup_cons, eoctets, if_neg hoctets]; rfl
  · intro x hx
    revert x
    dsimp only [bodyOf, fdOf, t886, fnS, nth, pw, PySem.Challenge.pw_ez0016_01, List.getD, List.getElem?_cons_succ, List.getElem?_cons_zero, Option.getD]
    decide

theorem li_p {w : World} {mg mb : Str → Option Value} {dp un : Nat} {fr : Option (List Env)} {gd : Option (List Code)} {s : Shared} {Q E : Value → Shared → Prop} (b : Array UInt8) (ks : List Int) (hb : KBw.bInts b = ks) (tb : Tok) (hsz : ks.length ≤ 4096)
    (X : (KH w.params).In s.heap) (T : TopRead q lw mg mb s.heap) (hd : dp + 70 < recursionLimit) (hu : un + 320 < cLine)
    (hret : ∀ h' tk', Ext s.heap h' → Q (.bool (isPr ks)) { s with heap := h', toks := tk' }) :
    wpAny (model RP w) (Ar dp un fr gd) (call (.ref 886) [.bytes b tb]) Q E s :=
  wpAny_call (li_c b ks hb tb hsz (by first | exact BindsTo.of_eq rfl | exact binds_K X rfl (by rfl) rfl rfl rfl) X T hd hu hret)
end Mine
namespace Mine
theorem enterC {prog : Program} {w : World} {A : Around} {K : Frag} {s : Shared} {R : Result → Shared → Prop} {name qual : Str} {params : Arguments} {body : List Stmt} {scope : Scope} {dV kV doc pm cdv ct oc : Value} {an od : Option Addr} {osl : Array (Option Value)}
    {f : Addr} {args : Args} {binds : List (Str × Value)} (X : K.In s.heap) (hlim : s.heap.NoLimit)
    (ho : K.lookup f = some ⟨oc, od, .func (fnOf name qual params body scope dV kV doc pm an cdv ct), osl⟩) (hcd : codeIn K cdv qual = true) (hroom : A.depth < recursionLimit)
    (hbind : BindsTo s (fnOf name qual params body scope dV kV doc pm an cdv ct) args binds)
    (hkind : ∀ n, ∀ x ∈ binds, scope.names.lookup x.1 = some .local ∨ (scope.names.lookup x.1 = some .cell ∧ ((cellsFrom n scope.names []).lookup x.1).isSome = true))
    (hnd : ((cellsFrom 0 scope.names []).map (·.1)).Nodup)
    (h : ∀ L' h₁ tk cells, Fr s.heap L' h₁ (bindL (envOfC qual scope L' f cdv).kindOf binds fun _ => none) → News s.heap L' h₁ cells → CellsAre (bindC (envOfC qual scope L' f cdv).kindOf binds fun _ => none) (cellsFrom (L' + 1) scope.names []) cells → L' = s.heap.objs.size →
      wpAny (model prog w) (A.deeper (envOfC qual scope L' f cdv)) (execs body (envOfC qual scope L' f cdv)) (fun fl s' => R (.ok (.ret (match fl with | .ret v => v | _ => .none))) s')
        (fun e s' => wpAny (model prog w) (A.deeper (envOfC qual scope L' f cdv)) («leaving» (envOfC qual scope L' f cdv) e) (fun _ s'' => R (.error e) s'') (fun e' s'' => R (.error e') s'') s')
        { s with heap := h₁, toks := tk })
    (hco : scope.isCoroutine = false) (hgen : scope.isGenerator = false) (hk : scope.kind = .function) : codeAny (model prog w) A (.call (.ref f) args) R s := by
  refine codeAny_call_function hroom (X _ _ ho) rfl hco hgen rfl (codeRec_of X hcd) (hbind _ _ _ _ ?_)
  refine wpAny_newFunctionEnv_cells hk (hkind _) fun env' he s' x => ?_
  subst he
  refine ⟨hlim.keeps x.toInCall.keep, codeAny_func ?_⟩
  obtain ⟨h₁, tk, rfl, _⟩ := x.done
  have hk₁ := x.toInCall.keep
  obtain ⟨cells, NC, Y⟩ := Cl.news (h₀ := s.heap) (Nat.le_refl _) fun n c hm => ⟨x.cell n c (lookup_of_mem_nodup (cellsFrom_names scope.names 0 (s.heap.objs.size + 1) [] [] rfl ▸ hnd) hm), x.above n c hm⟩
  exact h s.heap.objs.size h₁ tk cells ⟨x.toInCall.ns, hk₁, Nat.le_refl _⟩ NC Y rfl
end Mine
namespace Mine
local macro_rules | `(tactic| k_room) => `(tactic| ((try simp only [depth_under_make, depth_under_kw, depth_in1, depth_deeper, depth_caller]); (try dsimp only [Ar]); omega))
local macro_rules | `(tactic| k_units) => `(tactic| ((try simp only [units_in1, units_deeper, Around.mark_units, units_caller]); (try dsimp only [Ar]); omega))
local macro_rules | `(tactic| cell_enter) => `(tactic| (refine' enterK ?k1 ?k2 ?k6 ?k7 ?k8 ?k9 ?kB ?_ ?c2 ?c3 ?c4 ?c5; (case k1 => assumption); (case k2 => exact TopRead.nolimit (by assumption)); (case k6 => k_is); (case k7 => k_is); (case k8 => k_room); (case k9 => first | exact BindsTo.of_eq rfl | exact binds_K (by assumption) rfl (by k_is) rfl rfl rfl | fail "k_enter: no rule for these arguments"); (case c5 => decide); (case kB => exact locs rfl); (case c2 => exact rfl); (case c3 => exact rfl); (case c4 => exact rfl); k_whole; intro L' h' F' N' kSz; (try dsimp only); (try k_fold)))
local macro_rules | `(tactic| walk_at "call type:bytes") => `(tactic| (k_here; (with_reducible show wpAny _ _ (call (Value.type _) [Value.bytes _ _]) _ _ _); (with_unfolding_all refine call_bytes_bytes ?_)))

noncomputable abbrev sB (w : World) : List Stmt := bodyOf (fdOf (t865 w.params))
noncomputable abbrev sS (w : World) (i : Nat) : Stmt := (sB w).getD i (.Pass ⟨0, 0, 0, 0⟩)
noncomputable abbrev sT (w : World) (i : Nat) : Stmt := (whBody (sS w 2)).getD i (.Pass ⟨0, 0, 0, 0⟩)
noncomputable abbrev s_E (w : World) (L : Addr) : Env := envOfC (Str.ofString "_law_steps") (fdOf (t865 w.params)).scope L 865 (.ref 864)
local macro_rules | `(tactic| k_all) => `(tactic| assumption)
local macro_rules | `(tactic| walk_at "call builtin:list.append") => `(tactic| (k_here; (with_reducible show wpAny _ _ (call (Value.builtin "list.append") [Value.ref _, _]) _ _ _); k_dflt (refine' append_K ?N ?m ?r ?h ?a ?z ?_; (case N => k_asm); (case m => k_mem); (case r => rfl); (case h => rfl); (case a => k_all); (case z => exact Nat.le_trans (Nat.succ_le_succ (by assumption)) (Nat.le_of_ble_eq_true rfl)); intro h' F' N')))
theorem News.sub {h₀ h : Heap} {L : Addr} {a b : List (Addr × Obj)} (N : News h₀ L h a) (k : ∀ p ∈ b, p ∈ a) : News h₀ L h b := fun p hp => N p (k p hp)
abbrev manyOf (ks : List Int) (bg : Int) (n : Int) : Int := (List.map (fun k' => if 0 ≤ ks.getD (bg + k').toNat 0 ∧ ks.getD (bg + k').toNat 0 < 256 then ks.getD (bg + k').toNat 0 * 256 ^ k'.toNat else k') (rangeKs 0 (n - 0).toNat)).sum

theorem s_init {w : World} {mg mb : Str → Option Value} {dp un : Nat} {fr : Option (List Env)} {gd : Option (List Code)} {s : Shared} {E : Value → Shared → Prop}
    {h₀ : Heap} {L : Addr} {m : Str → Option Value} {news : List (Addr × Obj)} {Q : Flow → Shared → Prop} (b : Array UInt8) (ks : List Int) (hb : KBw.bInts b = ks) (tb : Tok) (hsz : ks.length ≤ 4096) (o1 o2 : Obj)
    (X : (KH w.params).In h₀) (T : TopRead q lw mg mb h₀) (F : Fr h₀ L s.heap m) (N : News h₀ L s.heap ((L + 1, o1) :: (L + 2, o2) :: [])) (hd : dp + 30 < recursionLimit) (hu : un + 230 < cLine)
    (hret : ∀ G t h' tk', Fr h₀ L h' (fun y => if y = Str.ofString "at" then some (.int 0 t) else if y = Str.ofString "found" then some (.ref G) else m y) → News h₀ L h' [(G, listOf #[] 0), (L + 1, o1), (L + 2, o2)] → @LT.lt Nat _ (L + 2) G → Q .next { s with heap := h', toks := tk' }) :
    wpAny (model PySem.Challenge.rw_ez0016_01.prog w) (Ar dp un fr gd) (execs [sS w 0, sS w 1] (s_E w L)) Q E s := by
  revert X; k_fill; intro X
  dsimp only [sT, sS, sB, whTest, whBody, bodyOf, fdOf, t865, fnS, nth, pw, PySem.Challenge.pw_ez0016_01, List.getD, List.getElem?_cons_succ, List.getElem?_cons_zero, Option.getD]
  k_steps
  all_goals (try (with_reducible rename Fr _ _ _ _ => FF))
  all_goals (try (with_reducible rename News _ _ _ _ => NN))
  all_goals first | exact hret _ _ _ _ FF NN (by omega) | (exfalso; omega)

theorem s_test {w : World} {mg mb : Str → Option Value} {dp un : Nat} {fr : Option (List Env)} {gd : Option (List Code)} {s : Shared} {E : Value → Shared → Prop}
    {h₀ : Heap} {L : Addr} {m : Str → Option Value} {news : List (Addr × Obj)} {Q : Bool → Shared → Prop} (b : Array UInt8) (ks : List Int) (hb : KBw.bInts b = ks) (tb : Tok) (hsz : ks.length ≤ 4096) (i : Int) (ti : Tok) (h0 : 0 ≤ i) (G : Addr) (its : Array Value) (n : Nat) (o1 o2 : Obj) (d1 : o1.data = .cell (some (.bytes b tb))) (hits : its.size ≤ 4096) (hn2 : ∀ p ∈ news, p.1 ≠ L + 2) (hnG : ∀ p ∈ news, p.1 ≠ G) (hG : @LT.lt Nat _ (L + 2) G)
    (X : (KH w.params).In h₀) (T : TopRead q lw mg mb h₀) (F : Fr h₀ L s.heap (fun y => if y = Str.ofString "found" then some (.ref G) else if y = Str.ofString "at" then some (.int i ti) else m y)) (N : News h₀ L s.heap ((L + 1, o1) :: (L + 2, o2) :: (G, listOf its n) :: news)) (hd : dp + 30 < recursionLimit) (hu : un + 230 < cLine)
    (hret : ∀ tk', Q (decide (i < (ks.length : Int))) { s with toks := tk' }) :
    wpAny (model PySem.Challenge.rw_ez0016_01.prog w) (Ar dp un fr gd) (isTrue (whTest (sS w 2)) (s_E w L) (eval (whTest (sS w 2)) (s_E w L))) Q E s := by
  revert X; k_fill; intro X
  dsimp only [sT, sS, sB, whTest, whBody, bodyOf, fdOf, t865, fnS, nth, pw, PySem.Challenge.pw_ez0016_01, List.getD, List.getElem?_cons_succ, List.getElem?_cons_zero, Option.getD]
  k_steps
  all_goals (try (with_reducible rename Fr _ _ _ _ => FF))
  all_goals (try (with_reducible rename News _ _ _ _ => NN))
  all_goals exact hret _

theorem s_b012 {w : World} {mg mb : Str → Option Value} {dp un : Nat} {fr : Option (List Env)} {gd : Option (List Code)} {s : Shared} {E : Value → Shared → Prop}
    {h₀ : Heap} {L : Addr} {m : Str → Option Value} {news : List (Addr × Obj)} {Q : Flow → Shared → Prop} (b : Array UInt8) (ks : List Int) (hb : KBw.bInts b = ks) (tb : Tok) (hsz : ks.length ≤ 4096) (i : Int) (ti : Tok) (h0 : 0 ≤ i) (G : Addr) (its : Array Value) (n : Nat) (o1 o2 : Obj) (d1 : o1.data = .cell (some (.bytes b tb))) (hits : its.size ≤ 4096) (hn2 : ∀ p ∈ news, p.1 ≠ L + 2) (hnG : ∀ p ∈ news, p.1 ≠ G) (hG : @LT.lt Nat _ (L + 2) G) (h1 : i < ks.length) (ov : Option Value) (d2 : o2.data = .cell ov)
    (X : (KH w.params).In h₀) (T : TopRead q lw mg mb h₀) (F : Fr h₀ L s.heap (fun y => if y = Str.ofString "found" then some (.ref G) else if y = Str.ofString "at" then some (.int i ti) else m y)) (N : News h₀ L s.heap ((L + 1, o1) :: (L + 2, o2) :: (G, listOf its n) :: news)) (hd : dp + 30 < recursionLimit) (hu : un + 230 < cLine)
    (hret : ∀ o2' mn tc tm tg h' tk' (m' : Str → Option Value), o2'.data = .cell (some (.int (i + 1) tg)) → mn = (if 0 < ks.getD i.toNat 0 ∧ ks.getD i.toNat 0 < 76 then ks.getD i.toNat 0 else 0) → 0 ≤ ks.getD i.toNat 0 → ks.getD i.toNat 0 < 256 → Fr h₀ L h' m' → m' (Str.ofString "code") = some (.int (ks.getD i.toNat 0) tc) → m' (Str.ofString "many") = some (.int mn tm) → m' (Str.ofString "at") = some (.int i ti) → m' (Str.ofString "found") = some (.ref G) → News h₀ L h' ((L + 1, o1) :: (L + 2, o2') :: (G, listOf its n) :: news) → Q .next { s with heap := h', toks := tk' }) :
    wpAny (model PySem.Challenge.rw_ez0016_01.prog w) (Ar dp un fr gd) (execs [sT w 0, sT w 1, sT w 2] (s_E w L)) Q E s := by
  revert X; k_fill; intro X
  dsimp only [sT, sS, sB, whTest, whBody, bodyOf, fdOf, t865, fnS, nth, pw, PySem.Challenge.pw_ez0016_01, List.getD, List.getElem?_cons_succ, List.getElem?_cons_zero, Option.getD]
  k_steps
  all_goals (try (with_reducible rename Fr _ _ _ _ => FF))
  all_goals (try (with_reducible rename News _ _ _ _ => NN))
  all_goals first
    | (refine hret _ _ _ _ _ _ _ _ (by with_reducible assumption) ?_ (by with_reducible assumption) (by with_reducible assumption) FF rfl rfl rfl rfl NN; first | (rw [if_pos (by omega)]) | (rw [if_neg (by omega)]))
    | (exfalso; omega)
    | (trace_state; fail "end")

theorem s_b3n {w : World} {mg mb : Str → Option Value} {dp un : Nat} {fr : Option (List Env)} {gd : Option (List Code)} {s : Shared} {E : Value → Shared → Prop}
    {h₀ : Heap} {L : Addr} {m : Str → Option Value} {news : List (Addr × Obj)} {Q : Flow → Shared → Prop} (b : Array UInt8) (ks : List Int) (hb : KBw.bInts b = ks) (tb : Tok) (hsz : ks.length ≤ 4096) (i : Int) (ti : Tok) (h0 : 0 ≤ i) (G : Addr) (its : Array Value) (n : Nat) (o1 o2 : Obj) (d1 : o1.data = .cell (some (.bytes b tb))) (hits : its.size ≤ 4096) (hn2 : ∀ p ∈ news, p.1 ≠ L + 2) (hnG : ∀ p ∈ news, p.1 ≠ G) (hG : @LT.lt Nat _ (L + 2) G) (c bg mn : Int) (tc tg tm : Tok) (hbg : 0 ≤ bg) (d2 : o2.data = .cell (some (.int bg tg))) (hc : c < 76 ∨ 78 < c)
    (X : (KH w.params).In h₀) (T : TopRead q lw mg mb h₀) (F : Fr h₀ L s.heap (fun y => if y = Str.ofString "found" then some (.ref G) else if y = Str.ofString "at" then some (.int i ti) else if y = Str.ofString "many" then some (.int mn tm) else if y = Str.ofString "code" then some (.int c tc) else m y)) (N : News h₀ L s.heap ((L + 1, o1) :: (L + 2, o2) :: (G, listOf its n) :: news)) (hd : dp + 30 < recursionLimit) (hu : un + 230 < cLine)
    (hret : ∀ tk', Q .next { s with toks := tk' }) :
    wpAny (model PySem.Challenge.rw_ez0016_01.prog w) (Ar dp un fr gd) (exec (sT w 3) (s_E w L)) Q E s := by
  revert X; k_fill; intro X
  dsimp only [sT, sS, sB, whTest, whBody, bodyOf, fdOf, t865, fnS, nth, pw, PySem.Challenge.pw_ez0016_01, List.getD, List.getElem?_cons_succ, List.getElem?_cons_zero, Option.getD]
  k_steps
  all_goals (try (with_reducible rename Fr _ _ _ _ => FF))
  all_goals (try (with_reducible rename News _ _ _ _ => NN))
  all_goals first | exact hret _ | (exfalso; omega)

theorem s_b3_76 {w : World} {mg mb : Str → Option Value} {dp un : Nat} {fr : Option (List Env)} {gd : Option (List Code)} {s : Shared} {E : Value → Shared → Prop}
    {h₀ : Heap} {L : Addr} {m : Str → Option Value} {news : List (Addr × Obj)} {Q : Flow → Shared → Prop} (b : Array UInt8) (ks : List Int) (hb : KBw.bInts b = ks) (tb : Tok) (hsz : ks.length ≤ 4096) (i : Int) (ti : Tok) (h0 : 0 ≤ i) (G : Addr) (its : Array Value) (n : Nat) (o1 o2 : Obj) (d1 : o1.data = .cell (some (.bytes b tb))) (hits : its.size ≤ 4096) (hn2 : ∀ p ∈ news, p.1 ≠ L + 2) (hnG : ∀ p ∈ news, p.1 ≠ G) (hG : @LT.lt Nat _ (L + 2) G) (c bg mn : Int) (tc tg tm : Tok) (hbg : 0 ≤ bg) (d2 : o2.data = .cell (some (.int bg tg))) (hc : c = 76)
    (X : (KH w.params).In h₀) (T : TopRead q lw mg mb h₀) (F : Fr h₀ L s.heap (fun y => if y = Str.ofString "found" then some (.ref G) else if y = Str.ofString "at" then some (.int i ti) else if y = Str.ofString "many" then some (.int mn tm) else if y = Str.ofString "code" then some (.int c tc) else m y)) (N : News h₀ L s.heap ((L + 1, o1) :: (L + 2, o2) :: (G, listOf its n) :: news)) (hd : dp + 30 < recursionLimit) (hu : un + 230 < cLine)
    (hbad : ∀ T h' tk' (m' : Str → Option Value), (ks.length : Int) < bg + 1 → Fr h₀ L h' m' → News h₀ L h' ((T, tupO [.ref G, .bool false]) :: (G, listOf its n) :: news) → Q (.ret (.ref T)) { s with heap := h', toks := tk' })
    (hok : ∀ o2' mn' tm' tg' h' tk' (m' : Str → Option Value), bg + 1 ≤ (ks.length : Int) → mn' = manyOf ks bg 1 → o2'.data = .cell (some (.int (bg + 1) tg')) → Fr h₀ L h' m' → m' (Str.ofString "code") = some (.int 76 tc) → m' (Str.ofString "many") = some (.int mn' tm') → m' (Str.ofString "at") = some (.int i ti) → m' (Str.ofString "found") = some (.ref G) → News h₀ L h' ((L + 1, o1) :: (L + 2, o2') :: (G, listOf its n) :: news) → Q .next { s with heap := h', toks := tk' }) :
    wpAny (model PySem.Challenge.rw_ez0016_01.prog w) (Ar dp un fr gd) (exec (sT w 3) (s_E w L)) Q E s := by
  revert X; k_fill; intro X
  subst hc
  dsimp only [sT, sS, sB, whTest, whBody, bodyOf, fdOf, t865, fnS, nth, pw, PySem.Challenge.pw_ez0016_01, List.getD, List.getElem?_cons_succ, List.getElem?_cons_zero, Option.getD]
  k_steps
  all_goals (try (with_reducible rename Fr _ _ _ _ => FF))
  all_goals (try (with_reducible rename News _ _ _ _ => NN))
  all_goals first
    | (refine hbad _ _ _ _ ?_ FF (News.sub NN (by intro p hp; simp only [List.mem_cons] at hp ⊢; rcases hp with h | h | h <;> simp [h])); omega)
    | (refine hok _ _ _ _ _ _ _ ?_ rfl (by with_reducible assumption) FF rfl rfl rfl rfl (News.sub NN (by intro p hp; simp only [List.mem_cons] at hp ⊢; rcases hp with h | h | h | h <;> simp [h])); omega)
    | (exfalso; omega)
    | (trace_state; fail "end")

theorem s_b3_77 {w : World} {mg mb : Str → Option Value} {dp un : Nat} {fr : Option (List Env)} {gd : Option (List Code)} {s : Shared} {E : Value → Shared → Prop}
    {h₀ : Heap} {L : Addr} {m : Str → Option Value} {news : List (Addr × Obj)} {Q : Flow → Shared → Prop} (b : Array UInt8) (ks : List Int) (hb : KBw.bInts b = ks) (tb : Tok) (hsz : ks.length ≤ 4096) (i : Int) (ti : Tok) (h0 : 0 ≤ i) (G : Addr) (its : Array Value) (n : Nat) (o1 o2 : Obj) (d1 : o1.data = .cell (some (.bytes b tb))) (hits : its.size ≤ 4096) (hn2 : ∀ p ∈ news, p.1 ≠ L + 2) (hnG : ∀ p ∈ news, p.1 ≠ G) (hG : @LT.lt Nat _ (L + 2) G) (c bg mn : Int) (tc tg tm : Tok) (hbg : 0 ≤ bg) (d2 : o2.data = .cell (some (.int bg tg))) (hc : c = 77)
    (X : (KH w.params).In h₀) (T : TopRead q lw mg mb h₀) (F : Fr h₀ L s.heap (fun y => if y = Str.ofString "found" then some (.ref G) else if y = Str.ofString "at" then some (.int i ti) else if y = Str.ofString "many" then some (.int mn tm) else if y = Str.ofString "code" then some (.int c tc) else m y)) (N : News h₀ L s.heap ((L + 1, o1) :: (L + 2, o2) :: (G, listOf its n) :: news)) (hd : dp + 30 < recursionLimit) (hu : un + 230 < cLine)
    (hbad : ∀ T h' tk' (m' : Str → Option Value), (ks.length : Int) < bg + 2 → Fr h₀ L h' m' → News h₀ L h' ((T, tupO [.ref G, .bool false]) :: (G, listOf its n) :: news) → Q (.ret (.ref T)) { s with heap := h', toks := tk' })
    (hok : ∀ o2' mn' tm' tg' h' tk' (m' : Str → Option Value), bg + 2 ≤ (ks.length : Int) → mn' = manyOf ks bg 2 → o2'.data = .cell (some (.int (bg + 2) tg')) → Fr h₀ L h' m' → m' (Str.ofString "code") = some (.int 77 tc) → m' (Str.ofString "many") = some (.int mn' tm') → m' (Str.ofString "at") = some (.int i ti) → m' (Str.ofString "found") = some (.ref G) → News h₀ L h' ((L + 1, o1) :: (L + 2, o2') :: (G, listOf its n) :: news) → Q .next { s with heap := h', toks := tk' }) :
    wpAny (model PySem.Challenge.rw_ez0016_01.prog w) (Ar dp un fr gd) (exec (sT w 3) (s_E w L)) Q E s := by
  revert X; k_fill; intro X
  subst hc
  dsimp only [sT, sS, sB, whTest, whBody, bodyOf, fdOf, t865, fnS, nth, pw, PySem.Challenge.pw_ez0016_01, List.getD, List.getElem?_cons_succ, List.getElem?_cons_zero, Option.getD]
  k_steps
  all_goals (try (with_reducible rename Fr _ _ _ _ => FF))
  all_goals (try (with_reducible rename News _ _ _ _ => NN))
  all_goals first
    | (refine hbad _ _ _ _ ?_ FF (News.sub NN (by intro p hp; simp only [List.mem_cons] at hp ⊢; rcases hp with h | h | h <;> simp [h])); omega)
    | (refine hok _ _ _ _ _ _ _ ?_ rfl (by with_reducible assumption) FF rfl rfl rfl rfl (News.sub NN (by intro p hp; simp only [List.mem_cons] at hp ⊢; rcases hp with h | h | h | h <;> simp [h])); omega)
    | (exfalso; omega)
    | (trace_state; fail "end")

theorem s_b3_78 {w : World} {mg mb : Str → Option Value} {dp un : Nat} {fr : Option (List Env)} {gd : Option (List Code)} {s : Shared} {E : Value → Shared → Prop}
    {h₀ : Heap} {L : Addr} {m : Str → Option Value} {news : List (Addr × Obj)} {Q : Flow → Shared → Prop} (b : Array UInt8) (ks : List Int) (hb : KBw.bInts b = ks) (tb : Tok) (hsz : ks.length ≤ 4096) (i : Int) (ti : Tok) (h0 : 0 ≤ i) (G : Addr) (its : Array Value) (n : Nat) (o1 o2 : Obj) (d1 : o1.data = .cell (some (.bytes b tb))) (hits : its.size ≤ 4096) (hn2 : ∀ p ∈ news, p.1 ≠ L + 2) (hnG : ∀ p ∈ news, p.1 ≠ G) (hG : @LT.lt Nat _ (L + 2) G) (c bg mn : Int) (tc tg tm : Tok) (hbg : 0 ≤ bg) (d2 : o2.data = .cell (some (.int bg tg))) (hc : c = 78)
    (X : (KH w.params).In h₀) (T : TopRead q lw mg mb h₀) (F : Fr h₀ L s.heap (fun y => if y = Str.ofString "found" then some (.ref G) else if y = Str.ofString "at" then some (.int i ti) else if y = Str.ofString "many" then some (.int mn tm) else if y = Str.ofString "code" then some (.int c tc) else m y)) (N : News h₀ L s.heap ((L + 1, o1) :: (L + 2, o2) :: (G, listOf its n) :: news)) (hd : dp + 30 < recursionLimit) (hu : un + 230 < cLine)
    (hbad : ∀ T h' tk' (m' : Str → Option Value), (ks.length : Int) < bg + 4 → Fr h₀ L h' m' → News h₀ L h' ((T, tupO [.ref G, .bool false]) :: (G, listOf its n) :: news) → Q (.ret (.ref T)) { s with heap := h', toks := tk' })
    (hok : ∀ o2' mn' tm' tg' h' tk' (m' : Str → Option Value), bg + 4 ≤ (ks.length : Int) → mn' = manyOf ks bg 4 → o2'.data = .cell (some (.int (bg + 4) tg')) → Fr h₀ L h' m' → m' (Str.ofString "code") = some (.int 78 tc) → m' (Str.ofString "many") = some (.int mn' tm') → m' (Str.ofString "at") = some (.int i ti) → m' (Str.ofString "found") = some (.ref G) → News h₀ L h' ((L + 1, o1) :: (L + 2, o2') :: (G, listOf its n) :: news) → Q .next { s with heap := h', toks := tk' }) :
    wpAny (model PySem.Challenge.rw_ez0016_01.prog w) (Ar dp un fr gd) (exec (sT w 3) (s_E w L)) Q E s := by
  revert X; k_fill; intro X
  subst hc
  dsimp only [sT, sS, sB, whTest, whBody, bodyOf, fdOf, t865, fnS, nth, pw, PySem.Challenge.pw_ez0016_01, List.getD, List.getElem?_cons_succ, List.getElem?_cons_zero, Option.getD]
  k_steps
  all_goals (try (with_reducible rename Fr _ _ _ _ => FF))
  all_goals (try (with_reducible rename News _ _ _ _ => NN))
  all_goals first
    | (refine hbad _ _ _ _ ?_ FF (News.sub NN (by intro p hp; simp only [List.mem_cons] at hp ⊢; rcases hp with h | h | h <;> simp [h])); omega)
    | (refine hok _ _ _ _ _ _ _ ?_ rfl (by with_reducible assumption) FF rfl rfl rfl rfl (News.sub NN (by intro p hp; simp only [List.mem_cons] at hp ⊢; rcases hp with h | h | h | h <;> simp [h])); omega)
    | (exfalso; omega)
    | (trace_state; fail "end")

theorem s_b456 {w : World} {mg mb : Str → Option Value} {dp un : Nat} {fr : Option (List Env)} {gd : Option (List Code)} {s : Shared} {E : Value → Shared → Prop}
    {h₀ : Heap} {L : Addr} {m : Str → Option Value} {news : List (Addr × Obj)} {Q : Flow → Shared → Prop} (b : Array UInt8) (ks : List Int) (hb : KBw.bInts b = ks) (tb : Tok) (hsz : ks.length ≤ 4096) (i : Int) (ti : Tok) (h0 : 0 ≤ i) (G : Addr) (its : Array Value) (n : Nat) (o1 o2 : Obj) (d1 : o1.data = .cell (some (.bytes b tb))) (hits : its.size ≤ 4096) (hn2 : ∀ p ∈ news, p.1 ≠ L + 2) (hnG : ∀ p ∈ news, p.1 ≠ G) (hG : @LT.lt Nat _ (L + 2) G) (c bg mn : Int) (tc tg tm : Tok) (hbg : 0 ≤ bg) (d2 : o2.data = .cell (some (.int bg tg))) (hm : 0 ≤ mn)
    (X : (KH w.params).In h₀) (T : TopRead q lw mg mb h₀) (F : Fr h₀ L s.heap (fun y => if y = Str.ofString "found" then some (.ref G) else if y = Str.ofString "at" then some (.int i ti) else if y = Str.ofString "many" then some (.int mn tm) else if y = Str.ofString "code" then some (.int c tc) else m y)) (N : News h₀ L s.heap ((L + 1, o1) :: (L + 2, o2) :: (G, listOf its n) :: news)) (hd : dp + 30 < recursionLimit) (hu : un + 230 < cLine)
    (hbad : ∀ T h' tk' (m' : Str → Option Value), (ks.length : Int) < bg + mn → Fr h₀ L h' m' → News h₀ L h' ((T, tupO [.ref G, .bool false]) :: (G, listOf its n) :: news) → Q (.ret (.ref T)) { s with heap := h', toks := tk' })
    (hok : ∀ D d td ti' h' tk' (m' : Str → Option Value), bg + mn ≤ (ks.length : Int) → KBw.bInts d = cut ks bg (bg + mn) → D ≠ L + 2 → D ≠ G → Fr h₀ L h' m' → m' (Str.ofString "at") = some (.int (bg + mn) ti') → m' (Str.ofString "found") = some (.ref G) → News h₀ L h' ((D, tupO [.int c tc, .bytes d td]) :: (L + 1, o1) :: (L + 2, o2) :: (G, listOf (its.push (.ref D)) (n + 1)) :: news) → Q .next { s with heap := h', toks := tk' }) :
    wpAny (model PySem.Challenge.rw_ez0016_01.prog w) (Ar dp un fr gd) (execs [sT w 4, sT w 5, sT w 6] (s_E w L)) Q E s := by
  revert X; k_fill; intro X
  dsimp only [sT, sS, sB, whTest, whBody, bodyOf, fdOf, t865, fnS, nth, pw, PySem.Challenge.pw_ez0016_01, List.getD, List.getElem?_cons_succ, List.getElem?_cons_zero, Option.getD]
  k_steps
  all_goals (try (with_reducible rename Fr _ _ _ _ => FF))
  all_goals (try (with_reducible rename News _ _ _ _ => NN))
  all_goals first
    | (refine hbad _ _ _ _ ?_ FF (News.sub NN (by intro p hp; simp only [List.mem_cons] at hp ⊢; rcases hp with h | h | h <;> simp [h])); omega)
    | (refine hok _ _ _ _ _ _ _ ?_ ?_ ?_ ?_ FF rfl rfl NN <;> first | omega | (unfold cut; with_reducible assumption) | exact Nat.ne_of_gt (‹L + 1 < _ ∧ L + 2 < _ ∧ G < _ ∧ AllLt _ news›).2.1 | exact Nat.ne_of_gt (‹L + 1 < _ ∧ L + 2 < _ ∧ G < _ ∧ AllLt _ news›).2.2.1)
    | (exfalso; omega)
    | (trace_state; fail "end")

theorem s_end {w : World} {mg mb : Str → Option Value} {dp un : Nat} {fr : Option (List Env)} {gd : Option (List Code)} {s : Shared} {E : Value → Shared → Prop}
    {h₀ : Heap} {L : Addr} {m : Str → Option Value} {news : List (Addr × Obj)} {Q : Flow → Shared → Prop} (b : Array UInt8) (ks : List Int) (hb : KBw.bInts b = ks) (tb : Tok) (hsz : ks.length ≤ 4096) (i : Int) (ti : Tok) (h0 : 0 ≤ i) (G : Addr) (its : Array Value) (n : Nat) (o1 o2 : Obj) (d1 : o1.data = .cell (some (.bytes b tb))) (hits : its.size ≤ 4096) (hn2 : ∀ p ∈ news, p.1 ≠ L + 2) (hnG : ∀ p ∈ news, p.1 ≠ G) (hG : @LT.lt Nat _ (L + 2) G)
    (X : (KH w.params).In h₀) (T : TopRead q lw mg mb h₀) (F : Fr h₀ L s.heap (fun y => if y = Str.ofString "found" then some (.ref G) else if y = Str.ofString "at" then some (.int i ti) else m y)) (N : News h₀ L s.heap ((L + 1, o1) :: (L + 2, o2) :: (G, listOf its n) :: news)) (hd : dp + 30 < recursionLimit) (hu : un + 230 < cLine)
    (hret : ∀ T h' tk' (m' : Str → Option Value), Fr h₀ L h' m' → News h₀ L h' ((T, tupO [.ref G, .bool true]) :: (G, listOf its n) :: news) → Q (.ret (.ref T)) { s with heap := h', toks := tk' }) :
    wpAny (model PySem.Challenge.rw_ez0016_01.prog w) (Ar dp un fr gd) (exec (sS w 3) (s_E w L)) Q E s := by
  revert X; k_fill; intro X
  dsimp only [sT, sS, sB, whTest, whBody, bodyOf, fdOf, t865, fnS, nth, pw, PySem.Challenge.pw_ez0016_01, List.getD, List.getElem?_cons_succ, List.getElem?_cons_zero, Option.getD]
  k_steps
  all_goals (try (with_reducible rename Fr _ _ _ _ => FF))
  all_goals (try (with_reducible rename News _ _ _ _ => NN))
  all_goals exact hret _ _ _ _ FF (News.sub NN (by intro p hp; simp only [List.mem_cons] at hp ⊢; rcases hp with h | h | h <;> simp [h]))
end Mine
namespace Mine
theorem take_get (ks : List Int) (a n : Nat) (h : a + n ≤ ks.length) : (ks.drop a).take n = (List.range n).map fun j => ks.getD (a + j) 0 := by
  apply List.ext_getElem
  · simp; omega
  · intro j h1 h2
    simp at h1 h2
    rw [List.getElem_take, List.getElem_drop, List.getElem_map, List.getElem_range, List.getD_eq_getElem?_getD, List.getElem?_eq_getElem (by omega)]; rfl
theorem many_len {ks : List Int} (hk : ∀ x ∈ ks, 0 ≤ x ∧ x < 256) {i : Int} (h0 : 0 ≤ i) {n : Int} (hn : n = 1 ∨ n = 2 ∨ n = 4) (h : i + 1 + n ≤ ks.length) : manyOf ks (i + 1) n = lenAt ks i n := by
  have hg : ∀ j : Nat, 0 ≤ ks[j]?.getD 0 ∧ ks[j]?.getD 0 < 256 := fun j => by
    cases e : ks[j]? with
    | none => simp
    | some x => exact hk x (List.mem_of_getElem? e)
  obtain ⟨a, ha⟩ : ∃ a : Nat, i = a := ⟨i.toNat, by omega⟩
  subst ha
  unfold manyOf lenAt
  rw [clipAt_in (by omega) (by omega), clipAt_in (by omega) (by omega)]
  rcases hn with rfl | rfl | rfl
  · rw [show ((a : Int) + 1 + 1).toNat - ((a : Int) + 1).toNat = 1 by omega, take_get _ _ _ (by omega)]
    have e1 : ((a : Int) + 1 + 0).toNat = a + 1 := by omega
    have e0 : ((a : Int) + 1).toNat = a + 1 := by omega
    simp [rangeKs, KFB.value, List.range_succ, e0, hg]
  · rw [show ((a : Int) + 1 + 2).toNat - ((a : Int) + 1).toNat = 2 by omega, take_get _ _ _ (by omega)]
    have e1 : ((a : Int) + 1 + 1).toNat = a + 1 + 1 := by omega
    have e0 : ((a : Int) + 1).toNat = a + 1 := by omega
    simp [rangeKs, KFB.value, List.range_succ, e0, e1, hg]; omega
  · rw [show ((a : Int) + 1 + 4).toNat - ((a : Int) + 1).toNat = 4 by omega, take_get _ _ _ (by omega)]
    have e1 : ((a : Int) + 1 + 1).toNat = a + 1 + 1 := by omega
    have e2 : ((a : Int) + 1 + 2).toNat = a + 1 + 2 := by omega
    have e3 : ((a : Int) + 1 + 3).toNat = a + 1 + 3 := by omega
    have e0 : ((a : Int) + 1).toNat = a + 1 := by omega
    simp [rangeKs, KFB.value, List.range_succ, e0, e1, e2, e3, hg]; omega
theorem many_nonneg {ks : List Int} (hk : ∀ x ∈ ks, 0 ≤ x) {i n : Int} (h : manyOf ks (i + 1) n = lenAt ks i n) : 0 ≤ manyOf ks (i + 1) n := by rw [h]; exact lenAt_nonneg hk ..
theorem sBody_is (w : World) : whBody (sS w 2) = [sT w 0, sT w 1, sT w 2] ++ (sT w 3 :: [sT w 4, sT w 5, sT w 6]) := rfl
theorem fr4 {h₀ h : Heap} {L : Addr} {m' : Str → Option Value} {a b c d : Str} {va vb vc vd : Value} (F : Fr h₀ L h m') (ea : m' a = some va) (eb : m' b = some vb) (ec : m' c = some vc) (ed : m' d = some vd) :
    Fr h₀ L h (fun y => if y = a then some va else if y = b then some vb else if y = c then some vc else if y = d then some vd else m' y) := fr_ext F fun y => by
  by_cases h1 : y = a
  · subst h1; simp [ea]
  by_cases h2 : y = b
  · subst h2; simp [eb, h1]
  by_cases h3 : y = c
  · subst h3; simp [ec, h1, h2]
  by_cases h4 : y = d
  · subst h4; simp [ed, h1, h2, h3]
  simp [h1, h2, h3, h4]
theorem fr2 {h₀ h : Heap} {L : Addr} {m' : Str → Option Value} {a b : Str} {va vb : Value} (F : Fr h₀ L h m') (ea : m' a = some va) (eb : m' b = some vb) :
    Fr h₀ L h (fun y => if y = a then some va else if y = b then some vb else m' y) := fr_ext F fun y => by
  by_cases h1 : y = a
  · subst h1; simp [ea]
  by_cases h2 : y = b
  · subst h2; simp [eb, h1]
  simp [h1, h2]
section
variable {w : World} {mg mb : Str → Option Value} {dp un : Nat} {fr : Option (List Env)} {gd : Option (List Code)} {s : Shared}
theorem s_turn {h₀ : Heap} {L : Addr} {m : Str → Option Value} {news : List (Addr × Obj)} {Q : Flow → Shared → Prop} {E : Value → Shared → Prop} (b : Array UInt8) (ks : List Int) (hb : KBw.bInts b = ks) (tb : Tok) (hsz : ks.length ≤ 4096) (hk : ∀ x ∈ ks, 0 ≤ x ∧ x < 256)
    (i : Int) (ti : Tok) (h0 : 0 ≤ i) (G : Addr) (its : Array Value) (n : Nat) (o1 o2 : Obj) (d1 : o1.data = .cell (some (.bytes b tb))) (hits : its.size ≤ 4096) (hn2 : ∀ p ∈ news, p.1 ≠ L + 2) (hnG : ∀ p ∈ news, p.1 ≠ G) (hG : @LT.lt Nat _ (L + 2) G) (h1 : i < ks.length) (ov : Option Value) (d2 : o2.data = .cell ov)
    (X : (KH w.params).In h₀) (T : TopRead q lw mg mb h₀) (F : Fr h₀ L s.heap m) (ef : m (Str.ofString "found") = some (.ref G)) (ea : m (Str.ofString "at") = some (.int i ti)) (N : News h₀ L s.heap ((L + 1, o1) :: (L + 2, o2) :: (G, listOf its n) :: news)) (hd : dp + 30 < recursionLimit) (hu : un + 230 < cLine)
    (hbad : ∀ T h' tk' m', rdI ks i = none → Fr h₀ L h' m' → News h₀ L h' ((T, tupO [.ref G, .bool false]) :: (G, listOf its n) :: news) → Q (.ret (.ref T)) { s with heap := h', toks := tk' })
    (hok : ∀ op stop D t d td o2' ov' ti' h' tk' m', rdI ks i = some (op, stop) → KBw.bInts d = cut ks (i + hdr op) stop → D ≠ L + 2 → D ≠ G → o2'.data = .cell ov' → Fr h₀ L h' m' → m' (Str.ofString "at") = some (.int stop ti') → m' (Str.ofString "found") = some (.ref G) →
      News h₀ L h' ((D, tupO [.int op t, .bytes d td]) :: (L + 1, o1) :: (L + 2, o2') :: (G, listOf (its.push (.ref D)) (n + 1)) :: news) → Q .next { s with heap := h', toks := tk' }) :
    wpAny (model RP w) (Ar dp un fr gd) (execs (whBody (sS w 2)) (s_E w L)) Q E s := by
  have hk0 : ∀ x ∈ ks, 0 ≤ x := fun x hx => (hk x hx).1
  rw [sBody_is]
  refine wp_app _ ?_
  refine s_b012 b ks hb tb hsz i ti h0 G its n o1 o2 d1 hits hn2 hnG hG h1 ov d2 X T (fr2 F ef ea) N hd hu (fun o2' mn tc tm tg h' tk' m' e2 emn c0 c1 F' ec em ea' ef' N' => ?_)
  refine wpAny_execs_cons ?_
  have hcase : (ks.getD i.toNat 0 < 76 ∨ 78 < ks.getD i.toNat 0) ∨ ks.getD i.toNat 0 = 76 ∨ ks.getD i.toNat 0 = 77 ∨ ks.getD i.toNat 0 = 78 := by omega
  have fin : ∀ {o2'' : Obj} {bg mn' : Int} {tg' tm' : Tok} {h'' : Heap} {tk'' : Nat} {m'' : Str → Option Value}, 0 ≤ bg → 0 ≤ mn' → o2''.data = .cell (some (.int bg tg')) → (bg + mn' ≤ ks.length → rdI ks i = some (ks.getD i.toNat 0, bg + mn') ∧ bg = i + hdr (ks.getD i.toNat 0)) → ((ks.length : Int) < bg + mn' → rdI ks i = none) →
      Fr h₀ L h'' m'' → m'' (Str.ofString "code") = some (.int (ks.getD i.toNat 0) tc) → m'' (Str.ofString "many") = some (.int mn' tm') → m'' (Str.ofString "at") = some (.int i ti) → m'' (Str.ofString "found") = some (.ref G) → News h₀ L h'' ((L + 1, o1) :: (L + 2, o2'') :: (G, listOf its n) :: news) →
      wpAny (model RP w) (Ar dp un fr gd) (execs [sT w 4, sT w 5, sT w 6] (s_E w L)) Q E { s with heap := h'', toks := tk'' } := fun hbg hmn e2 hgo hno F'' ec'' em'' ea'' ef'' N'' => by
    refine s_b456 b ks hb tb hsz i ti h0 G its n o1 _ d1 hits hn2 hnG hG _ _ _ _ _ _ hbg e2 hmn X T (fr4 F'' ef'' ea'' em'' ec'') N'' hd hu (fun T' h₃ tk₃ m₃ hlt F₃ N₃ => hbad _ _ _ _ (hno hlt) F₃ N₃) (fun D d td ti' h₃ tk₃ m₃ hle hd' hD2 hDG F₃ ea₃ ef₃ N₃ => ?_)
    obtain ⟨r1, r2⟩ := hgo hle
    exact hok _ _ D _ d td _ _ ti' _ _ _ r1 (r2 ▸ hd') hD2 hDG e2 F₃ ea₃ ef₃ N₃
  rcases hcase with hc | hc | hc | hc
  · refine s_b3n b ks hb tb hsz i ti h0 G its n o1 o2' d1 hits hn2 hnG hG _ _ _ _ _ _ (by omega) e2 hc X T (fr4 F' ef' ea' em ec) N' hd hu (fun tk'' => ?_)
    have hmn : 0 ≤ mn := by rw [emn]; split <;> omega
    refine fin (by omega) hmn e2 (fun hle => ⟨?_, ?_⟩) (fun hlt => ?_) F' ec em ea' ef' N'
    · unfold rdI
      rw [if_neg (by omega)]
      by_cases hz : 0 < ks.getD i.toNat 0 ∧ ks.getD i.toNat 0 < 76
      · rw [if_pos hz] at emn
        rw [if_pos (by omega), if_neg (by omega), if_neg (by omega), emn]
      · rw [if_neg hz] at emn
        rw [if_neg (by omega), emn, Int.add_zero]
    · unfold hdr; rw [if_neg (by omega)]
    · unfold rdI
      rw [if_neg (by omega)]
      by_cases hz : 0 < ks.getD i.toNat 0 ∧ ks.getD i.toNat 0 < 76
      · rw [if_pos hz] at emn
        rw [if_pos (by omega), if_neg (by omega), if_pos (by omega)]
      · rw [if_neg hz] at emn
        omega
  all_goals
    rw [hc] at ec fin
    have hp : ∀ z : Int, (2 : Int) ^ (ks.getD i.toNat 0 - 76).toNat = z → ((ks.length : Int) < i + 1 + z → rdI ks i = none) ∧ (i + 1 + z ≤ ks.length → ((ks.length : Int) < i + 1 + z + lenAt ks i z → rdI ks i = none) ∧ (i + 1 + z + lenAt ks i z ≤ ks.length → rdI ks i = some (ks.getD i.toNat 0, i + 1 + z + lenAt ks i z))) := fun z hz => by
      unfold rdI
      rw [if_neg (by omega), if_pos (by omega), if_pos (by omega), hz]
      refine ⟨fun h => by rw [if_pos h], fun h => ⟨fun h' => by rw [if_neg (by omega), if_pos h'], fun h' => by rw [if_neg (by omega), if_neg (by omega)]⟩⟩
    rw [hc] at hp
  · obtain ⟨p1, p2⟩ := hp 1 rfl
    refine s_b3_76 b ks hb tb hsz i ti h0 G its n o1 o2' d1 hits hn2 hnG hG _ _ _ _ _ _ (by omega) e2 rfl X T (fr4 F' ef' ea' em ec) N' hd hu (fun T' h₃ tk₃ m₃ hlt F₃ N₃ => hbad _ _ _ _ (p1 hlt) F₃ N₃) (fun o₃ mn' tm' tg' h₃ tk₃ m₃ hle em' e₃ F₃ ec₃ em₃ ea₃ ef₃ N₃ => ?_)
    have hl := many_len hk h0 (.inl rfl) hle
    obtain ⟨p3, p4⟩ := p2 hle
    rw [hl] at em'
    have := lenAt_nonneg hk0 i 1
    exact fin (by omega) (by omega) e₃ (fun h => ⟨em' ▸ p4 (em' ▸ h), by rw [show hdr 76 = 2 from rfl]; omega⟩) (fun h => p3 (em' ▸ h)) F₃ ec₃ em₃ ea₃ ef₃ N₃
  · obtain ⟨p1, p2⟩ := hp 2 rfl
    refine s_b3_77 b ks hb tb hsz i ti h0 G its n o1 o2' d1 hits hn2 hnG hG _ _ _ _ _ _ (by omega) e2 rfl X T (fr4 F' ef' ea' em ec) N' hd hu (fun T' h₃ tk₃ m₃ hlt F₃ N₃ => hbad _ _ _ _ (p1 hlt) F₃ N₃) (fun o₃ mn' tm' tg' h₃ tk₃ m₃ hle em' e₃ F₃ ec₃ em₃ ea₃ ef₃ N₃ => ?_)
    have hl := many_len hk h0 (.inr (.inl rfl)) hle
    obtain ⟨p3, p4⟩ := p2 hle
    rw [hl] at em'
    have := lenAt_nonneg hk0 i 2
    exact fin (by omega) (by omega) e₃ (fun h => ⟨em' ▸ p4 (em' ▸ h), by rw [show hdr 77 = 3 from rfl]; omega⟩) (fun h => p3 (em' ▸ h)) F₃ ec₃ em₃ ea₃ ef₃ N₃
  · obtain ⟨p1, p2⟩ := hp 4 rfl
    refine s_b3_78 b ks hb tb hsz i ti h0 G its n o1 o2' d1 hits hn2 hnG hG _ _ _ _ _ _ (by omega) e2 rfl X T (fr4 F' ef' ea' em ec) N' hd hu (fun T' h₃ tk₃ m₃ hlt F₃ N₃ => hbad _ _ _ _ (p1 hlt) F₃ N₃) (fun o₃ mn' tm' tg' h₃ tk₃ m₃ hle em' e₃ F₃ ec₃ em₃ ea₃ ef₃ N₃ => ?_)
    have hl := many_len hk h0 (.inr (.inr rfl)) hle
    obtain ⟨p3, p4⟩ := p2 hle
    rw [hl] at em'
    have := lenAt_nonneg hk0 i 4
    exact fin (by omega) (by omega) e₃ (fun h => ⟨em' ▸ p4 (em' ▸ h), by rw [show hdr 78 = 5 from rfl]; omega⟩) (fun h => p3 (em' ▸ h)) F₃ ec₃ em₃ ea₃ ef₃ N₃
end
end Mine
namespace Mine
def upF (i : Int) (l : List (Int × Int × Int)) : Nat → Int
  | 0 => i
  | j + 1 => match l[j]? with | some e => e.2.2 | none => i
theorem sf_next {ks : List Int} (hk : ∀ x ∈ ks, 0 ≤ x) : ∀ (f : Nat) (i : Int) (j : Nat), 0 ≤ i → (ks.length : Int) + 1 - i ≤ f → j ≤ (spansF f ks i).length →
    (∀ op stop, rdI ks (upF i (spansF f ks i) j) = some (op, stop) → (spansF f ks i)[j]? = some (op, upF i (spansF f ks i) j, stop)) ∧ (rdI ks (upF i (spansF f ks i) j) = none → (spansF f ks i).length = j)
  | 0, i, j, h0, hf, hj => by
    have hj0 : j = 0 := Nat.le_zero.mp hj
    subst hj0
    refine ⟨fun op stop h => ?_, fun _ => rfl⟩
    have := (rdI_some hk h).1
    simp only [upF] at this
    omega
  | f + 1, i, j, h0, hf, hj => by
    unfold spansF at hj ⊢
    cases hr : rdI ks i with
    | none =>
      rw [hr] at hj
      have hj0 : j = 0 := Nat.le_zero.mp hj
      subst hj0
      refine ⟨fun op stop h => ?_, fun _ => rfl⟩
      simp only [upF] at h
      rw [hr] at h; cases h
    | some e =>
      obtain ⟨op, stop⟩ := e
      have hb := rdI_some hk hr
      rw [hr] at hj
      dsimp only at hj ⊢
      cases j with
      | zero =>
        refine ⟨fun op' stop' h => ?_, fun h => ?_⟩
        · simp only [upF] at h ⊢
          rw [hr] at h; cases h; rfl
        · simp only [upF] at h
          rw [hr] at h; cases h
      | succ j =>
        have hj' : j ≤ (spansF f ks stop).length := by rw [List.length_cons] at hj; omega
        have ih := sf_next hk f stop j (by omega) (by omega) hj'
        have hp : upF i ((op, i, stop) :: spansF f ks stop) (j + 1) = upF stop (spansF f ks stop) j := by
          cases j with
          | zero => rfl
          | succ j =>
            have hlt : j < (spansF f ks stop).length := hj'
            simp only [upF, List.getElem?_cons_succ, List.getElem?_eq_getElem hlt]
        rw [hp]
        exact ⟨fun op' stop' h => by rw [List.getElem?_cons_succ]; exact ih.1 op' stop' h, fun h => by rw [List.length_cons, ih.2 h]⟩
end Mine
namespace Mine
theorem sf_len {ks : List Int} (hk : ∀ x ∈ ks, 0 ≤ x) : ∀ (f : Nat) (i : Int), 0 ≤ i → i ≤ ks.length → ((spansF f ks i).length : Int) + i ≤ ks.length
  | 0, i, _, h1 => by simp only [spansF, List.length_nil]; omega
  | f + 1, i, h0, h1 => by
    unfold spansF
    cases hr : rdI ks i with
    | none => simp only [List.length_nil]; omega
    | some e =>
      obtain ⟨op, stop⟩ := e
      have hb := rdI_some hk hr
      have := sf_len hk f stop (by omega) (by omega)
      simp only [List.length_cons]; omega
def ItemAt (P : Addr → Obj → Prop) (ks : List Int) (its : Array Value) (k : Nat) : Prop := ∀ e, (spans ks)[k]? = some e → ∃ D t d td, its[k]? = some (.ref D) ∧ P D (tupO [.int e.1 t, .bytes d td]) ∧ KBw.bInts d = cut ks (e.2.1 + hdr e.1) e.2.2
def Whole (ks : List Int) : Bool := decide (upF 0 (spans ks) (spans ks).length = ks.length)
theorem sB_is (w : World) : ∃ pos, sB w = [sS w 0, sS w 1, .While (whTest (sS w 2)) (whBody (sS w 2)) [] pos, sS w 3] := ⟨_, rfl⟩
theorem bInts_range {b : Array UInt8} : ∀ x ∈ KBw.bInts b, 0 ≤ x ∧ x < 256 := fun x hx => by
  unfold KBw.bInts at hx
  obtain ⟨u, _, rfl⟩ := List.mem_map.mp hx
  have := u.toNat_lt
  omega
section
variable {w : World} {mg mb : Str → Option Value} {dp un : Nat} {fr : Option (List Env)} {gd : Option (List Code)} {s : Shared}
theorem s_loop {h₀ : Heap} {L : Addr} {m : Str → Option Value} {Q : Flow → Shared → Prop} {E : Value → Shared → Prop} (b : Array UInt8) (ks : List Int) (hb : KBw.bInts b = ks) (tb : Tok) (hsz : ks.length ≤ 4096) (hk : ∀ x ∈ ks, 0 ≤ x ∧ x < 256)
    (o1 o2 : Obj) (d1 : o1.data = .cell (some (.bytes b tb))) (ov : Option Value) (d2 : o2.data = .cell ov)
    (X : (KH w.params).In h₀) (T : TopRead q lw mg mb h₀) (F : Fr h₀ L s.heap m) (N : News h₀ L s.heap [(L + 1, o1), (L + 2, o2)]) (hd : dp + 40 < recursionLimit) (hu : un + 260 < cLine)
    (hret : ∀ T G its n h' tk', Ext h₀ h' → h'.get? T = some (tupO [.ref G, .bool (Whole ks)]) → h₀.get? T = none → h'.get? G = some (listOf its n) → h₀.get? G = none → its.size = (spans ks).length → (∀ k, ItemAt (fun D o => h'.get? D = some o ∧ h₀.get? D = none) ks its k) → Q (.ret (.ref T)) { s with heap := h', toks := tk' }) :
    wpAny (model RP w) (Ar dp un fr gd) (execs (sB w) (s_E w L)) Q E s := by
  have hk0 : ∀ x ∈ ks, 0 ≤ x := fun x hx => (hk x hx).1
  obtain ⟨pos, hB⟩ := sB_is w
  rw [hB]
  refine wp_app [sS w 0, sS w 1] (rest := [.While (whTest (sS w 2)) (whBody (sS w 2)) [] pos, sS w 3]) ?_
  refine s_init (news := []) b ks hb tb hsz o1 o2 X T F N (by omega) (by omega) (fun G t h₁ tk₁ F₁ N₁ hG => ?_)
  refine wpAny_execs_cons (wpAny_While ?_)
  have SN : ∀ j, j ≤ (spans ks).length → (∀ op stop, rdI ks (upF 0 (spans ks) j) = some (op, stop) → (spans ks)[j]? = some (op, upF 0 (spans ks) j, stop)) ∧ (rdI ks (upF 0 (spans ks) j) = none → (spans ks).length = j) :=
    fun j hj => sf_next hk0 _ 0 j (by omega) (by omega) hj
  have out : ∀ {j : Nat} {T G : Addr} {its : Array Value} {n : Nat} {news : List (Addr × Obj)} {h' : Heap} {tk' : Nat} {m' : Str → Option Value} {wh : Bool}, (spans ks).length = j → its.size = j → (∀ k, k < j → ItemAt (fun D o => (D, o) ∈ news) ks its k) → wh = Whole ks → Fr h₀ L h' m' →
      News h₀ L h' ((T, tupO [.ref G, .bool wh]) :: (G, listOf its n) :: news) → Q (.ret (.ref T)) { s with heap := h', toks := tk' } := fun hl hs hp hw F' N' => by
    subst hw
    refine hret _ _ _ _ _ _ F'.keep (N' _ (.head _)).1 (N' _ (.head _)).2.2 (N' _ (.tail _ (.head _))).1 (N' _ (.tail _ (.head _))).2.2 (hs.trans hl.symm) (fun k e he => ?_)
    have hlt : k < (spans ks).length := by
      rcases Nat.lt_or_ge k (spans ks).length with q | q
      · exact q
      · rw [List.getElem?_eq_none q] at he; cases he
    obtain ⟨D, t, d, td, a1, a2, a3⟩ := hp k (hl ▸ hlt) e he
    have := N' _ (.tail _ (.tail _ a2))
    exact ⟨D, t, d, td, a1, ⟨this.1, this.2.2⟩, a3⟩
  let I : Nat → Shared → Prop := fun n s' => ∃ j ti its nn news h tk m' o2 ov, n + j = (spans ks).length ∧ s' = { s with heap := h, toks := tk } ∧ 0 ≤ upF 0 (spans ks) j ∧ upF 0 (spans ks) j ≤ ks.length ∧ its.size = j ∧ (∀ k, k < j → ItemAt (fun D o => (D, o) ∈ news) ks its k) ∧
    (∀ p ∈ news, p.1 ≠ L + 2) ∧ (∀ p ∈ news, p.1 ≠ G) ∧ o2.data = .cell ov ∧ Fr h₀ L h m' ∧ m' (Str.ofString "found") = some (.ref G) ∧ m' (Str.ofString "at") = some (.int (upF 0 (spans ks) j) ti) ∧ News h₀ L h ((L + 1, o1) :: (L + 2, o2) :: (G, listOf its nn) :: news)
  refine codeAny_whileLoop I (fun n s' hI => ?_) (spans ks).length ⟨0, t, #[], 0, [], h₁, tk₁, _, o2, ov, rfl, rfl, Int.le_refl _, Int.natCast_nonneg _, rfl, (fun _ h => nomatch h), (fun _ h => nomatch h), (fun _ h => nomatch h), d2, F₁, rfl, rfl, News.sub N₁ (by intro p hp; simp only [List.mem_cons] at hp ⊢; rcases hp with h | h | h | h <;> simp [h])⟩
  obtain ⟨j, ti, its, nn, news, h, tk, m', o2, ov, hn, rfl, hi0, hi1, hsj, hit, hn2, hnG, d2, F', ef, ea, N'⟩ := hI
  have hits : its.size ≤ 4096 := by
    have : ((spans ks).length : Int) + 0 ≤ ks.length := sf_len hk0 (ks.length + 1) 0 (by omega) (by omega)
    omega
  obtain ⟨sn1, sn2⟩ := SN j (by omega)
  by_cases hlt : upF 0 (spans ks) j < ks.length
  · refine s_test b ks hb tb hsz _ ti hi0 G its nn o1 o2 d1 hits hn2 hnG hG X T (fr2 F' ef ea) N' (by omega) (by omega) (fun tk' => ?_)
    rw [decide_eq_true hlt, if_pos rfl]
    refine s_turn b ks hb tb hsz hk _ ti hi0 G its nn o1 o2 d1 hits hn2 hnG hG hlt ov d2 X T F' ef ea N' (by omega) (by omega) (fun T' h₂ tk₂ m₂ hr F₂ N₂ => ?_) (fun op stop D t' d td o2' ov' ti' h₂ tk₂ m₂ hr hd' hD2 hDG e2 F₂ ea₂ ef₂ N₂ => ?_)
    · refine out (sn2 hr) hsj hit ?_ F₂ N₂
      symm
      unfold Whole
      rw [sn2 hr]
      exact decide_eq_false (Int.ne_of_lt hlt)
    · have hj := sn1 op stop hr
      obtain ⟨r1, r2, r3, r4⟩ := rdI_some hk0 hr
      have hjl : j < (spans ks).length := by
        rcases Nat.lt_or_ge j (spans ks).length with q | q
        · exact q
        · rw [List.getElem?_eq_none q] at hj; cases hj
      have hup : upF 0 (spans ks) (j + 1) = stop := by simp only [upF, hj]
      refine ⟨n - 1, by omega, j + 1, ti', its.push (.ref D), nn + 1, (D, tupO [.int op t', .bytes d td]) :: news, h₂, tk₂, m₂, o2', ov', by omega, rfl, ?_, ?_, by simp [hsj], fun k hkj e he => ?_, ?_, ?_, e2, F₂, ef₂, hup ▸ ea₂, News.sub N₂ (by intro p hp; simp only [List.mem_cons] at hp ⊢; rcases hp with h | h | h | h | h <;> simp [h])⟩
      · rw [hup]; omega
      · rw [hup]; omega
      · rcases Nat.lt_or_ge k j with q | q
        · obtain ⟨D', t₁, d', td', a1, a2, a3⟩ := hit k q e he
          refine ⟨D', t₁, d', td', ?_, .tail _ a2, a3⟩
          rw [Array.getElem?_push, if_neg (by omega)]; exact a1
        · have : k = j := by omega
          subst this
          rw [hj] at he; cases he
          exact ⟨D, t', d, td, by rw [← hsj]; simp, .head _, hd'⟩
      · intro p hp
        rcases List.mem_cons.mp hp with rfl | hp
        · exact hD2
        · exact hn2 p hp
      · intro p hp
        rcases List.mem_cons.mp hp with rfl | hp
        · exact hDG
        · exact hnG p hp
  · have hr : rdI ks (upF 0 (spans ks) j) = none := by
      unfold rdI; rw [if_pos (by omega)]
    have hjl := sn2 hr
    refine s_test b ks hb tb hsz _ ti hi0 G its nn o1 o2 d1 hits hn2 hnG hG X T (fr2 F' ef ea) N' (by omega) (by omega) (fun tk' => ?_)
    rw [decide_eq_false hlt, if_neg Bool.false_ne_true]
    refine wpAny_execs_nil ?_
    refine wpAny_execs_cons ?_
    refine s_end b ks hb tb hsz _ ti hi0 G its nn o1 o2 d1 hits hn2 hnG hG X T (fr2 F' ef ea) N' (by omega) (by omega) (fun T' h₂ tk₂ m₂ F₂ N₂ => ?_)
    refine out hjl hsj hit ?_ F₂ N₂
    symm
    unfold Whole
    rw [hjl]
    exact decide_eq_true (Int.le_antisymm hi1 (Int.not_lt.mp hlt))
theorem st_c {b : Array UInt8} {ks : List Int} (hb : KBw.bInts b = ks) {tb : Tok} (hsz : ks.length ≤ 4096) {args : Args} {R : Result → Shared → Prop}
    (hbd : BindsTo s (fdOf (t865 w.params)) args [(Str.ofString "octets", .bytes b tb)])
    (X : (KH w.params).In s.heap) (T : TopRead q lw mg mb s.heap) (hd : dp + 50 < recursionLimit) (hu : un + 270 < cLine)
    (hret : ∀ T G its n h' tk', Ext s.heap h' → h'.get? T = some (tupO [.ref G, .bool (Whole ks)]) → s.heap.get? T = none → h'.get? G = some (listOf its n) → s.heap.get? G = none → its.size = (spans ks).length → (∀ k, ItemAt (fun D o => h'.get? D = some o ∧ s.heap.get? D = none) ks its k) → R (.ok (.ret (.ref T))) { s with heap := h', toks := tk' }) :
    codeAny (model RP w) (Ar dp un fr gd) (.call (.ref 865) args) R s := by
  refine enterC (K := KH w.params) (f := 865) X T.nolimit (by rfl) (by rfl) (by show dp < recursionLimit; omega) hbd (fun n x hx => ?_) (by decide) (fun L' h₁ tk cells F N Y hL => ?_) (by rfl) (by rfl) (by rfl)
  · simp only [List.mem_cons, List.not_mem_nil, or_false] at hx
    subst hx
    exact .inr ⟨rfl, rfl⟩
  · obtain ⟨o2, o1, hE, d2, d1⟩ := CellsAre.two Y
    subst hE
    refine s_loop (dp := dp + 1) (un := un + 3) (fr := fr.map (s_E w L' :: ·)) b ks hb tb hsz (hb ▸ bInts_range) o1 o2 (d1.trans (by with_unfolding_all rfl)) _ d2 X T F (News.sub N (by intro p hp; simp only [List.mem_cons] at hp ⊢; rcases hp with h | h | h <;> simp [h])) (by omega) (by omega) hret
end
end Mine
namespace Mine
local macro_rules | `(tactic| walk_at "zz") => `(tactic| fail "zz")
local macro_rules | `(tactic| k_room) => `(tactic| ((try simp only [depth_under_make, depth_under_kw, depth_in1, depth_deeper, depth_caller]); (try dsimp only [Ar]); omega))
local macro_rules | `(tactic| k_units) => `(tactic| ((try simp only [units_in1, units_deeper, Around.mark_units, units_caller]); (try dsimp only [Ar]); omega))
local macro_rules | `(tactic| cell_enter) => `(tactic| (refine' enterK ?k1 ?k2 ?k6 ?k7 ?k8 ?k9 ?kB ?_ ?c2 ?c3 ?c4 ?c5; (case k1 => assumption); (case k2 => exact TopRead.nolimit (by assumption)); (case k6 => k_is); (case k7 => k_is); (case k8 => k_room); (case k9 => first | exact BindsTo.of_eq rfl | exact binds_K (by assumption) rfl (by k_is) rfl rfl rfl | fail "k_enter: no rule for these arguments"); (case c5 => decide); (case kB => exact locs rfl); (case c2 => exact rfl); (case c3 => exact rfl); (case c4 => exact rfl); k_whole; intro L' h' F' N' kSz; (try dsimp only); (try k_fold)))
local macro_rules | `(tactic| walk_at "call type:bytes") => `(tactic| (k_here; (with_reducible show wpAny _ _ (call (Value.type _) [Value.bytes _ _]) _ _ _); (with_unfolding_all refine call_bytes_bytes ?_)))

section
variable {w : World} {mg mb : Str → Option Value} {dp un : Nat} {fr : Option (List Env)} {gd : Option (List Code)} {s : Shared}
theorem st_p {b : Array UInt8} {ks : List Int} {tb : Tok} {Q E : Value → Shared → Prop} (hb : KBw.bInts b = ks) (hsz : ks.length ≤ 4096)
    (X : (KH w.params).In s.heap) (T : TopRead q lw mg mb s.heap) (hd : dp + 50 < recursionLimit) (hu : un + 270 < cLine)
    (hret : ∀ T G its n h' tk', Ext s.heap h' → h'.get? T = some (tupO [.ref G, .bool (Whole ks)]) → s.heap.get? T = none → h'.get? G = some (listOf its n) → s.heap.get? G = none → its.size = (spans ks).length → (∀ k, ItemAt (fun D o => h'.get? D = some o ∧ s.heap.get? D = none) ks its k) → Q (.ref T) { s with heap := h', toks := tk' }) :
    wpAny (model RP w) (Ar dp un fr gd) (call (.ref 865) [.bytes b tb]) Q E s := by
  refine wpAny_call ?_
  exact st_c hb hsz (BindsTo.of_eq (by rfl)) X T hd hu hret
theorem st_news {h₀ h h' : Heap} {L T G : Addr} {m : Str → Option Value} {news : List (Addr × Obj)} {oT oG : Obj} {ks : List Int} {its : Array Value} (F : Fr h₀ L h m) (N : News h₀ L h news) (hk : Ext h h') (hT : h'.get? T = some oT) (hTf : h.get? T = none) (hG : h'.get? G = some oG) (hGf : h.get? G = none)
    (hit : ∀ k, ItemAt (fun D o => h'.get? D = some o ∧ h.get? D = none) ks its k) :
    ∃ nw, News h₀ L h' ((T, oT) :: (G, oG) :: nw) ∧ (∀ k, ItemAt (fun D o => (D, o) ∈ nw) ks its k) ∧ (∀ p ∈ news, p ∈ nw) := by
  have A := allNews_is h₀ L h'
  have fresh : ∀ {D : Addr}, h.get? D = none → D ≠ L ∧ h₀.get? D = none := fun {D} hf => by
    refine ⟨fun e => ?_, ?_⟩
    · obtain ⟨oL, _, _, hL, _⟩ := F.ns
      rw [← e] at hL
      exact absurd (hL.symm.trans hf) (by simp)
    · cases q : h₀.get? D with
      | none => rfl
      | some x => exact absurd ((F.keep _ _ q).symm.trans hf) (by simp)
  refine ⟨allNews h₀ L h', fun p hp => ?_, fun k e he => ?_, fun p hp => mem_allNews (N p hp).2.1 (hk _ _ (N p hp).1) (N p hp).2.2⟩
  · rcases List.mem_cons.mp hp with rfl | hp
    · exact news_new F N hk hT hTf _ (.head _)
    rcases List.mem_cons.mp hp with rfl | hp
    · exact news_new F N hk hG hGf _ (.head _)
    exact A p hp
  · obtain ⟨D, t, d, td, a1, ⟨a2, a3⟩, a4⟩ := hit k e he
    exact ⟨D, t, d, td, a1, mem_allNews (fresh a3).1 a2 (fresh a3).2, a4⟩
end
noncomputable abbrev knB (w : World) : List Stmt := bodyOf (fdOf (t872 w.params))
noncomputable abbrev knS (w : World) (i : Nat) : Stmt := (knB w).getD i (.Pass ⟨0, 0, 0, 0⟩)
noncomputable abbrev kn_E (w : World) (L : Addr) : Env := envOf (Str.ofString "_law_count") (fdOf (t872 w.params)).scope L 872 (.ref 871)
local macro_rules | `(tactic| walk_at "call ref") => `(tactic| (k_here; (with_reducible show wpAny _ _ (call (Value.ref 865) [Value.bytes _ _]) _ _ _); k_dflt ((with_reducible rename Fr _ _ _ _ => FF); (with_reducible rename News _ _ _ _ => NN); (with_reducible rename Frag.In _ _ => XX); (with_reducible rename TopRead _ _ _ _ _ => TT); refine' st_p ?kb ?ksz ?kX ?kT ?kd ?ku ?_; (case kb => assumption); (case ksz => assumption); (case kX => exact Frag.In.keeps XX FF.keep); (case kT => exact TopRead.keeps TT FF.keep); (case kd => k_room); (case ku => k_units); (intro T' G' its' n' h' tk' hk' hT' hTf' hG' hGf' hsz' hit'; (have F' := Fr.keeps FF hk'); obtain ⟨nw', N', hin', hsub'⟩ := st_news FF NN hk' hT' hTf' hG' hGf' hit'; clear FF NN hk' hT' hTf' hG' hGf' hit'; (try dsimp only at F' N' ⊢)))))

theorem kn_init {w : World} {mg mb : Str → Option Value} {dp un : Nat} {fr : Option (List Env)} {gd : Option (List Code)} {s : Shared} {E : Value → Shared → Prop}
    {h₀ : Heap} {L : Addr} {m : Str → Option Value} {news : List (Addr × Obj)} {Q : Flow → Shared → Prop} (b : Array UInt8) (tb : Tok) (acc : Bool)
    (X : (KH w.params).In h₀) (T : TopRead q lw mg mb h₀) (F : Fr h₀ L s.heap (fun y => if y = Str.ofString "octets" then some (.bytes b tb) else if y = Str.ofString "accurate" then some (.bool acc) else m y)) (N : News h₀ L s.heap news) (hd : dp + 30 < recursionLimit) (hu : un + 230 < cLine)
    (hret : ∀ h' tk' t' m', Fr h₀ L h' m' → m' (Str.ofString "octets") = some (.bytes b tb) → m' (Str.ofString "accurate") = some (.bool acc) → m' (Str.ofString "whole") = some (.int 0 t') → m' (Str.ofString "ahead") = some (.none) → Q .next { s with heap := h', toks := tk' }) :
    wpAny (model PySem.Challenge.rw_ez0016_01.prog w) (Ar dp un fr gd) (execs [knS w 0, knS w 1] (kn_E w L)) Q E s := by
  revert X; k_fill; intro X
  dsimp only [knS, knB, forTgt, forIter, forBody, bodyOf, fdOf, t872, fnS, nth, pw, PySem.Challenge.pw_ez0016_01, List.getD, List.getElem?_cons_succ, List.getElem?_cons_zero, Option.getD]
  k_steps
  all_goals (try (with_reducible rename Fr _ _ _ _ => FF))
  all_goals (try (with_reducible rename News _ _ _ _ => NN))
  exact hret _ _ _ _ FF rfl rfl rfl rfl

theorem kn_iter {w : World} {mg mb : Str → Option Value} {dp un : Nat} {fr : Option (List Env)} {gd : Option (List Code)} {s : Shared} {E : Value → Shared → Prop}
    {h₀ : Heap} {L : Addr} {m : Str → Option Value} {news : List (Addr × Obj)} {Q : Value → Shared → Prop} (b : Array UInt8) (ks : List Int) (hb : KBw.bInts b = ks) (tb : Tok) (hsz : ks.length ≤ 4096) (acc : Bool)
    (X : (KH w.params).In h₀) (T : TopRead q lw mg mb h₀) (F : Fr h₀ L s.heap (fun y => if y = Str.ofString "octets" then some (.bytes b tb) else m y)) (N : News h₀ L s.heap news) (hd : dp + 80 < recursionLimit) (hu : un + 320 < cLine)
    (hret : ∀ G its n nw h' tk', Fr h₀ L h' (fun y => if y = Str.ofString "octets" then some (.bytes b tb) else m y) → News h₀ L h' ((G, listOf its n) :: nw) → its.size = (spans ks).length → (∀ k, ItemAt (fun D o => (D, o) ∈ nw) ks its k) → Q (.ref G) { s with heap := h', toks := tk' }) :
    wpAny (model PySem.Challenge.rw_ez0016_01.prog w) (Ar dp un fr gd) (eval (forIter (knS w 2)) (kn_E w L)) Q E s := by
  revert X; k_fill; intro X
  dsimp only [knS, knB, forTgt, forIter, forBody, bodyOf, fdOf, t872, fnS, nth, pw, PySem.Challenge.pw_ez0016_01, List.getD, List.getElem?_cons_succ, List.getElem?_cons_zero, Option.getD]
  k_steps
  all_goals (try (with_reducible rename Fr _ _ _ _ => FF))
  all_goals (try (with_reducible rename News _ _ _ _ => NN))
  all_goals exact hret _ _ _ _ _ _ FF (fun p hp => NN p (.tail _ hp)) (by assumption) (by assumption)

theorem kn_turnN {w : World} {mg mb : Str → Option Value} {dp un : Nat} {fr : Option (List Env)} {gd : Option (List Code)} {s : Shared} {E : Value → Shared → Prop}
    {h₀ : Heap} {L : Addr} {m : Str → Option Value} {news : List (Addr × Obj)} {Q : Flow → Shared → Prop} {J : (Str → Option Value) → Prop} {news₁ : List (Addr × Obj)} (acc : Bool) (c op : Int) (tc t1 td : Tok) (d : Array UInt8) (D : Addr) 
    (X : (KH w.params).In h₀) (T : TopRead q lw mg mb h₀) (F : Fr h₀ L s.heap (fun y => if y = Str.ofString "accurate" then some (.bool acc) else if y = Str.ofString "whole" then some (.int c tc) else if y = Str.ofString "ahead" then some (.none) else m y)) (N : News h₀ L s.heap ((D, tupO [.int op t1, .bytes d td]) :: news₁)) (hd : dp + 30 < recursionLimit) (hu : un + 230 < cLine)
    (hJ : ∀ (m' : Str → Option Value) c' tc' t1', (c', op) = cntStep acc (c, (-1)) (op, 0, 0) → m' (Str.ofString "accurate") = some (.bool acc) → m' (Str.ofString "whole") = some (.int c' tc') → m' (Str.ofString "ahead") = some (.int op t1') → J m') :
    wpAny (model PySem.Challenge.rw_ez0016_01.prog w) (Ar dp un fr gd) (assign (forTgt (knS w 2)) (kn_E w L) (.ref D)) (fun _ s₂ => wpAny (model PySem.Challenge.rw_ez0016_01.prog w) (Ar dp un fr gd) (execs (forBody (knS w 2)) (kn_E w L)) (GPost2 h₀ L J news₁ s Q) E s₂) E s := by
  revert X; k_fill; intro X
  dsimp only [knS, knB, forTgt, forIter, forBody, bodyOf, fdOf, t872, fnS, nth, pw, PySem.Challenge.pw_ez0016_01, List.getD, List.getElem?_cons_succ, List.getElem?_cons_zero, Option.getD]
  k_steps
  all_goals (try (with_reducible rename Fr _ _ _ _ => FF))
  all_goals (try (with_reducible rename News _ _ _ _ => NN))
  all_goals
    refine GPost2.intro FF NN (fun p hp => by simp [hp]) (fun h => h) (hJ _ _ _ _ ?_ rfl rfl rfl)
    clear hJ FF NN X T
    unfold cntStep
    simp only [Bool.or_eq_true, Bool.or_eq_false_iff, beq_iff_eq, beq_eq_false_iff_ne, ne_eq] at *
    simp_all <;> omega

theorem kn_turnI {w : World} {mg mb : Str → Option Value} {dp un : Nat} {fr : Option (List Env)} {gd : Option (List Code)} {s : Shared} {E : Value → Shared → Prop}
    {h₀ : Heap} {L : Addr} {m : Str → Option Value} {news : List (Addr × Obj)} {Q : Flow → Shared → Prop} {J : (Str → Option Value) → Prop} {news₁ : List (Addr × Obj)} (acc : Bool) (c op : Int) (tc t1 td : Tok) (d : Array UInt8) (D : Addr) (l : Int) (tl : Tok)
    (X : (KH w.params).In h₀) (T : TopRead q lw mg mb h₀) (F : Fr h₀ L s.heap (fun y => if y = Str.ofString "accurate" then some (.bool acc) else if y = Str.ofString "whole" then some (.int c tc) else if y = Str.ofString "ahead" then some (.int l tl) else m y)) (N : News h₀ L s.heap ((D, tupO [.int op t1, .bytes d td]) :: news₁)) (hd : dp + 30 < recursionLimit) (hu : un + 230 < cLine)
    (hJ : ∀ (m' : Str → Option Value) c' tc' t1', (c', op) = cntStep acc (c, l) (op, 0, 0) → m' (Str.ofString "accurate") = some (.bool acc) → m' (Str.ofString "whole") = some (.int c' tc') → m' (Str.ofString "ahead") = some (.int op t1') → J m') :
    wpAny (model PySem.Challenge.rw_ez0016_01.prog w) (Ar dp un fr gd) (assign (forTgt (knS w 2)) (kn_E w L) (.ref D)) (fun _ s₂ => wpAny (model PySem.Challenge.rw_ez0016_01.prog w) (Ar dp un fr gd) (execs (forBody (knS w 2)) (kn_E w L)) (GPost2 h₀ L J news₁ s Q) E s₂) E s := by
  revert X; k_fill; intro X
  dsimp only [knS, knB, forTgt, forIter, forBody, bodyOf, fdOf, t872, fnS, nth, pw, PySem.Challenge.pw_ez0016_01, List.getD, List.getElem?_cons_succ, List.getElem?_cons_zero, Option.getD]
  k_steps
  all_goals (try (with_reducible rename Fr _ _ _ _ => FF))
  all_goals (try (with_reducible rename News _ _ _ _ => NN))
  all_goals
    refine GPost2.intro FF NN (fun p hp => by simp [hp]) (fun h => h) (hJ _ _ _ _ ?_ rfl rfl rfl)
    clear hJ FF NN X T
    unfold cntStep
    simp only [Bool.or_eq_true, Bool.or_eq_false_iff, beq_iff_eq, beq_eq_false_iff_ne, ne_eq] at *
    simp_all <;> omega

theorem kn_ret {w : World} {mg mb : Str → Option Value} {dp un : Nat} {fr : Option (List Env)} {gd : Option (List Code)} {s : Shared} {E : Value → Shared → Prop}
    {h₀ : Heap} {L : Addr} {m : Str → Option Value} {news : List (Addr × Obj)} {Q : Flow → Shared → Prop} (c : Int) (tc : Tok)
    (X : (KH w.params).In h₀) (T : TopRead q lw mg mb h₀) (F : Fr h₀ L s.heap (fun y => if y = Str.ofString "whole" then some (.int c tc) else m y)) (N : News h₀ L s.heap news) (hd : dp + 30 < recursionLimit) (hu : un + 230 < cLine)
    (hret : ∀ h' tk', Fr h₀ L h' (fun y => if y = Str.ofString "whole" then some (.int c tc) else m y) → Q (.ret (.int c tc)) { s with heap := h', toks := tk' }) :
    wpAny (model PySem.Challenge.rw_ez0016_01.prog w) (Ar dp un fr gd) (exec (knS w 3) (kn_E w L)) Q E s := by
  revert X; k_fill; intro X
  dsimp only [knS, knB, forTgt, forIter, forBody, bodyOf, fdOf, t872, fnS, nth, pw, PySem.Challenge.pw_ez0016_01, List.getD, List.getElem?_cons_succ, List.getElem?_cons_zero, Option.getD]
  k_steps
  all_goals (try (with_reducible rename Fr _ _ _ _ => FF))
  all_goals (try (with_reducible rename News _ _ _ _ => NN))
  exact hret _ _ FF
end Mine
namespace Mine
local macro_rules | `(tactic| k_room) => `(tactic| ((try simp only [depth_under_make, depth_under_kw, depth_in1, depth_deeper, depth_caller]); (try dsimp only [Ar]); omega))
local macro_rules | `(tactic| k_units) => `(tactic| ((try simp only [units_in1, units_deeper, Around.mark_units, units_caller]); (try dsimp only [Ar]); omega))
local macro_rules | `(tactic| cell_enter) => `(tactic| (refine' enterK ?k1 ?k2 ?k6 ?k7 ?k8 ?k9 ?kB ?_ ?c2 ?c3 ?c4 ?c5; (case k1 => assumption); (case k2 => exact TopRead.nolimit (by assumption)); (case k6 => k_is); (case k7 => k_is); (case k8 => k_room); (case k9 => first | exact BindsTo.of_eq rfl | exact binds_K (by assumption) rfl (by k_is) rfl rfl rfl | fail "k_enter: no rule for these arguments"); (case c5 => decide); (case kB => exact locs rfl); (case c2 => exact rfl); (case c3 => exact rfl); (case c4 => exact rfl); k_whole; intro L' h' F' N' kSz; (try dsimp only); (try k_fold)))
local macro_rules | `(tactic| walk_at "call type:bytes") => `(tactic| (k_here; (with_reducible show wpAny _ _ (call (Value.type _) [Value.bytes _ _]) _ _ _); (with_unfolding_all refine call_bytes_bytes ?_)))

def pshH (n w : Int) : List Int := if w = 0 ∧ n < 76 then [n] else if w ≤ 1 then [76, n % 256] else if w = 2 then [77, n % 256, n / 256 % 256] else [78, n % 256, n / 256 % 256, n / 256 / 256 % 256, n / 256 / 256 / 256 % 256]
def psh (ks : List Int) (w : Int) : List Int := pshH ks.length w ++ ks
theorem bInts_app (a b : Array UInt8) : KBw.bInts (a ++ b) = KBw.bInts a ++ KBw.bInts b := by simp [KBw.bInts]
theorem bInts_one (x : UInt8) : KBw.bInts #[x] = [(x.toNat : Int)] := rfl
theorem bInts_nil : KBw.bInts #[] = [] := rfl

noncomputable abbrev lpu0_E (w : World) (L : Addr) : Env := envOf (Str.ofString "_law_pushed") (fdOf (t893 w.params)).scope L 893 (.ref 892)

theorem lpu0_b {w : World} {mg mb : Str → Option Value} {dp un : Nat} {fr : Option (List Env)} {gd : Option (List Code)} {s : Shared} {E : Value → Shared → Prop}
    {h₀ : Heap} {L : Addr} {m : Str → Option Value} {news : List (Addr × Obj)} {Q : Flow → Shared → Prop} (b : Array UInt8) (ks : List Int) (hb : KBw.bInts b = ks) (tb : Tok) (hsz : ks.length ≤ 255) (tk : Tok)
    (X : (KH w.params).In h₀) (T : TopRead q lw mg mb h₀) (F : Fr h₀ L s.heap (fun y => if y = Str.ofString "octets" then some (.bytes b tb) else if y = Str.ofString "width" then some (.int 0 tk) else m y)) (N : News h₀ L s.heap news) (hd : dp + 60 < recursionLimit) (hu : un + 300 < cLine)
    (hret : ∀ r t m' h' tk', KBw.bInts r = psh ks 0 → Fr h₀ L h' m' → Q (.ret (.bytes r t)) { s with heap := h', toks := tk' }) :
    wpAny (model PySem.Challenge.rw_ez0016_01.prog w) (Ar dp un fr gd) (execs (bodyOf (fdOf (t893 w.params))) (lpu0_E w L)) Q E s := by
  revert X; k_fill; intro X
  dsimp only [bodyOf, fdOf, t893, fnS, nth, pw, PySem.Challenge.pw_ez0016_01, List.getD, List.getElem?_cons_succ, List.getElem?_cons_zero, Option.getD]
  k_steps
  all_goals (try (with_reducible rename Fr _ _ _ _ => FF))
  all_goals (try (with_reducible rename News _ _ _ _ => NN))
  all_goals first
    | (refine hret _ _ _ _ _ ?_ FF; rw [bInts_app, bInts_app, ktbIn, hb, show psh ks 0 = [76, (ks.length : Int) % 256] ++ ks from congrArg (· ++ ks) (by unfold pshH; simp; try omega)]; rfl)
    | (rename (((Int.toNat _).toUInt8.toNat : Int) = _) => hb9; refine hret _ _ _ _ _ ?_ FF; rw [bInts_app, hb, bInts_one, hb9, show psh ks 0 = [(ks.length : Int)] ++ ks from congrArg (· ++ ks) (by unfold pshH; rw [if_pos ⟨rfl, by assumption⟩])])
    | trace_state

noncomputable abbrev lpu1_E (w : World) (L : Addr) : Env := envOf (Str.ofString "_law_pushed") (fdOf (t893 w.params)).scope L 893 (.ref 892)

theorem lpu1_b {w : World} {mg mb : Str → Option Value} {dp un : Nat} {fr : Option (List Env)} {gd : Option (List Code)} {s : Shared} {E : Value → Shared → Prop}
    {h₀ : Heap} {L : Addr} {m : Str → Option Value} {news : List (Addr × Obj)} {Q : Flow → Shared → Prop} (b : Array UInt8) (ks : List Int) (hb : KBw.bInts b = ks) (tb : Tok) (hsz : ks.length ≤ 255) (tk : Tok)
    (X : (KH w.params).In h₀) (T : TopRead q lw mg mb h₀) (F : Fr h₀ L s.heap (fun y => if y = Str.ofString "octets" then some (.bytes b tb) else if y = Str.ofString "width" then some (.int 1 tk) else m y)) (N : News h₀ L s.heap news) (hd : dp + 60 < recursionLimit) (hu : un + 300 < cLine)
    (hret : ∀ r t m' h' tk', KBw.bInts r = psh ks 1 → Fr h₀ L h' m' → Q (.ret (.bytes r t)) { s with heap := h', toks := tk' }) :
    wpAny (model PySem.Challenge.rw_ez0016_01.prog w) (Ar dp un fr gd) (execs (bodyOf (fdOf (t893 w.params))) (lpu1_E w L)) Q E s := by
  revert X; k_fill; intro X
  dsimp only [bodyOf, fdOf, t893, fnS, nth, pw, PySem.Challenge.pw_ez0016_01, List.getD, List.getElem?_cons_succ, List.getElem?_cons_zero, Option.getD]
  k_steps
  all_goals (try (with_reducible rename Fr _ _ _ _ => FF))
  all_goals (try (with_reducible rename News _ _ _ _ => NN))
  all_goals first
    | (refine hret _ _ _ _ _ ?_ FF; rw [bInts_app, bInts_app, ktbIn, hb, show psh ks 1 = [76, (ks.length : Int) % 256] ++ ks from congrArg (· ++ ks) (by unfold pshH; simp; try omega)]; rfl)
    | (rename (((Int.toNat _).toUInt8.toNat : Int) = _) => hb9; refine hret _ _ _ _ _ ?_ FF; rw [bInts_app, hb, bInts_one, hb9, show psh ks 1 = [(ks.length : Int)] ++ ks from congrArg (· ++ ks) (by unfold pshH; rw [if_pos ⟨rfl, by assumption⟩])])
    | trace_state

noncomputable abbrev lpu2_E (w : World) (L : Addr) : Env := envOf (Str.ofString "_law_pushed") (fdOf (t893 w.params)).scope L 893 (.ref 892)

theorem lpu2_b {w : World} {mg mb : Str → Option Value} {dp un : Nat} {fr : Option (List Env)} {gd : Option (List Code)} {s : Shared} {E : Value → Shared → Prop}
    {h₀ : Heap} {L : Addr} {m : Str → Option Value} {news : List (Addr × Obj)} {Q : Flow → Shared → Prop} (b : Array UInt8) (ks : List Int) (hb : KBw.bInts b = ks) (tb : Tok) (hsz : ks.length ≤ 255) (tk : Tok)
    (X : (KH w.params).In h₀) (T : TopRead q lw mg mb h₀) (F : Fr h₀ L s.heap (fun y => if y = Str.ofString "octets" then some (.bytes b tb) else if y = Str.ofString "width" then some (.int 2 tk) else m y)) (N : News h₀ L s.heap news) (hd : dp + 60 < recursionLimit) (hu : un + 300 < cLine)
    (hret : ∀ r t m' h' tk', KBw.bInts r = psh ks 2 → Fr h₀ L h' m' → Q (.ret (.bytes r t)) { s with heap := h', toks := tk' }) :
    wpAny (model PySem.Challenge.rw_ez0016_01.prog w) (Ar dp un fr gd) (execs (bodyOf (fdOf (t893 w.params))) (lpu2_E w L)) Q E s := by
  revert X; k_fill; intro X
  dsimp only [bodyOf, fdOf, t893, fnS, nth, pw, PySem.Challenge.pw_ez0016_01, List.getD, List.getElem?_cons_succ, List.getElem?_cons_zero, Option.getD]
  k_steps
  all_goals (try (with_reducible rename Fr _ _ _ _ => FF))
  all_goals (try (with_reducible rename News _ _ _ _ => NN))
  all_goals first
    | (refine hret _ _ _ _ _ ?_ FF; rw [bInts_app, bInts_app, ktbIn, hb, show psh ks 2 = [77, (ks.length : Int) % 256, (ks.length : Int) / 256 % 256] ++ ks from congrArg (· ++ ks) (by unfold pshH; simp; try omega)]; rfl)
    | (rename (((Int.toNat _).toUInt8.toNat : Int) = _) => hb9; refine hret _ _ _ _ _ ?_ FF; rw [bInts_app, hb, bInts_one, hb9, show psh ks 2 = [(ks.length : Int)] ++ ks from congrArg (· ++ ks) (by unfold pshH; rw [if_pos ⟨rfl, by assumption⟩])])
    | trace_state

noncomputable abbrev lpu3_E (w : World) (L : Addr) : Env := envOf (Str.ofString "_law_pushed") (fdOf (t893 w.params)).scope L 893 (.ref 892)

theorem lpu3_b {w : World} {mg mb : Str → Option Value} {dp un : Nat} {fr : Option (List Env)} {gd : Option (List Code)} {s : Shared} {E : Value → Shared → Prop}
    {h₀ : Heap} {L : Addr} {m : Str → Option Value} {news : List (Addr × Obj)} {Q : Flow → Shared → Prop} (b : Array UInt8) (ks : List Int) (hb : KBw.bInts b = ks) (tb : Tok) (hsz : ks.length ≤ 255) (tk : Tok)
    (X : (KH w.params).In h₀) (T : TopRead q lw mg mb h₀) (F : Fr h₀ L s.heap (fun y => if y = Str.ofString "octets" then some (.bytes b tb) else if y = Str.ofString "width" then some (.int 3 tk) else m y)) (N : News h₀ L s.heap news) (hd : dp + 60 < recursionLimit) (hu : un + 300 < cLine)
    (hret : ∀ r t m' h' tk', KBw.bInts r = psh ks 3 → Fr h₀ L h' m' → Q (.ret (.bytes r t)) { s with heap := h', toks := tk' }) :
    wpAny (model PySem.Challenge.rw_ez0016_01.prog w) (Ar dp un fr gd) (execs (bodyOf (fdOf (t893 w.params))) (lpu3_E w L)) Q E s := by
  revert X; k_fill; intro X
  dsimp only [bodyOf, fdOf, t893, fnS, nth, pw, PySem.Challenge.pw_ez0016_01, List.getD, List.getElem?_cons_succ, List.getElem?_cons_zero, Option.getD]
  k_steps
  all_goals (try (with_reducible rename Fr _ _ _ _ => FF))
  all_goals (try (with_reducible rename News _ _ _ _ => NN))
  all_goals first
    | (refine hret _ _ _ _ _ ?_ FF; rw [bInts_app, bInts_app, ktbIn, hb, show psh ks 3 = [78, (ks.length : Int) % 256, (ks.length : Int) / 256 % 256, (ks.length : Int) / 256 / 256 % 256, (ks.length : Int) / 256 / 256 / 256 % 256] ++ ks from congrArg (· ++ ks) (by unfold pshH; simp; try omega)]; rfl)
    | (rename (((Int.toNat _).toUInt8.toNat : Int) = _) => hb9; refine hret _ _ _ _ _ ?_ FF; rw [bInts_app, hb, bInts_one, hb9, show psh ks 3 = [(ks.length : Int)] ++ ks from congrArg (· ++ ks) (by unfold pshH; rw [if_pos ⟨rfl, by assumption⟩])])
    | trace_state

theorem lpu0_c {w : World} {mg mb : Str → Option Value} {dp un : Nat} {fr : Option (List Env)} {gd : Option (List Code)} {s : Shared} {args : Args} {R : Result → Shared → Prop} (b : Array UInt8) (ks : List Int) (hb : KBw.bInts b = ks) (tb : Tok) (hsz : ks.length ≤ 255) (tk : Tok)
    (hbd : BindsTo s (fdOf (t893 w.params)) args [(Str.ofString "octets", .bytes b tb), (Str.ofString "width", .int 0 tk)])
    (X : (KH w.params).In s.heap) (T : TopRead q lw mg mb s.heap) (hd : dp + 70 < recursionLimit) (hu : un + 320 < cLine)
    (hret : ∀ r t h' tk', KBw.bInts r = psh ks 0 → Ext s.heap h' → R (.ok (.ret (.bytes r t))) { s with heap := h', toks := tk' }) :
    codeAny (model RP w) (Ar dp un fr gd) (.call (.ref 893) args) R s := by
  refine enterK (K := KH w.params) (f := 893) X T.nolimit (by rfl) (by rfl) (by show dp < recursionLimit; omega) hbd (fun x hx => ?_) (fun L' h₁ F N hL => ?_) (by rfl) (by rfl) (by rfl) ?_
  · simp only [List.mem_cons, List.not_mem_nil, or_false] at hx
    rcases hx with rfl | rfl <;> rfl
  · refine lpu0_b (dp := dp + 1) (un := un + 3) (fr := fr.map (lpu0_E w L' :: ·)) (gd := gd) (h₀ := s.heap) (L := L') (m := fun _ => none) (news := []) b ks hb tb hsz tk X T (fr_ext F fun y => ?_) N (by omega) (by omega) (fun r t m' h' tk' e F' => hret r t h' tk' e F'.keep)
    show List.lookup y [(Str.ofString "width", (.int 0 tk : Value)), (Str.ofString "octets", (.bytes b tb : Value))] = _
    by_cases hoctets : y = Str.ofString "octets"
    · subst hoctets; rfl
    by_cases hwidth : y = Str.ofString "width"
    · subst hwidth; rfl
    have eoctets : (y == Str.ofString "octets") = false := by simp [hoctets]
    have ewidth : (y == Str.ofString "width") = false := by simp [hwidth]
    rw [List.lookup_cons, List.lookup_cons, ewidth, eoctets, if_neg hoctets, if_neg hwidth]; rfl
  · intro x hx
    revert x
    dsimp only [bodyOf, fdOf, t893, fnS, nth, pw, PySem.Challenge.pw_ez0016_01, List.getD, List.getElem?_cons_succ, List.getElem?_cons_zero, Option.getD]
    decide

theorem lpu1_c {w : World} {mg mb : Str → Option Value} {dp un : Nat} {fr : Option (List Env)} {gd : Option (List Code)} {s : Shared} {args : Args} {R : Result → Shared → Prop} (b : Array UInt8) (ks : List Int) (hb : KBw.bInts b = ks) (tb : Tok) (hsz : ks.length ≤ 255) (tk : Tok)
    (hbd : BindsTo s (fdOf (t893 w.params)) args [(Str.ofString "octets", .bytes b tb), (Str.ofString "width", .int 1 tk)])
    (X : (KH w.params).In s.heap) (T : TopRead q lw mg mb s.heap) (hd : dp + 70 < recursionLimit) (hu : un + 320 < cLine)
    (hret : ∀ r t h' tk', KBw.bInts r = psh ks 1 → Ext s.heap h' → R (.ok (.ret (.bytes r t))) { s with heap := h', toks := tk' }) :
    codeAny (model RP w) (Ar dp un fr gd) (.call (.ref 893) args) R s := by
  refine enterK (K := KH w.params) (f := 893) X T.nolimit (by rfl) (by rfl) (by show dp < recursionLimit; omega) hbd (fun x hx => ?_) (fun L' h₁ F N hL => ?_) (by rfl) (by rfl) (by rfl) ?_
  · simp only [List.mem_cons, List.not_mem_nil, or_false] at hx
    rcases hx with rfl | rfl <;> rfl
  · refine lpu1_b (dp := dp + 1) (un := un + 3) (fr := fr.map (lpu1_E w L' :: ·)) (gd := gd) (h₀ := s.heap) (L := L') (m := fun _ => none) (news := []) b ks hb tb hsz tk X T (fr_ext F fun y => ?_) N (by omega) (by omega) (fun r t m' h' tk' e F' => hret r t h' tk' e F'.keep)
    show List.lookup y [(Str.ofString "width", (.int 1 tk : Value)), (Str.ofString "octets", (.bytes b tb : Value))] = _
    by_cases hoctets : y = Str.ofString "octets"
    · subst hoctets; rfl
    by_cases hwidth : y = Str.ofString "width"
    · subst hwidth; rfl
    have eoctets : (y == Str.ofString "octets") = false := by simp [hoctets]
    have ewidth : (y == Str.ofString "width") = false := by simp [hwidth]
    rw [List.lookup_cons, List.lookup_cons, ewidth, eoctets, if_neg hoctets, if_neg hwidth]; rfl
  · intro x hx
    revert x
    dsimp only [bodyOf, fdOf, t893, fnS, nth, pw, PySem.Challenge.pw_ez0016_01, List.getD, List.getElem?_cons_succ, List.getElem?_cons_zero, Option.getD]
    decide

theorem lpu2_c {w : World} {mg mb : Str → Option Value} {dp un : Nat} {fr : Option (List Env)} {gd : Option (List Code)} {s : Shared} {args : Args} {R : Result → Shared → Prop} (b : Array UInt8) (ks : List Int) (hb : KBw.bInts b = ks) (tb : Tok) (hsz : ks.length ≤ 255) (tk : Tok)
    (hbd : BindsTo s (fdOf (t893 w.params)) args [(Str.ofString "octets", .bytes b tb), (Str.ofString "width", .int 2 tk)])
    (X : (KH w.params).In s.heap) (T : TopRead q lw mg mb s.heap) (hd : dp + 70 < recursionLimit) (hu : un + 320 < cLine)
    (hret : ∀ r t h' tk', KBw.bInts r = psh ks 2 → Ext s.heap h' → R (.ok (.ret (.bytes r t))) { s with heap := h', toks := tk' }) :
    codeAny (model RP w) (Ar dp un fr gd) (.call (.ref 893) args) R s := by
  refine enterK (K := KH w.params) (f := 893) X T.nolimit (by rfl) (by rfl) (by show dp < recursionLimit; omega) hbd (fun x hx => ?_) (fun L' h₁ F N hL => ?_) (by rfl) (by rfl) (by rfl) ?_
  · simp only [List.mem_cons, List.not_mem_nil, or_false] at hx
    rcases hx with rfl | rfl <;> rfl
  · refine lpu2_b (dp := dp + 1) (un := un + 3) (fr := fr.map (lpu2_E w L' :: ·)) (gd := gd) (h₀ := s.heap) (L := L') (m := fun _ => none) (news := []) b ks hb tb hsz tk X T (fr_ext F fun y => ?_) N (by omega) (by omega) (fun r t m' h' tk' e F' => hret r t h' tk' e F'.keep)
    show List.lookup y [(Str.ofString "width", (.int 2 tk : Value)), (Str.ofString "octets", (.bytes b tb : Value))] = _
    by_cases hoctets : y = Str.ofString "octets"
    · subst hoctets; rfl
    by_cases hwidth : y = Str.ofString "width"
    · subst hwidth; rfl
    have eoctets : (y == Str.ofString "octets") = false := by simp [hoctets]
    have ewidth : (y == Str.ofString "width") = false := by simp [hwidth]
    rw [List.lookup_cons, List.lookup_cons, ewidth, eoctets, if_neg hoctets, if_neg hwidth]; rfl
  · intro x hx
    revert x
    dsimp only [bodyOf, fdOf, t893, fnS, nth, pw, PySem.Challenge.pw_ez0016_01, List.getD, List.getElem?_cons_succ, List.getElem?_cons_zero, Option.getD]
    decide

theorem lpu3_c {w : World} {mg mb : Str → Option Value} {dp un : Nat} {fr : Option (List Env)} {gd : Option (List Code)} {s : Shared} {args : Args} {R : Result → Shared → Prop} (b : Array UInt8) (ks : List Int) (hb : KBw.bInts b = ks) (tb : Tok) (hsz : ks.length ≤ 255) (tk : Tok)
    (hbd : BindsTo s (fdOf (t893 w.params)) args [(Str.ofString "octets", .bytes b tb), (Str.ofString "width", .int 3 tk)])
    (X : (KH w.params).In s.heap) (T : TopRead q lw mg mb s.heap) (hd : dp + 70 < recursionLimit) (hu : un + 320 < cLine)
    (hret : ∀ r t h' tk', KBw.bInts r = psh ks 3 → Ext s.heap h' → R (.ok (.ret (.bytes r t))) { s with heap := h', toks := tk' }) :
    codeAny (model RP w) (Ar dp un fr gd) (.call (.ref 893) args) R s := by
  refine enterK (K := KH w.params) (f := 893) X T.nolimit (by rfl) (by rfl) (by show dp < recursionLimit; omega) hbd (fun x hx => ?_) (fun L' h₁ F N hL => ?_) (by rfl) (by rfl) (by rfl) ?_
  · simp only [List.mem_cons, List.not_mem_nil, or_false] at hx
    rcases hx with rfl | rfl <;> rfl
  · refine lpu3_b (dp := dp + 1) (un := un + 3) (fr := fr.map (lpu3_E w L' :: ·)) (gd := gd) (h₀ := s.heap) (L := L') (m := fun _ => none) (news := []) b ks hb tb hsz tk X T (fr_ext F fun y => ?_) N (by omega) (by omega) (fun r t m' h' tk' e F' => hret r t h' tk' e F'.keep)
    show List.lookup y [(Str.ofString "width", (.int 3 tk : Value)), (Str.ofString "octets", (.bytes b tb : Value))] = _
    by_cases hoctets : y = Str.ofString "octets"
    · subst hoctets; rfl
    by_cases hwidth : y = Str.ofString "width"
    · subst hwidth; rfl
    have eoctets : (y == Str.ofString "octets") = false := by simp [hoctets]
    have ewidth : (y == Str.ofString "width") = false := by simp [hwidth]
    rw [List.lookup_cons, List.lookup_cons, ewidth, eoctets, if_neg hoctets, if_neg hwidth]; rfl
  · intro x hx
    revert x
    dsimp only [bodyOf, fdOf, t893, fnS, nth, pw, PySem.Challenge.pw_ez0016_01, List.getD, List.getElem?_cons_succ, List.getElem?_cons_zero, Option.getD]
    decide

theorem pu_p {w : World} {mg mb : Str → Option Value} {dp un : Nat} {fr : Option (List Env)} {gd : Option (List Code)} {s : Shared} {Q E : Value → Shared → Prop} (b : Array UInt8) (ks : List Int) (hb : KBw.bInts b = ks) (tb : Tok) (hsz : ks.length ≤ 255) (wd : Int) (tk : Tok) (h0 : 0 ≤ wd) (h3 : wd ≤ 3)
    (X : (KH w.params).In s.heap) (T : TopRead q lw mg mb s.heap) (hd : dp + 70 < recursionLimit) (hu : un + 320 < cLine)
    (hret : ∀ r t h' tk', KBw.bInts r = psh ks wd → Ext s.heap h' → Q (.bytes r t) { s with heap := h', toks := tk' }) :
    wpAny (model RP w) (Ar dp un fr gd) (call (.ref 893) [.bytes b tb, .int wd tk]) Q E s := by
  have : wd = 0 ∨ wd = 1 ∨ wd = 2 ∨ wd = 3 := by omega
  rcases this with rfl | rfl | rfl | rfl
  · exact wpAny_call (lpu0_c b ks hb tb hsz tk (BindsTo.of_eq rfl) X T hd hu hret)
  · exact wpAny_call (lpu1_c b ks hb tb hsz tk (BindsTo.of_eq rfl) X T hd hu hret)
  · exact wpAny_call (lpu2_c b ks hb tb hsz tk (BindsTo.of_eq rfl) X T hd hu hret)
  · exact wpAny_call (lpu3_c b ks hb tb hsz tk (BindsTo.of_eq rfl) X T hd hu hret)
def PushOk (r : List Int) : Prop := ∃ p wd, p.length ≤ 4 ∧ 0 ≤ wd ∧ wd ≤ 3 ∧ (∀ x ∈ p, 0 ≤ x ∧ x < 256) ∧ r = psh p wd
def StepOk (r : List Int) : Prop := 1 ≤ r.length ∧ r.length ≤ 9 ∧ r.headD 0 ≠ 20 ∧ (r.headD 0 = 169 → r.length = 1)
theorem PushOk.step {r : List Int} (h : PushOk r) : StepOk r := by
  obtain ⟨p, wd, hp, h0, h3, _, rfl⟩ := h
  unfold psh pshH
  have : wd = 0 ∨ wd = 1 ∨ wd = 2 ∨ wd = 3 := by omega
  rcases this with rfl | rfl | rfl | rfl
  · rw [if_pos ⟨rfl, by omega⟩]
    refine ⟨by simp, by simp; omega, by simp; omega, by simp; omega⟩
  all_goals
    simp only [reduceIte, show ¬((1 : Int) = 0) by decide, show ¬((2 : Int) = 0) by decide, show ¬((3 : Int) = 0) by decide, show ¬((2 : Int) ≤ 1) by decide, show ¬((3 : Int) ≤ 1) by decide, show ¬((3 : Int) = 2) by decide, show (1 : Int) ≤ 1 by decide, false_and, if_false, if_true]
    refine ⟨by simp, by simp; omega, by simp, by simp⟩
end Mine
namespace Mine
local macro_rules | `(tactic| k_room) => `(tactic| ((try simp only [depth_under_make, depth_under_kw, depth_in1, depth_deeper, depth_caller]); (try dsimp only [Ar]); omega))
local macro_rules | `(tactic| k_units) => `(tactic| ((try simp only [units_in1, units_deeper, Around.mark_units, units_caller]); (try dsimp only [Ar]); omega))
local macro_rules | `(tactic| cell_enter) => `(tactic| (refine' enterK ?k1 ?k2 ?k6 ?k7 ?k8 ?k9 ?kB ?_ ?c2 ?c3 ?c4 ?c5; (case k1 => assumption); (case k2 => exact TopRead.nolimit (by assumption)); (case k6 => k_is); (case k7 => k_is); (case k8 => k_room); (case k9 => first | exact BindsTo.of_eq rfl | exact binds_K (by assumption) rfl (by k_is) rfl rfl rfl | fail "k_enter: no rule for these arguments"); (case c5 => decide); (case kB => exact locs rfl); (case c2 => exact rfl); (case c3 => exact rfl); (case c4 => exact rfl); k_whole; intro L' h' F' N' kSz; (try dsimp only); (try k_fold)))
local macro_rules | `(tactic| walk_at "call type:bytes") => `(tactic| (k_here; (with_reducible show wpAny _ _ (call (Value.type _) [Value.bytes _ _]) _ _ _); (with_unfolding_all refine call_bytes_bytes ?_)))

noncomputable abbrev pB (w : World) : List Stmt := bodyOf (fdOf (t898 w.params))
noncomputable abbrev pS (w : World) (i : Nat) : Stmt := (pB w).getD i (.Pass ⟨0, 0, 0, 0⟩)
noncomputable abbrev p_E (w : World) (L : Addr) : Env := envOfC (Str.ofString "_law_step") (fdOf (t898 w.params)).scope L 898 (.ref 897)
theorem push_ok {p r : List Int} {wd : Int} (h1 : p.length ≤ 4) (h2 : 0 ≤ wd) (h3 : wd ≤ 3) (h4 : KBa.In p) (h5 : r = psh p wd) : PushOk r := ⟨p, wd, h1, h2, h3, h4, h5⟩
theorem mod_len (f : Int → Int) (m : Int) (h : m < 5) : (List.map f (rangeKs 0 (m - 0).toNat)).length ≤ 4 := by rw [List.length_map, rangeKs_length]; omega
local macro_rules | `(tactic| walk_at "call ref") => `(tactic| (k_here; (with_reducible show wpAny _ _ (call (Value.ref 893) [Value.bytes _ _, Value.int _ _]) _ _ _); k_dflt ((with_reducible rename Fr _ _ _ _ => FF); (with_reducible rename News _ _ _ _ => NN); (with_reducible rename Frag.In _ _ => XX); (with_reducible rename TopRead _ _ _ _ _ => TT); (with_reducible rename KBa.In _ => II); refine' pu_p _ _ (KBa.ints_make II) _ ?ksz _ _ ?k0 ?k3 ?kX ?kT ?kd ?ku ?_; (case ksz => exact Nat.le_trans (mod_len _ _ (by assumption)) (by decide)); (case k0 => omega); (case k3 => omega); (case kX => exact Frag.In.keeps XX FF.keep); (case kT => exact TopRead.keeps TT FF.keep); (case kd => k_room); (case ku => k_units); (intro r' t' h' tk' hr' hk'; (have F' := Fr.keeps FF hk'); (have N' := News.keeps NN hk'); clear FF NN hk'; (try dsimp only at F' N' ⊢)))))

theorem p_0 {w : World} {mg mb : Str → Option Value} {dp un : Nat} {fr : Option (List Env)} {gd : Option (List Code)} {s : Shared} {E : Value → Shared → Prop}
    {h₀ : Heap} {L : Addr} {m : Str → Option Value} {news : List (Addr × Obj)} {Q : Flow → Shared → Prop} (n : Int) (tn : Tok) (h0 : 0 ≤ n) (o1 : Obj) (ov : Option Value) (d1 : o1.data = .cell ov)
    (X : (KH w.params).In h₀) (T : TopRead q lw mg mb h₀) (F : Fr h₀ L s.heap (fun y => if y = Str.ofString "number" then some (.int n tn) else m y)) (N : News h₀ L s.heap ((L + 1, o1) :: [])) (hd : dp + 100 < recursionLimit) (hu : un + 400 < cLine)
    (hret : ∀ o1' tk tm h' tk' (m' : Str → Option Value), o1'.data = .cell (some (.int (n.fdiv 8) tm)) → m' (Str.ofString "kind") = some (.int (n.fmod 8) tk) → Fr h₀ L h' m' → News h₀ L h' [(L + 1, o1')] → Q .next { s with heap := h', toks := tk' }) :
    wpAny (model PySem.Challenge.rw_ez0016_01.prog w) (Ar dp un fr gd) (execs [pS w 0] (p_E w L)) Q E s := by
  revert X; k_fill; intro X
  dsimp only [pS, pB, bodyOf, fdOf, t898, fnS, nth, pw, PySem.Challenge.pw_ez0016_01, List.getD, List.getElem?_cons_succ, List.getElem?_cons_zero, Option.getD]
  k_steps
  all_goals (try (with_reducible rename Fr _ _ _ _ => FF))
  all_goals (try (with_reducible rename News _ _ _ _ => NN))
  all_goals exact hret _ _ _ _ _ _ (by with_reducible assumption) rfl FF (fun p hp => NN p (.tail _ hp))

theorem p_1 {w : World} {mg mb : Str → Option Value} {dp un : Nat} {fr : Option (List Env)} {gd : Option (List Code)} {s : Shared} {E : Value → Shared → Prop}
    {h₀ : Heap} {L : Addr} {m : Str → Option Value} {news : List (Addr × Obj)} {Q : Flow → Shared → Prop} (k mo : Int) (tk tm : Tok) (h0 : 0 ≤ mo) (q0 : 0 ≤ mo.fmod 16) (q1 : mo.fmod 16 < 16) (q2 : 0 ≤ mo.fmod 80) (q3 : mo.fmod 80 < 80) (q4 : 0 ≤ (mo.fdiv 5).fmod 4) (q5 : (mo.fdiv 5).fmod 4 < 4) (o1 : Obj) (d1 : o1.data = .cell (some (.int mo tm))) (hk : k < 3)
    (X : (KH w.params).In h₀) (T : TopRead q lw mg mb h₀) (F : Fr h₀ L s.heap (fun y => if y = Str.ofString "kind" then some (.int k tk) else m y)) (N : News h₀ L s.heap ((L + 1, o1) :: [])) (hd : dp + 100 < recursionLimit) (hu : un + 400 < cLine)
    (hret : ∀ d t h' tk' m', PushOk (KBw.bInts d) → Fr h₀ L h' m' → Q (.ret (.bytes d t)) { s with heap := h', toks := tk' }) :
    wpAny (model PySem.Challenge.rw_ez0016_01.prog w) (Ar dp un fr gd) (exec (pS w 1) (p_E w L)) Q E s := by
  revert X; k_fill; intro X
  dsimp only [pS, pB, bodyOf, fdOf, t898, fnS, nth, pw, PySem.Challenge.pw_ez0016_01, List.getD, List.getElem?_cons_succ, List.getElem?_cons_zero, Option.getD]
  k_steps
  all_goals (try (with_reducible rename Fr _ _ _ _ => FF))
  all_goals (try (with_reducible rename News _ _ _ _ => NN))
  all_goals first
    | (with_reducible rename KBa.In _ => II; (with_reducible rename (KBw.bInts _ = psh _ _) => HR); exact hret _ _ _ _ _ (push_ok (mod_len _ _ (by with_reducible assumption)) (by assumption) (by omega) II HR) FF)
    | (exfalso; omega)
    | trace_state

theorem p_1n {w : World} {mg mb : Str → Option Value} {dp un : Nat} {fr : Option (List Env)} {gd : Option (List Code)} {s : Shared} {E : Value → Shared → Prop}
    {h₀ : Heap} {L : Addr} {m : Str → Option Value} {news : List (Addr × Obj)} {Q : Flow → Shared → Prop} (k mo : Int) (tk tm : Tok) (h0 : 0 ≤ mo) (q0 : 0 ≤ mo.fmod 16) (q1 : mo.fmod 16 < 16) (q2 : 0 ≤ mo.fmod 80) (q3 : mo.fmod 80 < 80) (q4 : 0 ≤ (mo.fdiv 5).fmod 4) (q5 : (mo.fdiv 5).fmod 4 < 4) (o1 : Obj) (d1 : o1.data = .cell (some (.int mo tm))) (hk : 3 ≤ k)
    (X : (KH w.params).In h₀) (T : TopRead q lw mg mb h₀) (F : Fr h₀ L s.heap (fun y => if y = Str.ofString "kind" then some (.int k tk) else m y)) (N : News h₀ L s.heap ((L + 1, o1) :: [])) (hd : dp + 100 < recursionLimit) (hu : un + 400 < cLine)
    (hret : ∀ tk', Q .next { s with toks := tk' }) :
    wpAny (model PySem.Challenge.rw_ez0016_01.prog w) (Ar dp un fr gd) (exec (pS w 1) (p_E w L)) Q E s := by
  revert X; k_fill; intro X
  dsimp only [pS, pB, bodyOf, fdOf, t898, fnS, nth, pw, PySem.Challenge.pw_ez0016_01, List.getD, List.getElem?_cons_succ, List.getElem?_cons_zero, Option.getD]
  k_steps
  all_goals (try (with_reducible rename Fr _ _ _ _ => FF))
  all_goals (try (with_reducible rename News _ _ _ _ => NN))
  all_goals first | exact hret _ | (exfalso; omega)

theorem p_2n {w : World} {mg mb : Str → Option Value} {dp un : Nat} {fr : Option (List Env)} {gd : Option (List Code)} {s : Shared} {E : Value → Shared → Prop}
    {h₀ : Heap} {L : Addr} {m : Str → Option Value} {news : List (Addr × Obj)} {Q : Flow → Shared → Prop} (k mo : Int) (tk tm : Tok) (h0 : 0 ≤ mo) (q0 : 0 ≤ mo.fmod 16) (q1 : mo.fmod 16 < 16) (q2 : 0 ≤ mo.fmod 80) (q3 : mo.fmod 80 < 80) (q4 : 0 ≤ (mo.fdiv 5).fmod 4) (q5 : (mo.fdiv 5).fmod 4 < 4) (o1 : Obj) (d1 : o1.data = .cell (some (.int mo tm))) (hk : 3 < k)
    (X : (KH w.params).In h₀) (T : TopRead q lw mg mb h₀) (F : Fr h₀ L s.heap (fun y => if y = Str.ofString "kind" then some (.int k tk) else m y)) (N : News h₀ L s.heap ((L + 1, o1) :: [])) (hd : dp + 100 < recursionLimit) (hu : un + 400 < cLine)
    (hret : ∀ tk', Q .next { s with toks := tk' }) :
    wpAny (model PySem.Challenge.rw_ez0016_01.prog w) (Ar dp un fr gd) (exec (pS w 2) (p_E w L)) Q E s := by
  revert X; k_fill; intro X
  dsimp only [pS, pB, bodyOf, fdOf, t898, fnS, nth, pw, PySem.Challenge.pw_ez0016_01, List.getD, List.getElem?_cons_succ, List.getElem?_cons_zero, Option.getD]
  k_steps
  all_goals (try (with_reducible rename Fr _ _ _ _ => FF))
  all_goals (try (with_reducible rename News _ _ _ _ => NN))
  all_goals first | exact hret _ | (exfalso; omega)

theorem p_2 {w : World} {mg mb : Str → Option Value} {dp un : Nat} {fr : Option (List Env)} {gd : Option (List Code)} {s : Shared} {E : Value → Shared → Prop}
    {h₀ : Heap} {L : Addr} {m : Str → Option Value} {news : List (Addr × Obj)} {Q : Flow → Shared → Prop} (k mo : Int) (tk tm : Tok) (h0 : 0 ≤ mo) (q0 : 0 ≤ mo.fmod 16) (q1 : mo.fmod 16 < 16) (q2 : 0 ≤ mo.fmod 80) (q3 : mo.fmod 80 < 80) (q4 : 0 ≤ (mo.fdiv 5).fmod 4) (q5 : (mo.fdiv 5).fmod 4 < 4) (o1 : Obj) (d1 : o1.data = .cell (some (.int mo tm))) (hk : k = 3)
    (X : (KH w.params).In h₀) (T : TopRead q lw mg mb h₀) (F : Fr h₀ L s.heap (fun y => if y = Str.ofString "kind" then some (.int k tk) else m y)) (N : News h₀ L s.heap ((L + 1, o1) :: [])) (hd : dp + 100 < recursionLimit) (hu : un + 400 < cLine)
    (hret : ∀ d t h' tk' m', StepOk (KBw.bInts d) → Fr h₀ L h' m' → Q (.ret (.bytes d t)) { s with heap := h', toks := tk' }) :
    wpAny (model PySem.Challenge.rw_ez0016_01.prog w) (Ar dp un fr gd) (exec (pS w 2) (p_E w L)) Q E s := by
  revert X; k_fill; intro X
  dsimp only [pS, pB, bodyOf, fdOf, t898, fnS, nth, pw, PySem.Challenge.pw_ez0016_01, List.getD, List.getElem?_cons_succ, List.getElem?_cons_zero, Option.getD]
  k_steps
  all_goals (try (with_reducible rename Fr _ _ _ _ => FF))
  all_goals (try (with_reducible rename News _ _ _ _ => NN))
  all_goals first
    | (refine hret _ _ _ _ _ ?_ FF; exact ⟨by decide, by decide, by decide, by decide⟩)
    | (refine hret _ _ _ _ _ ?_ FF; (with_reducible rename (((Int.toNat _).toUInt8.toNat : Int) = _) => hb9); refine ⟨by simp [KBw.bInts], by simp [KBw.bInts], ?_, ?_⟩ <;> (simp only [KBw.bInts, List.map_cons, List.headD_cons]; first | (rw [hb9]; omega) | simp))
    | (exfalso; omega)
    | trace_state

theorem p_3 {w : World} {mg mb : Str → Option Value} {dp un : Nat} {fr : Option (List Env)} {gd : Option (List Code)} {s : Shared} {E : Value → Shared → Prop}
    {h₀ : Heap} {L : Addr} {m : Str → Option Value} {news : List (Addr × Obj)} {Q : Flow → Shared → Prop} (k mo : Int) (tk tm : Tok) (h0 : 0 ≤ mo) (q0 : 0 ≤ mo.fmod 16) (q1 : mo.fmod 16 < 16) (q2 : 0 ≤ mo.fmod 80) (q3 : mo.fmod 80 < 80) (q4 : 0 ≤ (mo.fdiv 5).fmod 4) (q5 : (mo.fdiv 5).fmod 4 < 4) (o1 : Obj) (d1 : o1.data = .cell (some (.int mo tm))) (hk : 3 < k)
    (X : (KH w.params).In h₀) (T : TopRead q lw mg mb h₀) (F : Fr h₀ L s.heap (fun y => if y = Str.ofString "kind" then some (.int k tk) else m y)) (N : News h₀ L s.heap ((L + 1, o1) :: [])) (hd : dp + 100 < recursionLimit) (hu : un + 400 < cLine)
    (hret : ∀ d t h' tk' m', StepOk (KBw.bInts d) → Fr h₀ L h' m' → Q (.ret (.bytes d t)) { s with heap := h', toks := tk' }) :
    wpAny (model PySem.Challenge.rw_ez0016_01.prog w) (Ar dp un fr gd) (exec (pS w 3) (p_E w L)) Q E s := by
  revert X; k_fill; intro X
  dsimp only [pS, pB, bodyOf, fdOf, t898, fnS, nth, pw, PySem.Challenge.pw_ez0016_01, List.getD, List.getElem?_cons_succ, List.getElem?_cons_zero, Option.getD]
  k_steps
  all_goals (try (with_reducible rename Fr _ _ _ _ => FF))
  all_goals (try (with_reducible rename News _ _ _ _ => NN))
  all_goals first
    | (refine hret _ _ _ _ _ ?_ FF; exact ⟨by decide, by decide, by decide, by decide⟩)
    | (refine hret _ _ _ _ _ ?_ FF; (with_reducible rename (((Int.toNat _).toUInt8.toNat : Int) = _) => hb9); refine ⟨by simp [KBw.bInts], by simp [KBw.bInts], ?_, ?_⟩ <;> (simp only [KBw.bInts, List.map_cons, List.headD_cons]; first | (rw [hb9]; omega) | simp))
    | (exfalso; omega)
    | trace_state
end Mine
namespace Mine
open Builtin
theorem slot_bytes_join : Slot "bytes" "join" "bytes.join" :=
  .of (owner := "bytes") (n := "join") (by rw [typeLookup_type, builtinLookup_eq_fast]; kernel_rfl) (by decide +kernel) (by decide +kernel) (by decide +kernel)
    (by first | exact .inl (by decide +kernel) | exact .inr (by decide +kernel)) (by rw [isSubtype_type]; kernel_rfl)
theorem type_bytes_join : typeOf (.builtin "bytes.join") = pure (.type "method_descriptor") := by show builtinType _ = _; rw [builtinType_eq_fast]; kernel_rfl
theorem entry_bytes_join : entryFor table "bytes.join" = some Builtin.«bytes.join» := entryFor_of_tree (by kernel_rfl)
theorem args_bytes_join (a b : Value) : argsOk "bytes.join" ⟨[a, b], []⟩ := by
  unfold argsOk; kernel_rfl
theorem take_eq {id : String} {b : Array UInt8} {t : Tok} : Bytes.takeBufferQuiet? id (.bytes b t) 0 = pure (some (b, none)) := by
  unfold Bytes.takeBufferQuiet? Bytes.takeBuffer?
  rw [KBy.special_eq KBy.look_buffer, KBy.own_buffer]
  have : Bytes.buffer? id (.bytes b t) (full := (0 : Int) == Bytes.fullReadOnly) = pure (some b) := by
    unfold Bytes.buffer?
    rw [KBy.special_eq KBy.look_buffer, KBy.own_buffer, KBy.own_release]
    kernel_rfl
  simp only [pure_bind]
  rw [this]
  rfl
section
variable {prog : Program} {w : World} {A : Around} {E : Value → Shared → Prop} {s : Shared}
theorem joinLetGo_ok {Q : Unit → Shared → Prop} : ∀ (l : List (Value × Option Value)) (keep : List Value), (∀ p ∈ l, p.2 = none) → Q () s → wpAny (model prog w) A (Bytes.joinLetGo l keep) Q E s
  | [], _, _, h => wpAny_pure h
  | (x, o) :: r, keep, hp, h => by
    obtain rfl : o = none := hp _ (.head _)
    unfold Bytes.joinLetGo
    refine wpAny_bind ?_
    unfold letGo
    refine wpAny_bind (wpAny_holding (wpAny_point ?_))
    refine wpAny_pure ?_
    exact joinLetGo_ok r keep (fun p hm => hp p (.tail _ hm)) h
theorem joined_go (parts : List (Array UInt8)) : ∀ (k : Nat) (out : Array UInt8), (parts.zipIdx k).foldl (fun out (p, i) => (if i > 0 then out ++ (#[] : Array UInt8) else out) ++ p) out = out ++ (parts.flatMap Array.toList).toArray := by
  induction parts with
  | nil => intro k out; simp
  | cons p r ih =>
    intro k out
    rw [List.zipIdx_cons, List.foldl_cons, ih]
    apply Array.ext'
    simp
theorem joined_eq (parts : List (Array UInt8)) : Bytes.joined #[] parts = (parts.flatMap Array.toList).toArray := by
  unfold Bytes.joined
  rw [joined_go]; simp
theorem joined_ints (parts : List (Array UInt8)) : KBw.bInts (Bytes.joined #[] parts) = parts.flatMap KBw.bInts := by
  rw [joined_eq]
  unfold KBw.bInts
  simp [List.map_flatMap]
theorem fold_size (parts : List (Array UInt8)) : ∀ k : Nat, parts.foldl (fun a b => a + b.size) k = k + (parts.flatMap Array.toList).length := by
  induction parts with
  | nil => intro k; simp
  | cons p r ih => intro k; rw [List.foldl_cons, ih]; simp; omega
def bv (l : List (Array UInt8 × Tok)) : List Value := l.map fun p => .bytes p.1 p.2
theorem wp_one {M : Model} {f : Value → Sem Fin} {g : Sem Fin} {Q : Fin → Shared → Prop} (l : List (Array UInt8 × Tok)) (h1 : ∀ p, l = [p] → wpAny M A (f (.bytes p.1 p.2)) Q E s) (h2 : l.length ≠ 1 → wpAny M A g Q E s) :
    wpAny M A (match (bv l).toArray with | #[x] => f x | _ => g) Q E s := by
  cases l with
  | nil => exact h2 (by simp)
  | cons p r => cases r with
    | nil => exact h1 p rfl
    | cons q r => exact h2 (by simp)
theorem join_call {l : List (Array UInt8 × Tok)} {D : Addr} {o : Obj} {n : Nat} {t : Tok} {Q : Value → Shared → Prop} (ho : s.heap.get? D = some o) (hc : o.cls = .type "list") (hd : o.data = .seq (bv l).toArray n) (hsz : ((l.map (·.1)).foldl (· + ·.size) 0) ≤ 16777216)
    (h : ∀ t' k, Q (.bytes (Bytes.joined #[] (l.map (·.1))) t') { s with toks := k }) (h1 : ∀ b t', l = [(b, t')] → Q (.bytes b t') s) :
    wpAny (model prog w) A (call (.builtin "bytes.join") [.bytes #[] t, .ref D]) Q E s := by
  refine wpAny_call (codeAny_call_builtin slot_bytes_join.plain entry_bytes_join (slot_bytes_join.check _ _ _ _ _ _ _ _ (typeIs_bytes _ _ _) (args_bytes_join _ _) ?_))
  unfold Builtin.«bytes.join» Bytes.joinM
  dsimp only
  refine wpAny_bind (wpAny_of_eq (a := (.bytes #[] t, .ref D)) rfl ?_)
  dsimp only
  refine bm_if_true rfl ?_
  refine wpAny_bind ?_
  have hT : s.TypeIs (.ref D) "list" := ⟨o, ho, hc⟩
  unfold Bytes.joinItems
  refine wpAny_bind (wpAny_typeOf hT ?_)
  refine bm_if_true (by decide +kernel) ?_
  refine wpAny_pure ?_
  refine wpAny_bind (wpAny_seqItems ho hd ?_)
  dsimp only
  refine bm_if_true rfl ?_
  refine wp_one l (fun p hp => ?_) (fun hne => ?_)
  · refine wpAny_bind (wpAny_typeOf (typeIs_bytes _ _ _) ?_)
    refine bm_if_true (by decide +kernel) ?_
    refine wpAny_bind (wpAny_rule ?_)
    exact wpAny_pure (h1 _ _ hp)
  · rw [Std.Legacy.Range.forIn_eq_forIn_range']
    refine wpAny_bind (wpAny_forIn_list (s := s) _ (fun rest b s' => ∃ i, i + rest.length = l.length ∧ rest = List.range' i rest.length ∧ b = (((l.take i).map (·.1)).toArray, (l.take i).map fun p => (Value.bytes p.1 p.2, none)) ∧ s' = s) _ ?_ ?_ _ _ ?_)
    · rintro i rest b s' ⟨j, hj, hr, rfl, rfl⟩
      rw [List.length_cons, List.range'_succ, List.cons.injEq] at hr
      obtain ⟨rfl, hr⟩ := hr
      dsimp only
      refine wpAny_bind (wpAny_seqItems ho hd ?_)
      dsimp only
      have hjl : i < l.length := by rw [List.length_cons] at hj; omega
      have hx : (bv l).toArray.getD i Value.none = .bytes (l[i]).1 (l[i]).2 := by
        unfold bv
        rw [Array.getD_eq_getD_getElem?]
        simp [hjl]
      rw [hx]
      refine bm_if_false ?_ ?_
      · rw [Bool.or_eq_false_iff]
        refine ⟨by decide, ?_⟩
        rw [List.any_eq_false]
        intro y hy
        obtain ⟨p, _, rfl⟩ := List.mem_map.mp hy
        simp [Value.onHeap]
      refine wpAny_bind (wpAny_holding (wpAny_of_eq take_eq ?_))
      dsimp only
      refine wpAny_bind (wpAny_seqItems ho hd ?_)
      dsimp only
      refine bm_if_false (by simp) ?_
      refine wpAny_pure ?_
      refine ⟨i + 1, by rw [List.length_cons] at hj; omega, hr, ?_, rfl⟩
      have e : l.take (i + 1) = l.take i ++ [l[i]] := by rw [List.take_add_one, List.getElem?_eq_getElem hjl]; rfl
      rw [e, List.map_append, List.map_append]
      congr 1
      simp
    · rintro b s' ⟨j, hj, _, rfl, rfl⟩
      obtain rfl : j = l.length := by simpa using hj
      rw [List.take_length]
      dsimp only
      refine wpAny_bind (wpAny_of_eq (a := #[]) rfl ?_)
      have hsz' : Array.foldl (fun x1 x2 => x1 + x2.size) ((#[] : Array UInt8).size * ((l.map (·.1)).toArray.size - 1)) (l.map (·.1)).toArray ≤ 16777216 := by
        rw [List.foldl_toArray]
        simpa using hsz
      refine bm_if_false (KBy.tooLong_not hsz') ?_
      refine wpAny_bind ?_
      show wpAny _ _ (mkBytes _) _ _ _
      refine wpAny_mkBytes ?_ ?_
      · refine wpAny_bind (wpAny_holding (wpAny_point ?_))
        refine wpAny_bind (joinLetGo_ok _ _ (fun p hp => by obtain ⟨x, _, rfl⟩ := List.mem_map.mp hp; rfl) ?_)
        refine wpAny_pure ?_
        exact h _ _
      · rw [joined_eq, sizeLine_eq]
        rw [fold_size] at hsz
        simpa using hsz
    · refine ⟨0, by simp [Std.Legacy.Range.size, bv], by simp [Std.Legacy.Range.size, bv, List.length_map], by simp, rfl⟩
end
end Mine
namespace Mine
noncomputable abbrev yB (w : World) : List Stmt := bodyOf (fdOf (t915 w.params))
noncomputable abbrev yS (w : World) (i : Nat) : Stmt := (yB w).getD i (.Pass ⟨0, 0, 0, 0⟩)
noncomputable abbrev y_E (w : World) (L : Addr) : Env := envOf (Str.ofString "law") (fdOf (t915 w.params)).scope L 915 (.ref 914)
theorem pB_is (w : World) : pB w = [pS w 0] ++ (pS w 1 :: pS w 2 :: pS w 3 :: []) := rfl
theorem fmod_range (a : Int) {b : Int} (h : 0 < b) : 0 ≤ a.fmod b ∧ a.fmod b < b := ⟨Int.fmod_nonneg_of_pos a h, Int.fmod_lt_of_pos a h⟩
theorem fr1 {h₀ h : Heap} {L : Addr} {m' : Str → Option Value} {a : Str} {va : Value} (F : Fr h₀ L h m') (ea : m' a = some va) : Fr h₀ L h (fun y => if y = a then some va else m' y) := fr_ext F fun y => by
  by_cases h1 : y = a
  · subst h1; simp [ea]
  simp [h1]
section
variable {w : World} {mg mb : Str → Option Value} {dp un : Nat} {fr : Option (List Env)} {gd : Option (List Code)} {s : Shared}
theorem sp_body {h₀ : Heap} {L : Addr} {m : Str → Option Value} {Q : Flow → Shared → Prop} {E : Value → Shared → Prop} (n : Int) (tn : Tok) (h0 : 0 ≤ n) (o1 : Obj) (ov : Option Value) (d1 : o1.data = .cell ov)
    (X : (KH w.params).In h₀) (T : TopRead q lw mg mb h₀) (F : Fr h₀ L s.heap (fun y => if y = Str.ofString "number" then some (.int n tn) else m y)) (N : News h₀ L s.heap [(L + 1, o1)]) (hd : dp + 100 < recursionLimit) (hu : un + 400 < cLine)
    (hret : ∀ d t h' tk', StepOk (KBw.bInts d) → (n.fmod 8 < 3 → PushOk (KBw.bInts d)) → Ext h₀ h' → Q (.ret (.bytes d t)) { s with heap := h', toks := tk' }) :
    wpAny (model RP w) (Ar dp un fr gd) (execs (pB w) (p_E w L)) Q E s := by
  rw [pB_is]
  refine wp_app _ ?_
  refine p_0 (news := []) n tn h0 o1 ov d1 X T F N hd hu (fun o1' tk tm h' tk' m' e1 ek F' N' => ?_)
  obtain ⟨k0, k8⟩ := fmod_range n (b := 8) (by omega)
  have hmo : 0 ≤ n.fdiv 8 := Int.fdiv_nonneg h0 (by omega)
  obtain ⟨q0, q1⟩ := fmod_range (n.fdiv 8) (b := 16) (by omega)
  obtain ⟨q2, q3⟩ := fmod_range (n.fdiv 8) (b := 80) (by omega)
  obtain ⟨q4, q5⟩ := fmod_range ((n.fdiv 8).fdiv 5) (b := 4) (by omega)
  by_cases hk : n.fmod 8 < 3
  · refine wpAny_execs_cons (p_1 (news := []) _ _ tk tm hmo q0 q1 q2 q3 q4 q5 o1' e1 hk X T (fr1 F' ek) N' hd hu (fun d t h₁ tk₁ m₁ hp F₁ => ?_))
    exact hret d t _ _ hp.step (fun _ => hp) F₁.keep
  refine wpAny_execs_cons (p_1n (news := []) _ _ tk tm hmo q0 q1 q2 q3 q4 q5 o1' e1 (by omega) X T (fr1 F' ek) N' hd hu (fun tk₁ => ?_))
  by_cases h3 : n.fmod 8 = 3
  · refine wpAny_execs_cons (p_2 (news := []) _ _ tk tm hmo q0 q1 q2 q3 q4 q5 o1' e1 h3 X T (fr1 F' ek) N' hd hu (fun d t h₁ tk₁ m₁ hp F₁ => ?_))
    exact hret d t _ _ hp (fun h => absurd h hk) F₁.keep
  refine wpAny_execs_cons (p_2n (news := []) _ _ tk tm hmo q0 q1 q2 q3 q4 q5 o1' e1 (by omega) X T (fr1 F' ek) N' hd hu (fun tk₂ => ?_))
  refine wpAny_execs_cons (p_3 (news := []) _ _ tk tm hmo q0 q1 q2 q3 q4 q5 o1' e1 (by omega) X T (fr1 F' ek) N' hd hu (fun d t h₁ tk₁ m₁ hp F₁ => ?_))
  exact hret d t _ _ hp (fun h => absurd h hk) F₁.keep
theorem sp_p {Q E : Value → Shared → Prop} (n : Int) (tn : Tok) (h0 : 0 ≤ n) (X : (KH w.params).In s.heap) (T : TopRead q lw mg mb s.heap) (hd : dp + 110 < recursionLimit) (hu : un + 420 < cLine)
    (hret : ∀ d t h' tk', StepOk (KBw.bInts d) → (n.fmod 8 < 3 → PushOk (KBw.bInts d)) → Ext s.heap h' → Q (.bytes d t) { s with heap := h', toks := tk' }) :
    wpAny (model RP w) (Ar dp un fr gd) (call (.ref 898) [.int n tn]) Q E s := by
  refine wpAny_call ?_
  refine enterC (K := KH w.params) (f := 898) X T.nolimit (by rfl) (by rfl) (by show dp < recursionLimit; omega) (binds := [(Str.ofString "number", .int n tn)]) (BindsTo.of_eq (by rfl)) (fun n x hx => ?_) (by decide) (fun L' h₁ tk cells F N Y hL => ?_) (by rfl) (by rfl) (by rfl)
  · simp only [List.mem_cons, List.not_mem_nil, or_false] at hx
    subst hx
    exact .inl rfl
  · obtain ⟨o1, hE, d1⟩ := CellsAre.one Y
    subst hE
    refine sp_body (dp := dp + 1) (un := un + 3) (fr := fr.map (p_E w L' :: ·)) (m := fun _ => none) n tn h0 o1 _ d1 X T (fr_ext F fun y => ?_) N (by omega) (by omega) hret
    by_cases h1 : y = Str.ofString "number"
    · subst h1; rfl
    · rw [if_neg h1]
      show (if y = Str.ofString "number" then _ else _) = _
      rw [if_neg h1]
end
end Mine
namespace Mine
local macro_rules | `(tactic| k_room) => `(tactic| ((try simp only [depth_under_make, depth_under_kw, depth_in1, depth_deeper, depth_caller]); (try dsimp only [Ar]); omega))
local macro_rules | `(tactic| k_units) => `(tactic| ((try simp only [units_in1, units_deeper, Around.mark_units, units_caller]); (try dsimp only [Ar]); omega))
local macro_rules | `(tactic| cell_enter) => `(tactic| (refine' enterK ?k1 ?k2 ?k6 ?k7 ?k8 ?k9 ?kB ?_ ?c2 ?c3 ?c4 ?c5; (case k1 => assumption); (case k2 => exact TopRead.nolimit (by assumption)); (case k6 => k_is); (case k7 => k_is); (case k8 => k_room); (case k9 => first | exact BindsTo.of_eq rfl | exact binds_K (by assumption) rfl (by k_is) rfl rfl rfl | fail "k_enter: no rule for these arguments"); (case c5 => decide); (case kB => exact locs rfl); (case c2 => exact rfl); (case c3 => exact rfl); (case c4 => exact rfl); k_whole; intro L' h' F' N' kSz; (try dsimp only); (try k_fold)))
local macro_rules | `(tactic| walk_at "call type:bytes") => `(tactic| (k_here; (with_reducible show wpAny _ _ (call (Value.type _) [Value.bytes _ _]) _ _ _); (with_unfolding_all refine call_bytes_bytes ?_)))

abbrev lcElt (e : Expr) : Expr := match e with | .ListComp e _ _ _ => e | _ => default
abbrev lcScope (e : Expr) : Scope := match e with | .ListComp _ _ s _ => s | _ => default
abbrev lcIter (e : Expr) : Expr := match e with | .ListComp _ (c :: _) _ _ => c.iter | _ => default
abbrev caArg (e : Expr) : Expr := match e with | .Call _ (a :: _) _ _ => a | _ => default
noncomputable abbrev lc2 (w : World) : Expr := caArg (asVal (yS w 2))
noncomputable abbrev lc6 (w : World) : Expr := caArg (asVal (yS w 6))
local macro_rules | `(tactic| walk_at "eval Name") => `(tactic| (k_here; (with_reducible show wpAny _ _ (eval (Expr.Name _ _) (compEnv _ _ _)) _ _ _); k_dflt (refine wpAny_Name (wpAny_loadName_local rfl rfl (by assumption) (by assumption) ?_))))
local macro_rules | `(tactic| walk_at "call ref") => `(tactic| (k_here; (with_reducible show wpAny _ _ (call (Value.ref 898) [Value.int _ _]) _ _ _); k_dflt ((with_reducible rename Fr _ _ _ _ => FF); (with_reducible rename News _ _ _ _ => NN); (with_reducible rename Frag.In _ _ => XX); (with_reducible rename TopRead _ _ _ _ _ => TT); refine' sp_p _ _ ?k0 ?kX ?kT ?kd ?ku ?_; (case k0 => first | assumption | (have hq := fmod_range _ (show (0 : Int) < 3 by decide); omega) | omega); (case kX => exact Frag.In.keeps XX FF.keep); (case kT => exact TopRead.keeps TT FF.keep); (case kd => k_room); (case ku => k_units); (intro d' t' h' tk' hs' hp' hk'; (try dsimp only at hk' ⊢)))))

theorem yc_elt2 {w : World} {mg mb : Str → Option Value} {dp un : Nat} {fr : Option (List Env)} {gd : Option (List Code)} {s : Shared} {E : Value → Shared → Prop}
    {h₀ : Heap} {L : Addr} {m : Str → Option Value} {news : List (Addr × Obj)} {Q : Value → Shared → Prop} {C : Addr} {m₃ : Str → Option Value} (n : Int) (tn : Tok) (h0 : 0 ≤ n) (hC : s.heap.Ns C m₃) (hx : m₃ (Str.ofString "number") = some (.int n tn))
    (X : (KH w.params).In h₀) (T : TopRead q lw mg mb h₀) (F : Fr h₀ L s.heap m) (N : News h₀ L s.heap ([])) (hd : dp + 300 < recursionLimit) (hu : un + 800 < cLine)
    (hret : ∀ d t h' tk', StepOk (KBw.bInts d) → (Int.fmod n 8 < 3 → PushOk (KBw.bInts d)) → Ext s.heap h' → Q (.bytes d t) { s with heap := h', toks := tk' }) :
    wpAny (model PySem.Challenge.rw_ez0016_01.prog w) (Ar dp un fr gd) (eval (lcElt (lc2 w)) (compEnv (lcScope (lc2 w)) C (y_E w L))) Q E s := by
  revert X; k_fill; intro X
  dsimp only [lc2, lc6, lcElt, lcScope, lcIter, asVal, caArg, yS, yB, bodyOf, fdOf, t915, fnS, nth, pw, PySem.Challenge.pw_ez0016_01, List.getD, List.getElem?_cons_succ, List.getElem?_cons_zero, Option.getD]
  k_steps
  all_goals (try (with_reducible rename Fr _ _ _ _ => FF))
  all_goals (try (with_reducible rename News _ _ _ _ => NN))
  all_goals first | exact hret _ _ _ _ (by assumption) (by assumption) (by assumption) | trace_state

theorem yc_it2 {w : World} {mg mb : Str → Option Value} {dp un : Nat} {fr : Option (List Env)} {gd : Option (List Code)} {s : Shared} {E : Value → Shared → Prop}
    {h₀ : Heap} {L : Addr} {m : Str → Option Value} {news : List (Addr × Obj)} {Q : Value → Shared → Prop} (NU : Addr) (vs : List Value) (ns : List Int) (n : Nat) (hi : IntsAre vs ns) (hl : ns.length ≤ 12)
    (X : (KH w.params).In h₀) (T : TopRead q lw mg mb h₀) (F : Fr h₀ L s.heap (fun y => if y = Str.ofString "numbers" then some (.ref NU) else m y)) (N : News h₀ L s.heap ((NU, listOf vs.toArray n) :: news)) (hd : dp + 300 < recursionLimit) (hu : un + 800 < cLine)
    (hret : ∀ R vs' ms h' tk', IntsAre vs' ms → ms.length ≤ 10 → (∀ x ∈ ms, x ∈ ns) → Fr h₀ L h' (fun y => if y = Str.ofString "numbers" then some (.ref NU) else m y) → News h₀ L h' ((R, listOf vs'.toArray 0) :: (NU, listOf vs.toArray n) :: news) → Q (.ref R) { s with heap := h', toks := tk' }) :
    wpAny (model PySem.Challenge.rw_ez0016_01.prog w) (Ar dp un fr gd) (eval (lcIter (lc2 w)) (y_E w L)) Q E s := by
  revert X; k_fill; intro X
  dsimp only [lc2, lc6, lcElt, lcScope, lcIter, asVal, caArg, yS, yB, bodyOf, fdOf, t915, fnS, nth, pw, PySem.Challenge.pw_ez0016_01, List.getD, List.getElem?_cons_succ, List.getElem?_cons_zero, Option.getD]
  k_steps
  all_goals (try (with_reducible rename Fr _ _ _ _ => FF))
  all_goals (try (with_reducible rename News _ _ _ _ => NN))
  all_goals exact hret _ _ _ _ _ (by assumption) (by rw [List.length_take, List.length_drop]; omega) (fun x hx => List.mem_of_mem_drop (List.mem_of_mem_take hx)) FF NN

theorem yc_elt6 {w : World} {mg mb : Str → Option Value} {dp un : Nat} {fr : Option (List Env)} {gd : Option (List Code)} {s : Shared} {E : Value → Shared → Prop}
    {h₀ : Heap} {L : Addr} {m : Str → Option Value} {news : List (Addr × Obj)} {Q : Value → Shared → Prop} {C : Addr} {m₃ : Str → Option Value} (n : Int) (tn : Tok) (h0 : 0 ≤ n) (q0 : 0 ≤ n.fmod 3) (q1 : n.fmod 3 < 3) (hC : s.heap.Ns C m₃) (hx : m₃ (Str.ofString "number") = some (.int n tn))
    (X : (KH w.params).In h₀) (T : TopRead q lw mg mb h₀) (F : Fr h₀ L s.heap m) (N : News h₀ L s.heap ([])) (hd : dp + 300 < recursionLimit) (hu : un + 800 < cLine)
    (hret : ∀ d t h' tk', StepOk (KBw.bInts d) → (Int.fmod (n * 8 + n.fmod 3) 8 < 3 → PushOk (KBw.bInts d)) → Ext s.heap h' → Q (.bytes d t) { s with heap := h', toks := tk' }) :
    wpAny (model PySem.Challenge.rw_ez0016_01.prog w) (Ar dp un fr gd) (eval (lcElt (lc6 w)) (compEnv (lcScope (lc6 w)) C (y_E w L))) Q E s := by
  revert X; k_fill; intro X
  dsimp only [lc2, lc6, lcElt, lcScope, lcIter, asVal, caArg, yS, yB, bodyOf, fdOf, t915, fnS, nth, pw, PySem.Challenge.pw_ez0016_01, List.getD, List.getElem?_cons_succ, List.getElem?_cons_zero, Option.getD]
  k_steps
  all_goals (try (with_reducible rename Fr _ _ _ _ => FF))
  all_goals (try (with_reducible rename News _ _ _ _ => NN))
  all_goals first | exact hret _ _ _ _ (by assumption) (by assumption) (by assumption) | trace_state

theorem yc_it6 {w : World} {mg mb : Str → Option Value} {dp un : Nat} {fr : Option (List Env)} {gd : Option (List Code)} {s : Shared} {E : Value → Shared → Prop}
    {h₀ : Heap} {L : Addr} {m : Str → Option Value} {news : List (Addr × Obj)} {Q : Value → Shared → Prop} (NU : Addr) (vs : List Value) (ns : List Int) (n : Nat) (hi : IntsAre vs ns) (hl : ns.length ≤ 12)
    (X : (KH w.params).In h₀) (T : TopRead q lw mg mb h₀) (F : Fr h₀ L s.heap (fun y => if y = Str.ofString "numbers" then some (.ref NU) else m y)) (N : News h₀ L s.heap ((NU, listOf vs.toArray n) :: news)) (hd : dp + 300 < recursionLimit) (hu : un + 800 < cLine)
    (hret : ∀ R vs' ms h' tk', IntsAre vs' ms → ms.length ≤ 2 → (∀ x ∈ ms, x ∈ ns) → Fr h₀ L h' (fun y => if y = Str.ofString "numbers" then some (.ref NU) else m y) → News h₀ L h' ((R, listOf vs'.toArray 0) :: (NU, listOf vs.toArray n) :: news) → Q (.ref R) { s with heap := h', toks := tk' }) :
    wpAny (model PySem.Challenge.rw_ez0016_01.prog w) (Ar dp un fr gd) (eval (lcIter (lc6 w)) (y_E w L)) Q E s := by
  revert X; k_fill; intro X
  dsimp only [lc2, lc6, lcElt, lcScope, lcIter, asVal, caArg, yS, yB, bodyOf, fdOf, t915, fnS, nth, pw, PySem.Challenge.pw_ez0016_01, List.getD, List.getElem?_cons_succ, List.getElem?_cons_zero, Option.getD]
  k_steps
  all_goals (try (with_reducible rename Fr _ _ _ _ => FF))
  all_goals (try (with_reducible rename News _ _ _ _ => NN))
  all_goals exact hret _ _ _ _ _ (by assumption) (by rw [List.length_take, List.length_drop]; omega) (fun x hx => List.mem_of_mem_drop (List.mem_of_mem_take hx)) FF NN
end Mine
namespace Mine
theorem ints_mem : ∀ {vs : List Value} {ns : List Int}, IntsAre vs ns → ∀ (i : Nat) (v : Value), vs[i]? = some v → ∃ n t, v = .int n t ∧ n ∈ ns
  | _, _, .nil, i, v, h => by simp at h
  | _, _, .cons n t r, 0, v, h => by
    simp only [List.getElem?_cons_zero, Option.some.injEq] at h
    exact ⟨n, t, h.symm, .head _⟩
  | _, _, .cons n t r, i + 1, v, h => by
    rw [List.getElem?_cons_succ] at h
    obtain ⟨n', t', e, hm⟩ := ints_mem r i v h
    exact ⟨n', t', e, .tail _ hm⟩
theorem bv_of_paired {P : List Int → Prop} {vs : List Value} {ys : List Value} (h : Paired (fun _ y => ∃ d t, y = Value.bytes d t ∧ P (KBw.bInts d)) vs ys) : ∃ l : List (Array UInt8 × Tok), ys = bv l ∧ l.length = vs.length ∧ ∀ p ∈ l, P (KBw.bInts p.1) := by
  induction h with
  | nil => exact ⟨[], rfl, rfl, fun _ h => nomatch h⟩
  | cons hf _ ih =>
    obtain ⟨d, t, rfl, hp⟩ := hf
    obtain ⟨l, rfl, hl, ha⟩ := ih
    refine ⟨(d, t) :: l, rfl, by simp [hl], fun p hm => ?_⟩
    rcases List.mem_cons.mp hm with rfl | hm
    · exact hp
    · exact ha p hm
section
variable {w : World} {mg mb : Str → Option Value} {dp un : Nat} {fr : Option (List Env)} {gd : Option (List Code)} {s : Shared}

theorem lc2_is (w : World) : ∃ px pos, lc2 w = .ListComp (lcElt (lc2 w)) [⟨.Name (Str.ofString "number") px, lcIter (lc2 w), [], 0⟩] (lcScope (lc2 w)) pos := ⟨_, _, rfl⟩
theorem lc2_s {w : World} : (∀ y ∈ (lcScope (lc2 w)).names, y.2 ≠ .free) ∧ (∀ y ∈ (lcScope (lc2 w)).names, y.2 ≠ .cell) ∧ (∀ y ∈ (lcScope (lc2 w)).names, y.2 = .local → (lcScope (lc2 w)).names.lookup y.1 = some .local) := by
  dsimp only [lc2, lc6, lcElt, lcScope, lcIter, asVal, caArg, yS, yB, bodyOf, fdOf, t915, fnS, nth, pw, PySem.Challenge.pw_ez0016_01, List.getD, List.getElem?_cons_succ, List.getElem?_cons_zero, Option.getD]
  decide
theorem yc_2 {h₀ : Heap} {L : Addr} {m : Str → Option Value} {news : List (Addr × Obj)} {Q E : Value → Shared → Prop} (NU : Addr) (vs : List Value) (ns : List Int) (n : Nat) (hi : IntsAre vs ns) (hl : ns.length ≤ 12) (hpos : ∀ x ∈ ns, 0 ≤ x)
    (X : (KH w.params).In h₀) (T : TopRead q lw mg mb h₀) (F : Fr h₀ L s.heap m) (em : m (Str.ofString "numbers") = some (.ref NU)) (N : News h₀ L s.heap ((NU, listOf vs.toArray n) :: news)) (hd : dp + 310 < recursionLimit) (hu : un + 820 < cLine)
    (hret : ∀ R l k h' tk', l.length ≤ 10 → (∀ p ∈ l, StepOk (KBw.bInts p.1)) → Fr h₀ L h' m → News h₀ L h' ((R, listOf (bv l).toArray k) :: (NU, listOf vs.toArray n) :: news) → Q (.ref R) { s with heap := h', toks := tk' }) :
    wpAny (model RP w) (Ar dp un fr gd) (eval (lc2 w) (y_E w L)) Q E s := by
  obtain ⟨px, pos, he⟩ := lc2_is w
  rw [he]
  refine wpAny_ListComp_walk (fun _ => true) (fun _ y => ∃ d t, y = Value.bytes d t ∧ StepOk (KBw.bInts d)) lc2_s.1 lc2_s.2.1 (by rfl) lc2_s.2.2 (by rfl) ?_
  refine yc_it2 NU vs ns n hi hl X T (fr1 F em) N (by omega) (by omega) (fun R vs' ms h₁ tk₁ hi' hlen hsub F₁ N₁ => ?_)
  have F₁ : Fr h₀ L h₁ m := fr_ext F₁ fun y => by
    by_cases h1 : y = Str.ofString "numbers"
    · subst h1; rw [if_pos rfl, em]
    · rw [if_neg h1]
  have hR := N₁ _ (.head _)
  have hlR : h₁.IsList R vs'.toArray := ⟨_, hR.1, rfl, _, rfl⟩
  have hRlt : R < h₁.objs.size := Heap.lt_size hR.1
  refine wpAny_pyIter_list hlR ?_
  have up : ∀ b o, h₁.get? b = some o → (h₁.push { cls := .type "list_iterator", data := .fields #[.ref R, .int 0 0] }).get? b = some o := fun b o e => Heap.get?_push_of_some _ e
  have hsz : vs'.toArray.size ≤ 12 := by rw [List.size_toArray, hi'.length]; omega
  have F₂ := Fr.keeps F₁ up
  have hI₀ : h₀.get? h₁.objs.size = none := Heap.get?_none_of_le (Nat.le_trans F₁.above (Nat.le_of_lt F₁.ns.lt))
  have hLI : L ≠ h₁.objs.size := Nat.ne_of_lt F₁.ns.lt
  refine ⟨h₁.objs.size, [h₁.objs.size, R], [h₁.objs.size], _, _, _, rfl, Walks.list rfl h₁.objs.size R (Nat.ne_of_lt hRlt) vs'.toArray, Nat.le_trans hsz (by decide), ⟨⟨_, Heap.get?_push_size _ rfl, rfl, rfl⟩, hlR.push _⟩, fun b hb => ?_, ⟨fun C i v s₃ m₃ E' hv hn₃ hx hk htk => ?_, fun C i v s₃ m₃ E' hv hp hn₃ hx hk htk => ?_⟩, fun D h' tk ys us hD hl' hpl hlen' hP hF hk => ?_⟩
  · show b < (h₁.push _).objs.size
    rw [Heap.size_push]
    rcases List.mem_cons.mp hb with rfl | hb
    · exact Nat.lt_succ_self _
    · rw [List.mem_singleton.mp hb]; exact Nat.lt_succ_of_lt hRlt
  · exact wpAny_tests_nil ⟨rfl, s₃.heap, s₃.toks, rfl, fun _ _ e => e⟩
  · obtain ⟨n, t', rfl, hn⟩ := ints_mem hi' i v (by simpa using hv)
    have F₃ := LCg.fr_but F₂ hk hLI hI₀
    exact yc_elt2 (news := []) n t' (hpos _ (hsub _ hn)) hn₃ hx X T F₃ News.nil (by omega) (by omega) (fun d td h' tk' hs hp hk' => ⟨⟨d, td, rfl, hs⟩, h', tk', rfl, hk'⟩)
  · obtain ⟨l, e, hll, hla⟩ := bv_of_paired hF
    obtain ⟨nn, hD'⟩ := hpl
    have hys : ys = (bv l).toArray := by rw [← e]
    subst hys
    have F₃ := LCg.fr_but F₂ hk hLI hI₀
    have hlen3 : l.length ≤ 10 := by
      rw [hll]
      refine Nat.le_trans (List.length_filter_le _ _) ?_
      rw [hlen', List.size_toArray, hi'.length]; exact hlen
    refine hret D l nn h' tk hlen3 hla F₃ fun p hp => ?_
    rcases List.mem_cons.mp hp with rfl | hp
    · refine ⟨hD', fun q => ?_, ?_⟩
      · obtain ⟨oL, _, _, hL, _⟩ := F₂.ns
        rw [← q] at hL
        exact absurd (hL.symm.trans hD) (by simp)
      · cases q : h₀.get? D with
        | none => rfl
        | some x => exact absurd ((F₂.keep _ _ q).symm.trans hD) (by simp)
    · have := N₁ p (.tail _ hp)
      exact ⟨hk _ _ (by simpa using Nat.ne_of_lt (Heap.lt_size this.1)) (up _ _ this.1), this.2⟩

theorem lc6_is (w : World) : ∃ px pos, lc6 w = .ListComp (lcElt (lc6 w)) [⟨.Name (Str.ofString "number") px, lcIter (lc6 w), [], 0⟩] (lcScope (lc6 w)) pos := ⟨_, _, rfl⟩
theorem lc6_s {w : World} : (∀ y ∈ (lcScope (lc6 w)).names, y.2 ≠ .free) ∧ (∀ y ∈ (lcScope (lc6 w)).names, y.2 ≠ .cell) ∧ (∀ y ∈ (lcScope (lc6 w)).names, y.2 = .local → (lcScope (lc6 w)).names.lookup y.1 = some .local) := by
  dsimp only [lc2, lc6, lcElt, lcScope, lcIter, asVal, caArg, yS, yB, bodyOf, fdOf, t915, fnS, nth, pw, PySem.Challenge.pw_ez0016_01, List.getD, List.getElem?_cons_succ, List.getElem?_cons_zero, Option.getD]
  decide
theorem yc_6 {h₀ : Heap} {L : Addr} {m : Str → Option Value} {news : List (Addr × Obj)} {Q E : Value → Shared → Prop} (NU : Addr) (vs : List Value) (ns : List Int) (n : Nat) (hi : IntsAre vs ns) (hl : ns.length ≤ 12) (hpos : ∀ x ∈ ns, 0 ≤ x)
    (X : (KH w.params).In h₀) (T : TopRead q lw mg mb h₀) (F : Fr h₀ L s.heap m) (em : m (Str.ofString "numbers") = some (.ref NU)) (N : News h₀ L s.heap ((NU, listOf vs.toArray n) :: news)) (hd : dp + 310 < recursionLimit) (hu : un + 820 < cLine)
    (hret : ∀ R l k h' tk', l.length ≤ 2 → (∀ p ∈ l, PushOk (KBw.bInts p.1)) → Fr h₀ L h' m → News h₀ L h' ((R, listOf (bv l).toArray k) :: (NU, listOf vs.toArray n) :: news) → Q (.ref R) { s with heap := h', toks := tk' }) :
    wpAny (model RP w) (Ar dp un fr gd) (eval (lc6 w) (y_E w L)) Q E s := by
  obtain ⟨px, pos, he⟩ := lc6_is w
  rw [he]
  refine wpAny_ListComp_walk (fun _ => true) (fun _ y => ∃ d t, y = Value.bytes d t ∧ PushOk (KBw.bInts d)) lc6_s.1 lc6_s.2.1 (by rfl) lc6_s.2.2 (by rfl) ?_
  refine yc_it6 NU vs ns n hi hl X T (fr1 F em) N (by omega) (by omega) (fun R vs' ms h₁ tk₁ hi' hlen hsub F₁ N₁ => ?_)
  have F₁ : Fr h₀ L h₁ m := fr_ext F₁ fun y => by
    by_cases h1 : y = Str.ofString "numbers"
    · subst h1; rw [if_pos rfl, em]
    · rw [if_neg h1]
  have hR := N₁ _ (.head _)
  have hlR : h₁.IsList R vs'.toArray := ⟨_, hR.1, rfl, _, rfl⟩
  have hRlt : R < h₁.objs.size := Heap.lt_size hR.1
  refine wpAny_pyIter_list hlR ?_
  have up : ∀ b o, h₁.get? b = some o → (h₁.push { cls := .type "list_iterator", data := .fields #[.ref R, .int 0 0] }).get? b = some o := fun b o e => Heap.get?_push_of_some _ e
  have hsz : vs'.toArray.size ≤ 12 := by rw [List.size_toArray, hi'.length]; omega
  have F₂ := Fr.keeps F₁ up
  have hI₀ : h₀.get? h₁.objs.size = none := Heap.get?_none_of_le (Nat.le_trans F₁.above (Nat.le_of_lt F₁.ns.lt))
  have hLI : L ≠ h₁.objs.size := Nat.ne_of_lt F₁.ns.lt
  refine ⟨h₁.objs.size, [h₁.objs.size, R], [h₁.objs.size], _, _, _, rfl, Walks.list rfl h₁.objs.size R (Nat.ne_of_lt hRlt) vs'.toArray, Nat.le_trans hsz (by decide), ⟨⟨_, Heap.get?_push_size _ rfl, rfl, rfl⟩, hlR.push _⟩, fun b hb => ?_, ⟨fun C i v s₃ m₃ E' hv hn₃ hx hk htk => ?_, fun C i v s₃ m₃ E' hv hp hn₃ hx hk htk => ?_⟩, fun D h' tk ys us hD hl' hpl hlen' hP hF hk => ?_⟩
  · show b < (h₁.push _).objs.size
    rw [Heap.size_push]
    rcases List.mem_cons.mp hb with rfl | hb
    · exact Nat.lt_succ_self _
    · rw [List.mem_singleton.mp hb]; exact Nat.lt_succ_of_lt hRlt
  · exact wpAny_tests_nil ⟨rfl, s₃.heap, s₃.toks, rfl, fun _ _ e => e⟩
  · obtain ⟨n, t', rfl, hn⟩ := ints_mem hi' i v (by simpa using hv)
    have F₃ := LCg.fr_but F₂ hk hLI hI₀
    exact yc_elt6 (news := []) n t' (hpos _ (hsub _ hn)) (fmod_range n (by decide)).1 (fmod_range n (by decide)).2 hn₃ hx X T F₃ News.nil (by omega) (by omega) (fun d td h' tk' hs hp hk' => ⟨⟨d, td, rfl, hp (by have h3 := fmod_range n (b := 3) (by decide); have hn0 := hpos _ (hsub _ hn); rw [Int.fmod_eq_emod_of_nonneg _ (by decide)]; omega)⟩, h', tk', rfl, hk'⟩)
  · obtain ⟨l, e, hll, hla⟩ := bv_of_paired hF
    obtain ⟨nn, hD'⟩ := hpl
    have hys : ys = (bv l).toArray := by rw [← e]
    subst hys
    have F₃ := LCg.fr_but F₂ hk hLI hI₀
    have hlen3 : l.length ≤ 2 := by
      rw [hll]
      refine Nat.le_trans (List.length_filter_le _ _) ?_
      rw [hlen', List.size_toArray, hi'.length]; exact hlen
    refine hret D l nn h' tk hlen3 hla F₃ fun p hp => ?_
    rcases List.mem_cons.mp hp with rfl | hp
    · refine ⟨hD', fun q => ?_, ?_⟩
      · obtain ⟨oL, _, _, hL, _⟩ := F₂.ns
        rw [← q] at hL
        exact absurd (hL.symm.trans hD) (by simp)
      · cases q : h₀.get? D with
        | none => rfl
        | some x => exact absurd ((F₂.keep _ _ q).symm.trans hD) (by simp)
    · have := N₁ p (.tail _ hp)
      exact ⟨hk _ _ (by simpa using Nat.ne_of_lt (Heap.lt_size this.1)) (up _ _ this.1), this.2⟩
end
end Mine
namespace Mine
local macro_rules | `(tactic| walk_at "zz") => `(tactic| fail "zz")
local macro_rules | `(tactic| k_room) => `(tactic| ((try simp only [depth_under_make, depth_under_kw, depth_in1, depth_deeper, depth_caller]); (try dsimp only [Ar]); omega))
local macro_rules | `(tactic| k_units) => `(tactic| ((try simp only [units_in1, units_deeper, Around.mark_units, units_caller]); (try dsimp only [Ar]); omega))
local macro_rules | `(tactic| cell_enter) => `(tactic| (refine' enterK ?k1 ?k2 ?k6 ?k7 ?k8 ?k9 ?kB ?_ ?c2 ?c3 ?c4 ?c5; (case k1 => assumption); (case k2 => exact TopRead.nolimit (by assumption)); (case k6 => k_is); (case k7 => k_is); (case k8 => k_room); (case k9 => first | exact BindsTo.of_eq rfl | exact binds_K (by assumption) rfl (by k_is) rfl rfl rfl | fail "k_enter: no rule for these arguments"); (case c5 => decide); (case kB => exact locs rfl); (case c2 => exact rfl); (case c3 => exact rfl); (case c4 => exact rfl); k_whole; intro L' h' F' N' kSz; (try dsimp only); (try k_fold)))
local macro_rules | `(tactic| walk_at "call type:bytes") => `(tactic| (k_here; (with_reducible show wpAny _ _ (call (Value.type _) [Value.bytes _ _]) _ _ _); (with_unfolding_all refine call_bytes_bytes ?_)))
local macro_rules | `(tactic| walk_at "call ref") => `(tactic| (k_here; (with_reducible show wpAny _ _ (call (Value.ref 865) [Value.bytes _ _]) _ _ _); k_dflt ((with_reducible rename Fr _ _ _ _ => FF); (with_reducible rename News _ _ _ _ => NN); (with_reducible rename Frag.In _ _ => XX); (with_reducible rename TopRead _ _ _ _ _ => TT); refine' st_p ?kb ?ksz ?kX ?kT ?kd ?ku ?_; (case kb => assumption); (case ksz => assumption); (case kX => exact Frag.In.keeps XX FF.keep); (case kT => exact TopRead.keeps TT FF.keep); (case kd => k_room); (case ku => k_units); (intro T' G' its' n' h' tk' hk' hT' hTf' hG' hGf' hsz' hit'; (have F' := Fr.keeps FF hk'); obtain ⟨nw', N', hin', hsub'⟩ := st_news FF NN hk' hT' hTf' hG' hGf' hit'; clear FF NN hk' hT' hTf' hG' hGf' hit'; (try dsimp only at F' N' ⊢)))))

noncomputable abbrev taB (w : World) : List Stmt := bodyOf (fdOf (t903 w.params))
noncomputable abbrev taS (w : World) (i : Nat) : Stmt := (taB w).getD i (.Pass ⟨0, 0, 0, 0⟩)
noncomputable abbrev ta_E (w : World) (L : Addr) : Env := envOf (Str.ofString "_law_last") (fdOf (t903 w.params)).scope L 903 (.ref 902)
abbrev ifT (s : Stmt) : Expr := match s with | .If t _ _ _ => t | _ => default
abbrev boV (e : Expr) : List Expr := match e with | .BoolOp _ vs _ => vs | _ => default
abbrev cmL (e : Expr) : Expr := match e with | .Compare l _ _ _ => l | _ => default
abbrev lcIf (e : Expr) : Expr := match e with | .ListComp _ (c :: _) _ _ => c.ifs.getD 0 default | _ => default
noncomputable abbrev lc8 (w : World) : Expr := cmL ((boV (ifT (taS w 1))).getD 1 default)
local macro_rules | `(tactic| walk_at "eval Name") => `(tactic| (k_here; (with_reducible show wpAny _ _ (eval (Expr.Name _ _) (compEnv _ _ _)) _ _ _); k_dflt (refine wpAny_Name (wpAny_loadName_local rfl rfl (by assumption) (by assumption) ?_))))

theorem ta_test {w : World} {mg mb : Str → Option Value} {dp un : Nat} {fr : Option (List Env)} {gd : Option (List Code)} {s : Shared} {E : Value → Shared → Prop}
    {h₀ : Heap} {L : Addr} {m : Str → Option Value} {news : List (Addr × Obj)} {Q : Bool → Shared → Prop} {C : Addr} {m₃ : Str → Option Value} (c : Int) (tc : Tok) (hC : s.heap.Ns C m₃) (hx : m₃ (Str.ofString "code") = some (.int c tc))
    (X : (KH w.params).In h₀) (T : TopRead q lw mg mb h₀) (F : Fr h₀ L s.heap m) (N : News h₀ L s.heap ([])) (hd : dp + 100 < recursionLimit) (hu : un + 400 < cLine)
    (hret : ∀ tk', Q (decide (96 < c)) { s with toks := tk' }) :
    wpAny (model PySem.Challenge.rw_ez0016_01.prog w) (Ar dp un fr gd) (isTrue (lcIf (lc8 w)) (compEnv (lcScope (lc8 w)) C (ta_E w L)) (eval (lcIf (lc8 w)) (compEnv (lcScope (lc8 w)) C (ta_E w L)))) Q E s := by
  revert X; k_fill; intro X
  dsimp only [lc8, ifT, boV, cmL, lcIf, lcElt, lcScope, taS, taB, bodyOf, fdOf, t903, fnS, nth, pw, PySem.Challenge.pw_ez0016_01, List.getD, List.getElem?_cons_succ, List.getElem?_cons_zero, Option.getD]
  k_steps
  all_goals (try (with_reducible rename Fr _ _ _ _ => FF))
  all_goals (try (with_reducible rename News _ _ _ _ => NN))
  all_goals exact hret _

theorem ta_elt {w : World} {mg mb : Str → Option Value} {dp un : Nat} {fr : Option (List Env)} {gd : Option (List Code)} {s : Shared} {E : Value → Shared → Prop}
    {h₀ : Heap} {L : Addr} {m : Str → Option Value} {news : List (Addr × Obj)} {Q : Value → Shared → Prop} {C : Addr} {m₃ : Str → Option Value} (c : Int) (tc : Tok) (hC : s.heap.Ns C m₃) (hx : m₃ (Str.ofString "code") = some (.int c tc))
    (X : (KH w.params).In h₀) (T : TopRead q lw mg mb h₀) (F : Fr h₀ L s.heap m) (N : News h₀ L s.heap ([])) (hd : dp + 100 < recursionLimit) (hu : un + 400 < cLine)
    (hret : ∀ tk', Q (.int c tc) { s with toks := tk' }) :
    wpAny (model PySem.Challenge.rw_ez0016_01.prog w) (Ar dp un fr gd) (eval (lcElt (lc8 w)) (compEnv (lcScope (lc8 w)) C (ta_E w L))) Q E s := by
  revert X; k_fill; intro X
  dsimp only [lc8, ifT, boV, cmL, lcIf, lcElt, lcScope, taS, taB, bodyOf, fdOf, t903, fnS, nth, pw, PySem.Challenge.pw_ez0016_01, List.getD, List.getElem?_cons_succ, List.getElem?_cons_zero, Option.getD]
  k_steps
  all_goals (try (with_reducible rename Fr _ _ _ _ => FF))
  all_goals (try (with_reducible rename News _ _ _ _ => NN))
  all_goals exact hret _

theorem lc8_is (w : World) : ∃ p1 p2 x1 tp pi pos, lc8 w = .ListComp (lcElt (lc8 w)) [⟨.Tuple [.Name (Str.ofString "code") p1, .Name (Str.ofString "data") p2] x1 tp, .Name (Str.ofString "steps") pi, [lcIf (lc8 w)], 0⟩] (lcScope (lc8 w)) pos := ⟨_, _, _, _, _, _, rfl⟩
theorem lc8_s {w : World} : (∀ y ∈ (lcScope (lc8 w)).names, y.2 ≠ .free) ∧ (∀ y ∈ (lcScope (lc8 w)).names, y.2 ≠ .cell) ∧ (∀ y ∈ (lcScope (lc8 w)).names, y.2 = .local → (lcScope (lc8 w)).names.lookup y.1 = some .local) := by
  dsimp only [lc8, ifT, boV, cmL, lcIf, lcElt, lcScope, taS, taB, bodyOf, fdOf, t903, fnS, nth, pw, PySem.Challenge.pw_ez0016_01, List.getD, List.getElem?_cons_succ, List.getElem?_cons_zero, Option.getD]
  decide
end Mine
namespace Mine
theorem ints_app {vs ws : List Value} {ns ms : List Int} (a : IntsAre vs ns) (b : IntsAre ws ms) : IntsAre (vs ++ ws) (ns ++ ms) := by
  induction a with
  | nil => exact b
  | cons n t _ ih => exact .cons n t ih
def codesHi (ks : List Int) (i : Nat) : List Int := (((spans ks).take i).map (·.1)).filter (fun c => decide (96 < c))
theorem codesHi_next {ks : List Int} {i : Nat} {e : Int × Int × Int} (h : (spans ks)[i]? = some e) : codesHi ks (i + 1) = codesHi ks i ++ (if 96 < e.1 then [e.1] else []) := by
  unfold codesHi
  rw [List.take_add_one, h]
  simp only [Option.toList_some, List.map_append, List.filter_append, List.map_cons, List.map_nil]
  by_cases hc : 96 < e.1 <;> simp [hc]
section
variable {w : World} {mg mb : Str → Option Value} {dp un : Nat} {fr : Option (List Env)} {gd : Option (List Code)} {s : Shared}
theorem codes_comp {h₀ : Heap} {L G : Addr} {m : Str → Option Value} {nw : List (Addr × Obj)} {its : Array Value} {n : Nat} {ks : List Int} {Q E : Value → Shared → Prop} (hk0 : ∀ x ∈ ks, 0 ≤ x) (hks : ks.length ≤ 4096) (hsz : its.size = (spans ks).length) (hit : ∀ k, ItemAt (fun D o => (D, o) ∈ nw) ks its k)
    (X : (KH w.params).In h₀) (T : TopRead q lw mg mb h₀) (F : Fr h₀ L s.heap m) (em : m (Str.ofString "steps") = some (.ref G)) (N : News h₀ L s.heap ((G, listOf its n) :: nw)) (hd : dp + 110 < recursionLimit) (hu : un + 420 < cLine)
    (hret : ∀ R ys nn h' tk', IntsAre ys (codesHi ks (spans ks).length) → Fr h₀ L h' m → News h₀ L h' ((R, listOf ys.toArray nn) :: (G, listOf its n) :: nw) → Q (.ref R) { s with heap := h', toks := tk' }) :
    wpAny (model RP w) (Ar dp un fr gd) (eval (lc8 w) (ta_E w L)) Q E s := by
  obtain ⟨p1, p2, x1, tp, pi, pos, he⟩ := lc8_is w
  rw [he]
  refine wpAny_ListComp lc8_s.1 (by rfl) lc8_s.2.2 ?_
  refine wpAny_Name (wpAny_loadName_local rfl rfl F.ns em ?_)
  have hG := N _ (.head _)
  have hlG : s.heap.IsList G its := ⟨_, hG.1, rfl, _, rfl⟩
  refine wpAny_pyIter_list hlG ?_
  generalize hH1 : s.heap.push { cls := .type "list_iterator", data := .fields #[.ref G, .int 0 0] } = H1
  refine wpAny_newObj_type (wpAny_newFunctionEnv lc8_s.2.1 (by intro y hy; simp at hy) (fun h₁ hns₁ hsb₁ => ?_) rfl)
  dsimp only at hns₁ hsb₁ ⊢
  generalize hH2 : H1.push { cls := .type "list", dict := none, data := .seq ([] : List Value).toArray } = H2 at hns₁ hsb₁ ⊢
  let I := s.heap.objs.size
  have hH1s : H1.objs.size = I + 1 := by rw [← hH1, Heap.size_push]
  have hH2s : H2.objs.size = I + 2 := by rw [← hH2, Heap.size_push, hH1s]
  have below : ∀ b, b < I → b ≠ I ∧ b ≠ H1.objs.size ∧ b ≠ H2.objs.size := fun b hb => ⟨Nat.ne_of_lt hb, by rw [hH1s]; exact Nat.ne_of_lt (Nat.lt_succ_of_lt hb), by rw [hH2s]; exact Nat.ne_of_lt (Nat.lt_succ_of_lt (Nat.lt_succ_of_lt hb))⟩
  have hID : I ≠ H1.objs.size := by rw [hH1s]; exact Nat.ne_of_lt (Nat.lt_succ_self _)
  have hIC : I ≠ H2.objs.size := by rw [hH2s]; exact Nat.ne_of_lt (Nat.lt_succ_of_lt (Nat.lt_succ_self _))
  have hDC : H1.objs.size ≠ H2.objs.size := by rw [hH1s, hH2s]; exact Nat.ne_of_lt (Nat.lt_succ_self _)
  have up₁ : ∀ b o, b ≠ H2.objs.size → H2.get? b = some o → h₁.get? b = some o := fun b o hb e => hsb₁.extBut b o hb (Heap.get?_push_of_some _ e)
  have old : Ext s.heap h₁ := fun b o e => up₁ b o (below b (Heap.lt_size e)).2.2 (hH2 ▸ Heap.get?_push_of_some _ (hH1 ▸ Heap.get?_push_of_some _ e))
  have hI1 : h₁.IsListIter I G 0 := ⟨_, up₁ _ _ hIC (hH2 ▸ Heap.get?_push_of_some _ (hH1 ▸ Heap.get?_push_size _ rfl)), rfl, rfl⟩
  have hD1 : h₁.PlainList H1.objs.size #[] := ⟨_, up₁ _ _ hDC (hH2 ▸ Heap.get?_push_size _ rfl)⟩
  have hspl : ((spans ks).length : Int) + 0 ≤ ks.length := sf_len hk0 (ks.length + 1) 0 (by omega) (by omega)
  have loop : ∀ s₃ : Shared, s₃ = { s with heap := h₁, toks := s.toks + ([] : List (Str × Value)).length } →
      codeAny (model RP w) (Ar dp un fr gd) (.compLoop (.ListComp (lcElt (lc8 w)) [⟨.Tuple [.Name (Str.ofString "code") p1, .Name (Str.ofString "data") p2] x1 tp, .Name (Str.ofString "steps") pi, [lcIf (lc8 w)], 0⟩] (lcScope (lc8 w)) pos) 0 (.ref I) (.ref H1.objs.size) (compEnv (lcScope (lc8 w)) H2.objs.size (ta_E w L)))
        (fun r s' => ∃ m', s'.heap.Ns H2.objs.size m' ∧ ∀ h', Heap.SameBut H2.objs.size s'.heap h' →
            match r with | .ok _ => Q (.ref H1.objs.size) { s' with heap := h' } | .error x => wpAny (model RP w) (Ar dp un fr gd) (passOn "comprehension.variables-let-go" x (compEnv (lcScope (lc8 w)) H2.objs.size (ta_E w L))) Q E { s' with heap := h' }) s₃ := by
    rintro s₃ rfl
    let J : Nat → Shared → Prop := fun k s' => ∃ i h tk ys m', k + i = its.size + 1 ∧ s' = { s with heap := h, toks := tk } ∧ i ≤ its.size ∧ h.IsListIter I G i ∧ h.PlainList H1.objs.size ys ∧ ys.size ≤ i ∧ h.Ns H2.objs.size m' ∧ IntsAre ys.toList (codesHi ks i) ∧ Ext s.heap h
    refine codeAny_loop rfl J (fun k s' hJ => ?_) (its.size + 1) ⟨0, h₁, _, #[], _, rfl, rfl, Nat.zero_le _, hI1, hD1, Nat.le_refl _, hns₁, IntsAre.nil, old⟩
    obtain ⟨i, h, tk, ys, m', hki, rfl, hi, hIi, hDi, hyi, hCi, hys, hE⟩ := hJ
    have hlGi : h.IsList G its := ⟨_, hE _ _ hG.1, rfl, _, rfl⟩
    show wpAny _ (Ar dp un fr gd) ((compTurn (.ListComp (lcElt (lc8 w)) [⟨.Tuple [.Name (Str.ofString "code") p1, .Name (Str.ofString "data") p2] x1 tp, .Name (Str.ofString "steps") pi, [lcIf (lc8 w)], 0⟩] (lcScope (lc8 w)) pos) 0 (.ref I) (.ref H1.objs.size) (compEnv (lcScope (lc8 w)) H2.objs.size (ta_E w L))).onRaise (fun x => do noteFrame x _; theTreesLotGoes x)) _ _ _
    refine wpAny_noted ?_
    rw [compTurn_list]
    refine wpAny_bind (wpAny_standAt (wpAny_bind ?_))
    cases hv : its[i]? with
    | none =>
      have hii : i = its.size := by
        rcases Nat.lt_or_ge i its.size with q | q
        · rw [Array.getElem?_eq_getElem q] at hv; cases hv
        · omega
      refine wpAny_pyNext_list_end rfl hIi hlGi hv fun h₂ he₂ => wpAny_pure ?_
      refine ⟨m', hCi.extBut he₂ (Ne.symm hIC), fun h₃ hs₃ => ?_⟩
      have keep : Ext s.heap h₃ := fun b o e => hs₃.extBut b o (below b (Heap.lt_size e)).2.2 (he₂ b o (below b (Heap.lt_size e)).1 (hE b o e))
      have hD₃ : h₃.PlainList H1.objs.size ys := (hDi.at fun o e => he₂ _ o (Ne.symm hID) e).at fun o e => hs₃.extBut _ o hDC e
      obtain ⟨nn, hDo⟩ := hD₃
      subst hii
      rw [hsz] at hys
      refine hret _ ys.toList nn h₃ tk hys (Fr.keeps F keep) fun p hp => ?_
      rcases List.mem_cons.mp hp with rfl | hp
      · have hf : ∀ a, I < a → s.heap.get? a = none := fun a ha => Heap.get?_none_of_le (Nat.le_of_lt ha)
        have hD0 : s.heap.get? H1.objs.size = none := hf _ (by rw [hH1s]; exact Nat.lt_succ_self _)
        refine ⟨by rw [hDo], fun q => ?_, ?_⟩
        · obtain ⟨oL, _, _, hL, _⟩ := F.ns
          rw [← q] at hL
          exact absurd (hL.symm.trans hD0) (by simp)
        · cases q : h₀.get? H1.objs.size with
          | none => rfl
          | some x => exact absurd ((F.keep _ _ q).symm.trans hD0) (by simp)
      · exact ⟨keep _ _ (N p hp).1, (N p hp).2⟩
    | some v =>
      have hil : i < its.size := (Array.getElem?_eq_some_iff.mp hv).1
      obtain ⟨e, hse⟩ : ∃ e, (spans ks)[i]? = some e := ⟨_, List.getElem?_eq_getElem (hsz ▸ hil)⟩
      obtain ⟨Tt, t, d, td, a1, a2, a3⟩ := hit i e hse
      rw [hv] at a1; cases a1
      have hT := N _ (.tail _ a2)
      refine wpAny_pyNext_list_item hIi hlGi hv fun h₂ hI₂ hs₂ => ?_
      have E₂ : Ext s.heap h₂ := fun b o e => hs₂.extBut b o (below b (Heap.lt_size e)).1 (hE b o e)
      refine wpAny_bind (wpAny_letOwnedTupleGo_listiter hI₂ ?_)
      have hTup : IsTup h₂ Tt #[.int e.1 t, .bytes d td] := ⟨_, E₂ _ _ hT.1, rfl, _, rfl⟩
      refine wpAny_bind (assign_Tuple_tuple rfl hTup rfl rfl fun h₅ he => ?_)
      have he' : Ext h₂ h₅ := fun b o e => he b o (Nat.ne_of_lt (Heap.lt_size e)) e
      have hC₂ := (hCi.sameBut hs₂ (Ne.symm hIC)).at' fun o e => he' _ o e
      refine assignInOrder_cons (wpAny_assign_Name (wpAny_storeName_local rfl hC₂ (fun h₆ hn₆ hs₆ => ?_) rfl))
      refine assignInOrder_cons (wpAny_assign_Name (wpAny_storeName_local rfl hn₆ (fun h₇ hn₇ hs₇ => ?_) rfl))
      refine assignInOrder_nil ?_
      have up₇ : ∀ b o, b ≠ H2.objs.size → h₂.get? b = some o → h₇.get? b = some o := fun b o hb e => hs₇.extBut b o hb (hs₆.extBut b o hb (he' b o e))
      have E₇ : Ext s.heap h₇ := fun b o e => up₇ b o (below b (Heap.lt_size e)).2.2 (E₂ b o e)
      have F₇ := Fr.keeps F E₇
      have hI₇ : h₇.IsListIter I G (i + 1) := hI₂.at fun o e => up₇ _ o hIC e
      have hD₇ : h₇.PlainList H1.objs.size ys := hDi.at fun o e => up₇ _ o hDC (hs₂.extBut _ o (Ne.symm hID) e)
      refine wpAny_bind (wpAny_tests_one (ta_test (news := []) (h₀ := h₀) (L := L) (m := m) e.1 t hn₇ rfl X T F₇ News.nil (by omega) (by omega) (fun tk₇ => ?_)))
      by_cases hc : 96 < e.1
      · rw [decide_eq_true hc, if_pos rfl]
        refine wpAny_bind (wpAny_bind (ta_elt (news := []) (h₀ := h₀) (L := L) (m := m) e.1 t hn₇ rfl X T F₇ News.nil (by omega) (by omega) (fun tk₈ => ?_)))
        refine wpAny_bind (wpAny_list_append_plain (hsz := Nat.le_trans (show ys.size ≤ 4096 by omega) (by decide)) hD₇ fun h₈ hD₈ hs₈ => wpAny_pure ?_)
        refine wpAny_pure ⟨rfl, k - 1, by omega, i + 1, h₈, tk₈, ys.push (.int e.1 t), _, by omega, rfl, hil, hI₇.extBut hs₈.extBut hID, hD₈, by rw [Array.size_push]; omega, hn₇.sameBut hs₈ (Ne.symm hDC), ?_, fun b o e => hs₈.extBut b o (below b (Heap.lt_size e)).2.1 (E₇ b o e)⟩
        rw [codesHi_next hse, if_pos hc, Array.toList_push]
        exact ints_app hys (.cons _ _ .nil)
      · rw [decide_eq_false hc, if_neg Bool.false_ne_true]
        refine wpAny_bind (wpAny_pure ?_)
        refine wpAny_pure ⟨rfl, k - 1, by omega, i + 1, h₇, tk₇, ys, _, by omega, rfl, hil, hI₇, hD₇, by omega, hn₇, ?_, E₇⟩
        rw [codesHi_next hse, if_neg hc, List.append_nil]
        exact hys
  exact codeAny_compStart_list (loop _ rfl) (wpAny_pyIter_listiter hI1 (loop _ rfl))
end
end Mine
namespace Mine
local macro_rules | `(tactic| walk_at "zz") => `(tactic| fail "zz")
local macro_rules | `(tactic| k_room) => `(tactic| ((try simp only [depth_under_make, depth_under_kw, depth_in1, depth_deeper, depth_caller]); (try dsimp only [Ar]); omega))
local macro_rules | `(tactic| k_units) => `(tactic| ((try simp only [units_in1, units_deeper, Around.mark_units, units_caller]); (try dsimp only [Ar]); omega))
local macro_rules | `(tactic| cell_enter) => `(tactic| (refine' enterK ?k1 ?k2 ?k6 ?k7 ?k8 ?k9 ?kB ?_ ?c2 ?c3 ?c4 ?c5; (case k1 => assumption); (case k2 => exact TopRead.nolimit (by assumption)); (case k6 => k_is); (case k7 => k_is); (case k8 => k_room); (case k9 => first | exact BindsTo.of_eq rfl | exact binds_K (by assumption) rfl (by k_is) rfl rfl rfl | fail "k_enter: no rule for these arguments"); (case c5 => decide); (case kB => exact locs rfl); (case c2 => exact rfl); (case c3 => exact rfl); (case c4 => exact rfl); k_whole; intro L' h' F' N' kSz; (try dsimp only); (try k_fold)))
local macro_rules | `(tactic| walk_at "call type:bytes") => `(tactic| (k_here; (with_reducible show wpAny _ _ (call (Value.type _) [Value.bytes _ _]) _ _ _); (with_unfolding_all refine call_bytes_bytes ?_)))
local macro_rules | `(tactic| walk_at "call ref") => `(tactic| (k_here; (with_reducible show wpAny _ _ (call (Value.ref 865) [Value.bytes _ _]) _ _ _); k_dflt ((with_reducible rename Fr _ _ _ _ => FF); (with_reducible rename News _ _ _ _ => NN); (with_reducible rename Frag.In _ _ => XX); (with_reducible rename TopRead _ _ _ _ _ => TT); refine' st_p ?kb ?ksz ?kX ?kT ?kd ?ku ?_; (case kb => assumption); (case ksz => assumption); (case kX => exact Frag.In.keeps XX FF.keep); (case kT => exact TopRead.keeps TT FF.keep); (case kd => k_room); (case ku => k_units); (intro T' G' its' n' h' tk' hk' hT' hTf' hG' hGf' hsz' hit'; (have F' := Fr.keeps FF hk'); obtain ⟨nw', N', hin', hsub'⟩ := st_news FF NN hk' hT' hTf' hG' hGf' hit'; clear FF NN hk' hT' hTf' hG' hGf' hit'; (try dsimp only at F' N' ⊢)))))

local macro_rules | `(tactic| walk_at "eval ListComp") => `(tactic| (k_here; (with_reducible show wpAny _ _ (eval (Expr.ListComp _ _ _ _) _) _ _ _); k_dflt ((with_reducible rename Fr _ _ _ _ => FF); (with_reducible rename News _ _ _ _ => NN); (refine' codes_comp ?ka ?kb ?kc ?ke (by assumption) (by assumption) FF rfl NN ?kd ?ku ?_; (case ka => assumption); (case kb => assumption); (case kc => assumption); (case ke => assumption); (case kd => k_room); (case ku => k_units); (intro R' ys' nn' h' tk' hys' F' N'; clear FF NN; (try dsimp only at F' N' ⊢))))))

theorem last_list {w : World} {A : Around} {E : Value → Shared → Prop} {s : Shared} {value slice : Expr} {l : Addr} {items : Array Value} {u : Tok} {v : Value} {Q : Value → Shared → Prop} (hl : s.heap.IsList l items) (h1 : 1 ≤ items.size) (hx : items[items.size - 1]? = some v) (h : Q v s)
    (hs : subscripted slice false (.ref l) (.int (-1) u) = operate [.ref l, .int (-1) u] (getItem (.ref l) (.int (-1) u))) :
    wpAny (model RP w) A (subscriptTail value slice (.ref l) (.int (-1) u)) Q E s :=
  kde_neg (vs := items.toList) (by simpa using hl) (by decide) (by decide) (j := items.size - 1) (by unfold seqIndex?; simp; omega) (by simpa using hx) h hs
local macro_rules | `(tactic| walk_at "subscriptTail") => `(tactic| (k_here; (with_reducible show wpAny _ _ (subscriptTail _ _ (Value.ref _) (Value.int (-1) _)) _ _ _); k_dflt ((with_reducible rename News _ _ _ _ => NN); refine' last_list ?hl ?h1 ?hx ?_ ?hs; (case hl => exact ⟨_, (NN _ (.head _)).1, rfl, _, rfl⟩); (case h1 => assumption); (case hx => assumption); (case hs => with_unfolding_all rfl))))

theorem ta_0 {w : World} {mg mb : Str → Option Value} {dp un : Nat} {fr : Option (List Env)} {gd : Option (List Code)} {s : Shared} {E : Value → Shared → Prop}
    {h₀ : Heap} {L : Addr} {m : Str → Option Value} {news : List (Addr × Obj)} {Q : Flow → Shared → Prop} (b : Array UInt8) (ks : List Int) (hb : KBw.bInts b = ks) (tb : Tok) (hsz : ks.length ≤ 4096)
    (X : (KH w.params).In h₀) (T : TopRead q lw mg mb h₀) (F : Fr h₀ L s.heap (fun y => if y = Str.ofString "octets" then some (.bytes b tb) else m y)) (N : News h₀ L s.heap news) (hd : dp + 100 < recursionLimit) (hu : un + 400 < cLine)
    (hret : ∀ G its n nw h' tk' m', Fr h₀ L h' m' → News h₀ L h' ((G, listOf its n) :: nw) → its.size = (spans ks).length → (∀ k, ItemAt (fun D o => (D, o) ∈ nw) ks its k) → m' (Str.ofString "steps") = some (.ref G) → m' (Str.ofString "whole") = some (.bool (Whole ks)) → Q .next { s with heap := h', toks := tk' }) :
    wpAny (model PySem.Challenge.rw_ez0016_01.prog w) (Ar dp un fr gd) (execs [taS w 0] (ta_E w L)) Q E s := by
  revert X; k_fill; intro X
  dsimp only [taS, taB, bodyOf, fdOf, t903, fnS, nth, pw, PySem.Challenge.pw_ez0016_01, List.getD, List.getElem?_cons_succ, List.getElem?_cons_zero, Option.getD]
  k_steps
  all_goals (try (with_reducible rename Fr _ _ _ _ => FF))
  all_goals (try (with_reducible rename News _ _ _ _ => NN))
  all_goals exact hret _ _ _ _ _ _ _ FF (fun p hp => NN p (.tail _ hp)) (by assumption) (by assumption) rfl rfl

theorem ta_1f {w : World} {mg mb : Str → Option Value} {dp un : Nat} {fr : Option (List Env)} {gd : Option (List Code)} {s : Shared} {E : Value → Shared → Prop}
    {h₀ : Heap} {L : Addr} {m : Str → Option Value} {news : List (Addr × Obj)} {Q : Flow → Shared → Prop} (G : Addr) (its : Array Value) (n : Nat) (ks : List Int) (hks : ks.length ≤ 4096) (hk0 : ∀ x ∈ ks, 0 ≤ x) (hsz : its.size = (spans ks).length) (hit : ∀ k, ItemAt (fun D o => (D, o) ∈ news) ks its k) (wh : Bool) (hw : wh = false)
    (X : (KH w.params).In h₀) (T : TopRead q lw mg mb h₀) (F : Fr h₀ L s.heap (fun y => if y = Str.ofString "steps" then some (.ref G) else if y = Str.ofString "whole" then some (.bool wh) else m y)) (N : News h₀ L s.heap ((G, listOf its n) :: news)) (hd : dp + 120 < recursionLimit) (hu : un + 440 < cLine)
    (hnone : (wh = false ∨ codesHi ks (spans ks).length ≠ []) → ∀ h' tk' m', Fr h₀ L h' m' → Q (.ret .none) { s with heap := h', toks := tk' })
    (hnext : wh = true → codesHi ks (spans ks).length = [] → ∀ h' tk', Fr h₀ L h' (fun y => if y = Str.ofString "steps" then some (.ref G) else if y = Str.ofString "whole" then some (.bool wh) else m y) → News h₀ L h' ((G, listOf its n) :: news) → Q .next { s with heap := h', toks := tk' }) :
    wpAny (model PySem.Challenge.rw_ez0016_01.prog w) (Ar dp un fr gd) (exec (taS w 1) (ta_E w L)) Q E s := by
  revert X; k_fill; intro X
  subst hw
  dsimp only [taS, taB, bodyOf, fdOf, t903, fnS, nth, pw, PySem.Challenge.pw_ez0016_01, List.getD, List.getElem?_cons_succ, List.getElem?_cons_zero, Option.getD]
  k_steps
  all_goals (try (with_reducible rename Fr _ _ _ _ => FF))
  all_goals (try (with_reducible rename News _ _ _ _ => NN))
  all_goals first
    | (exact hnone (.inl rfl) _ _ _ FF)
    | (exact hnone (.inr (of_decide_eq_false (by assumption))) _ _ _ FF)
    | (exact hnext rfl (of_decide_eq_true (by assumption)) _ _ FF (fun p hp => NN p (.tail _ (.tail _ hp))))

theorem ta_1t {w : World} {mg mb : Str → Option Value} {dp un : Nat} {fr : Option (List Env)} {gd : Option (List Code)} {s : Shared} {E : Value → Shared → Prop}
    {h₀ : Heap} {L : Addr} {m : Str → Option Value} {news : List (Addr × Obj)} {Q : Flow → Shared → Prop} (G : Addr) (its : Array Value) (n : Nat) (ks : List Int) (hks : ks.length ≤ 4096) (hk0 : ∀ x ∈ ks, 0 ≤ x) (hsz : its.size = (spans ks).length) (hit : ∀ k, ItemAt (fun D o => (D, o) ∈ news) ks its k) (wh : Bool) (hw : wh = true)
    (X : (KH w.params).In h₀) (T : TopRead q lw mg mb h₀) (F : Fr h₀ L s.heap (fun y => if y = Str.ofString "steps" then some (.ref G) else if y = Str.ofString "whole" then some (.bool wh) else m y)) (N : News h₀ L s.heap ((G, listOf its n) :: news)) (hd : dp + 120 < recursionLimit) (hu : un + 440 < cLine)
    (hnone : (wh = false ∨ codesHi ks (spans ks).length ≠ []) → ∀ h' tk' m', Fr h₀ L h' m' → Q (.ret .none) { s with heap := h', toks := tk' })
    (hnext : wh = true → codesHi ks (spans ks).length = [] → ∀ h' tk', Fr h₀ L h' (fun y => if y = Str.ofString "steps" then some (.ref G) else if y = Str.ofString "whole" then some (.bool wh) else m y) → News h₀ L h' ((G, listOf its n) :: news) → Q .next { s with heap := h', toks := tk' }) :
    wpAny (model PySem.Challenge.rw_ez0016_01.prog w) (Ar dp un fr gd) (exec (taS w 1) (ta_E w L)) Q E s := by
  revert X; k_fill; intro X
  subst hw
  dsimp only [taS, taB, bodyOf, fdOf, t903, fnS, nth, pw, PySem.Challenge.pw_ez0016_01, List.getD, List.getElem?_cons_succ, List.getElem?_cons_zero, Option.getD]
  k_steps
  all_goals (try (with_reducible rename Fr _ _ _ _ => FF))
  all_goals (try (with_reducible rename News _ _ _ _ => NN))
  all_goals first
    | (exact hnone (.inl rfl) _ _ _ FF)
    | (exact hnone (.inr (of_decide_eq_false (by assumption))) _ _ _ FF)
    | (exact hnext rfl (of_decide_eq_true (by assumption)) _ _ FF (fun p hp => NN p (.tail _ (.tail _ hp))))

theorem ta_2 {w : World} {mg mb : Str → Option Value} {dp un : Nat} {fr : Option (List Env)} {gd : Option (List Code)} {s : Shared} {E : Value → Shared → Prop}
    {h₀ : Heap} {L : Addr} {m : Str → Option Value} {news : List (Addr × Obj)} {Q : Flow → Shared → Prop} (G : Addr) (n : Nat)
    (X : (KH w.params).In h₀) (T : TopRead q lw mg mb h₀) (F : Fr h₀ L s.heap (fun y => if y = Str.ofString "steps" then some (.ref G) else m y)) (N : News h₀ L s.heap ((G, listOf #[] n) :: news)) (hd : dp + 100 < recursionLimit) (hu : un + 400 < cLine)
    (hret : ∀ t h' tk', Ext h₀ h' → Q (.ret (.bytes #[] t)) { s with heap := h', toks := tk' }) :
    wpAny (model PySem.Challenge.rw_ez0016_01.prog w) (Ar dp un fr gd) (exec (taS w 2) (ta_E w L)) Q E s := by
  revert X; k_fill; intro X
  dsimp only [taS, taB, bodyOf, fdOf, t903, fnS, nth, pw, PySem.Challenge.pw_ez0016_01, List.getD, List.getElem?_cons_succ, List.getElem?_cons_zero, Option.getD]
  k_steps
  all_goals (try (with_reducible rename Fr _ _ _ _ => FF))
  all_goals (try (with_reducible rename News _ _ _ _ => NN))
  all_goals exact hret _ _ _ FF.keep
local macro_rules | `(tactic| walk_at "subscriptTail") => `(tactic| (k_here; (with_reducible show wpAny _ _ (subscriptTail _ _ (Value.ref _) (Value.int 1 _)) _ _ _); k_dflt ((with_reducible rename News _ _ _ _ => NN); (have hN := NN _ (.tail _ (.head _))); refine' item_tupleT (l := [_, _]) ⟨_, hN.1, rfl, _, rfl⟩ ?a ?b (j := 1) ?c ?d ?_ ?hs; (case a => decide); (case b => decide); (case c => rfl); (case d => rfl); (case hs => with_unfolding_all rfl); clear hN)))

theorem ta_3 {w : World} {mg mb : Str → Option Value} {dp un : Nat} {fr : Option (List Env)} {gd : Option (List Code)} {s : Shared} {E : Value → Shared → Prop}
    {h₀ : Heap} {L : Addr} {m : Str → Option Value} {news : List (Addr × Obj)} {Q : Flow → Shared → Prop} (G D : Addr) (its : Array Value) (n : Nat) (c : Int) (t td : Tok) (d : Array UInt8) (h1 : 1 ≤ its.size) (h2 : its.size ≤ 4096) (h3 : its[its.size - 1]? = some (.ref D))
    (X : (KH w.params).In h₀) (T : TopRead q lw mg mb h₀) (F : Fr h₀ L s.heap (fun y => if y = Str.ofString "steps" then some (.ref G) else m y)) (N : News h₀ L s.heap ((G, listOf its n) :: (D, tupO [.int c t, .bytes d td]) :: news)) (hd : dp + 100 < recursionLimit) (hu : un + 400 < cLine)
    (hret : ∀ t h' tk', Ext h₀ h' → Q (.ret (.bytes d t)) { s with heap := h', toks := tk' }) :
    wpAny (model PySem.Challenge.rw_ez0016_01.prog w) (Ar dp un fr gd) (exec (taS w 2) (ta_E w L)) Q E s := by
  revert X; k_fill; intro X
  dsimp only [taS, taB, bodyOf, fdOf, t903, fnS, nth, pw, PySem.Challenge.pw_ez0016_01, List.getD, List.getElem?_cons_succ, List.getElem?_cons_zero, Option.getD]
  k_steps
  all_goals (try (with_reducible rename Fr _ _ _ _ => FF))
  all_goals (try (with_reducible rename News _ _ _ _ => NN))
  all_goals first | exact hret _ _ _ FF.keep | (exfalso; simp_all)

theorem any_codes (ks : List Int) : (spans ks).any (fun e => decide (96 < e.1)) = true ↔ codesHi ks (spans ks).length ≠ [] := by
  unfold codesHi
  rw [List.take_length, List.any_eq_true]
  constructor
  · rintro ⟨e, he, h⟩ q
    have : e.1 ∈ List.filter (fun c => decide (96 < c)) (List.map (·.1) (spans ks)) := List.mem_filter.mpr ⟨List.mem_map_of_mem he, h⟩
    rw [q] at this; cases this
  · intro h
    obtain ⟨c, hc⟩ := List.exists_mem_of_ne_nil _ h
    obtain ⟨h1, h2⟩ := List.mem_filter.mp hc
    obtain ⟨e, he, rfl⟩ := List.mem_map.mp h1
    exact ⟨e, he, h2⟩
theorem lp_last (ks : List Int) : lp ks = if codesHi ks (spans ks).length ≠ [] then none else if Whole ks = true then some (match (spans ks)[(spans ks).length - 1]? with | some e => cut ks (e.2.1 + hdr e.1) e.2.2 | none => []) else none := by
  unfold lp
  by_cases ha : (spans ks).any (fun e => decide (96 < e.1)) = true
  · rw [if_pos ha, if_pos ((any_codes ks).mp ha)]
  · rw [if_neg ha, if_neg (fun h => ha ((any_codes ks).mpr h))]
    have key : ((spans ks).foldl (lpStep ks) ([], 0)).2 = upF 0 (spans ks) (spans ks).length ∧ ((spans ks).foldl (lpStep ks) ([], 0)).1 = (match (spans ks)[(spans ks).length - 1]? with | some e => cut ks (e.2.1 + hdr e.1) e.2.2 | none => []) := by
      generalize spans ks = l
      rcases List.eq_nil_or_concat l with rfl | ⟨l', e, rfl⟩
      · exact ⟨rfl, rfl⟩
      · rw [List.concat_eq_append, List.foldl_append, List.length_append, List.length_singleton]
        simp [upF, lpStep]
    unfold Whole
    rw [key.1, key.2]
    by_cases hw : upF 0 (spans ks) (spans ks).length = ks.length
    · rw [if_pos hw, if_pos (decide_eq_true hw)]
    · rw [if_neg hw, if_neg (by simpa using hw)]
theorem taB_is (w : World) : bodyOf (fdOf (t903 w.params)) = [taS w 0] ++ (taS w 1 :: taS w 2 :: []) := rfl
theorem ta_b {w : World} {mg mb : Str → Option Value} {dp un : Nat} {fr : Option (List Env)} {gd : Option (List Code)} {s : Shared} {E : Value → Shared → Prop} {h₀ : Heap} {L : Addr} {m : Str → Option Value} {news : List (Addr × Obj)} {Q : Flow → Shared → Prop} (b : Array UInt8) (ks : List Int) (hb : KBw.bInts b = ks) (tb : Tok) (hsz : ks.length ≤ 4096)
    (X : (KH w.params).In h₀) (T : TopRead q lw mg mb h₀) (F : Fr h₀ L s.heap (fun y => if y = Str.ofString "octets" then some (.bytes b tb) else m y)) (N : News h₀ L s.heap news) (hd : dp + 120 < recursionLimit) (hu : un + 440 < cLine)
    (hnone : lp ks = none → ∀ h' tk', Ext h₀ h' → Q (.ret .none) { s with heap := h', toks := tk' })
    (hsome : ∀ d t, lp ks = some (KBw.bInts d) → (KBw.bInts d).length ≤ ks.length → ∀ h' tk', Ext h₀ h' → Q (.ret (.bytes d t)) { s with heap := h', toks := tk' }) :
    wpAny (model RP w) (Ar dp un fr gd) (execs (bodyOf (fdOf (t903 w.params))) (ta_E w L)) Q E s := by
  have hk0 : ∀ x ∈ ks, 0 ≤ x := hb ▸ fun x hx => (bInts_range x hx).1
  rw [taB_is]
  refine wp_app _ ?_
  refine ta_0 b ks hb tb hsz X T F N (by omega) (by omega) (fun G its n nw h₁ tk₁ m₁ F₁ N₁ hs hit es ew => ?_)
  refine wpAny_execs_cons ?_
  have fin : ∀ {h₂ : Heap} {tk₂ : Nat} {m₂ : Str → Option Value}, Whole ks = true → codesHi ks (spans ks).length = [] → Fr h₀ L h₂ m₂ → m₂ (Str.ofString "steps") = some (.ref G) → News h₀ L h₂ ((G, listOf its n) :: nw) →
      wpAny (model RP w) (Ar dp un fr gd) (execs [taS w 2] (ta_E w L)) Q E { s with heap := h₂, toks := tk₂ } := fun hw hc F₂ e₂ N₂ => by
    refine wpAny_execs_cons ?_
    have hl := lp_last ks
    rw [if_neg (fun h => h hc), if_pos hw] at hl
    have hspl : ((spans ks).length : Int) + 0 ≤ ks.length := sf_len hk0 (ks.length + 1) 0 (by omega) (by omega)
    rcases Nat.eq_zero_or_pos its.size with h0 | h1
    · have hz : (spans ks)[(spans ks).length - 1]? = none := List.getElem?_eq_none (by omega)
      rw [hz] at hl
      have : its = #[] := Array.eq_empty_of_size_eq_zero h0
      subst this
      refine ta_2 (news := nw) G n X T (fr1 F₂ e₂) N₂ (by omega) (by omega) (fun t h₃ tk₃ hE => ?_)
      exact hsome #[] t hl (Nat.zero_le _) _ _ hE
    · obtain ⟨e, he⟩ : ∃ e, (spans ks)[its.size - 1]? = some e := ⟨_, List.getElem?_eq_getElem (by omega)⟩
      obtain ⟨D, t, d, td, a1, a2, a3⟩ := hit _ e he
      rw [← hs, he] at hl
      refine ta_3 (news := nw) G D its n e.1 t td d h1 (by omega) a1 X T (fr1 F₂ e₂) (fun p hp => ?_) (by omega) (by omega) (fun t h₃ tk₃ hE => ?_)
      · rcases List.mem_cons.mp hp with rfl | hp
        · exact N₂ _ (.head _)
        rcases List.mem_cons.mp hp with rfl | hp
        · exact N₂ _ (.tail _ a2)
        exact N₂ _ (.tail _ hp)
      · exact hsome d t (by rw [hl, a3]) (by rw [a3]; exact cut_len ..) _ _ hE
  by_cases hw : Whole ks = true
  · refine ta_1t G its n ks hsz hk0 hs hit (Whole ks) hw X T (fr2 F₁ es ew) N₁ (by omega) (by omega) (fun hc h₂ tk₂ m₂ F₂ => ?_) (fun _ hc h₂ tk₂ F₂ N₂ => ?_)
    · have hc' : codesHi ks (spans ks).length ≠ [] := hc.resolve_left (by rw [hw]; decide)
      exact hnone (by rw [lp_last, if_pos hc']) _ _ F₂.keep
    · exact fin hw hc F₂ (by simp) N₂
  · have hw' : Whole ks = false := by simpa using hw
    refine ta_1f G its n ks hsz hk0 hs hit (Whole ks) hw' X T (fr2 F₁ es ew) N₁ (by omega) (by omega) (fun hc h₂ tk₂ m₂ F₂ => ?_) (fun h => absurd h hw)
    refine hnone ?_ _ _ F₂.keep
    rw [lp_last, if_neg hw, ite_self]

theorem ta_c {w : World} {mg mb : Str → Option Value} {dp un : Nat} {fr : Option (List Env)} {gd : Option (List Code)} {s : Shared} {args : Args} {R : Result → Shared → Prop} (b : Array UInt8) (ks : List Int) (hb : KBw.bInts b = ks) (tb : Tok) (hsz : ks.length ≤ 4096)
    (hbd : BindsTo s (fdOf (t903 w.params)) args [(Str.ofString "octets", .bytes b tb)])
    (X : (KH w.params).In s.heap) (T : TopRead q lw mg mb s.heap) (hd : dp + 130 < recursionLimit) (hu : un + 460 < cLine)
    (hnone : lp ks = none → ∀ h' tk', Ext s.heap h' → R (.ok (.ret .none)) { s with heap := h', toks := tk' })
    (hsome : ∀ d t, lp ks = some (KBw.bInts d) → (KBw.bInts d).length ≤ ks.length → ∀ h' tk', Ext s.heap h' → R (.ok (.ret (.bytes d t))) { s with heap := h', toks := tk' }) :
    codeAny (model RP w) (Ar dp un fr gd) (.call (.ref 903) args) R s := by
  refine enterK (K := KH w.params) (f := 903) X T.nolimit (by rfl) (by rfl) (by show dp < recursionLimit; omega) hbd (fun x hx => ?_) (fun L' h₁ F N hL => ?_) (by rfl) (by rfl) (by rfl) ?_
  · simp only [List.mem_cons, List.not_mem_nil, or_false] at hx
    rcases hx with rfl <;> rfl
  · refine ta_b (dp := dp + 1) (un := un + 3) (fr := fr.map (ta_E w L' :: ·)) (gd := gd) (h₀ := s.heap) (L := L') (m := fun _ => none) (news := []) b ks hb tb hsz X T (fr_ext F fun y => ?_) N (by omega) (by omega) hnone hsome
    show List.lookup y [(Str.ofString "octets", (.bytes b tb : Value))] = _
    by_cases hoctets : y = Str.ofString "octets"
    · subst hoctets; rfl
    have eoctets : (y == Str.ofString "octets") = false := by simp [hoctets]
    rw [List.lookup_cons, eoctets, if_neg hoctets]; rfl
  · intro x hx
    revert x
    dsimp only [bodyOf, fdOf, t903, fnS, nth, pw, PySem.Challenge.pw_ez0016_01, List.getD, List.getElem?_cons_succ, List.getElem?_cons_zero, Option.getD]
    decide

theorem ta_p {w : World} {mg mb : Str → Option Value} {dp un : Nat} {fr : Option (List Env)} {gd : Option (List Code)} {s : Shared} {Q E : Value → Shared → Prop} (b : Array UInt8) (ks : List Int) (hb : KBw.bInts b = ks) (tb : Tok) (hsz : ks.length ≤ 4096)
    (X : (KH w.params).In s.heap) (T : TopRead q lw mg mb s.heap) (hd : dp + 130 < recursionLimit) (hu : un + 460 < cLine)
    (hnone : lp ks = none → ∀ h' tk', Ext s.heap h' → Q .none { s with heap := h', toks := tk' })
    (hsome : ∀ d t, lp ks = some (KBw.bInts d) → (KBw.bInts d).length ≤ ks.length → ∀ h' tk', Ext s.heap h' → Q (.bytes d t) { s with heap := h', toks := tk' }) :
    wpAny (model RP w) (Ar dp un fr gd) (call (.ref 903) [.bytes b tb]) Q E s :=
  wpAny_call (ta_c b ks hb tb hsz (BindsTo.of_eq rfl) X T hd hu hnone hsome)
end Mine
namespace Mine
theorem knB_is (w : World) : ∃ pos, knB w = [knS w 0, knS w 1] ++ [.For (forTgt (knS w 2)) (forIter (knS w 2)) (forBody (knS w 2)) [] pos, knS w 3] := ⟨_, rfl⟩
theorem fr3 {h₀ h : Heap} {L : Addr} {m' : Str → Option Value} {a b c : Str} {va vb vc : Value} (F : Fr h₀ L h m') (ea : m' a = some va) (eb : m' b = some vb) (ec : m' c = some vc) :
    Fr h₀ L h (fun y => if y = a then some va else if y = b then some vb else if y = c then some vc else m' y) := fr_ext F fun y => by
  by_cases h1 : y = a
  · subst h1; simp [ea]
  by_cases h2 : y = b
  · subst h2; simp [eb, h1]
  by_cases h3 : y = c
  · subst h3; simp [ec, h1, h2]
  simp [h1, h2, h3]
section
variable {w : World} {mg mb : Str → Option Value} {dp un : Nat} {fr : Option (List Env)} {gd : Option (List Code)} {s : Shared}
theorem kn_body {h₀ : Heap} {L : Addr} {m : Str → Option Value} {news : List (Addr × Obj)} {Q : Flow → Shared → Prop} {E : Value → Shared → Prop} {b : Array UInt8} {ks : List Int} (hb : KBw.bInts b = ks) {tb : Tok} (hsz : ks.length ≤ 4096) (acc : Bool)
    (X : (KH w.params).In h₀) (T : TopRead q lw mg mb h₀) (F : Fr h₀ L s.heap (fun y => if y = Str.ofString "octets" then some (.bytes b tb) else if y = Str.ofString "accurate" then some (.bool acc) else m y)) (N : News h₀ L s.heap news) (hd : dp + 80 < recursionLimit) (hu : un + 320 < cLine)
    (hret : ∀ t h' tk' g', Ext h₀ h' → (AllBare s.gens → AllBare g') → Q (.ret (.int (cnt acc ks) t)) { s with heap := h', toks := tk', gens := g' }) :
    wpAny (model RP w) (Ar dp un fr gd) (execs (knB w) (kn_E w L)) Q E s := by
  obtain ⟨pos, hB⟩ := knB_is w
  rw [hB]
  refine wp_app _ ?_
  refine kn_init b tb acc X T F N (by omega) (by omega) (fun h₁ tk₁ t₁ m₁ F₁ eo ea ew eh => ?_)
  refine wpAny_execs_cons (wpAny_For (kn_iter (news := []) b ks hb tb hsz acc X T (fr1 F₁ eo) News.nil (by omega) (by omega) (fun G its n nw h₂ tk₂ F₂ N₂ hs hit => ?_)) (by intro _; rfl))
  have F₂ : Fr h₀ L h₂ m₁ := fr_ext F₂ fun y => by
    by_cases h1 : y = Str.ofString "octets"
    · subst h1; rw [if_pos rfl, eo]
    · rw [if_neg h1]
  have hG := N₂ _ (.head _)
  refine loop_seq (b := true) (news := nw) (env := kn_E w L) (fun j m' => ∃ c l tc al, (c, l) = ((spans ks).take j).foldl (cntStep acc) (0, -1) ∧ m' (Str.ofString "accurate") = some (.bool acc) ∧ m' (Str.ofString "whole") = some (.int c tc) ∧ m' (Str.ofString "ahead") = some al ∧ ((al = .none ∧ l = -1) ∨ ∃ t, al = .int l t))
    rfl F₂ (fun p hp => N₂ p (.tail _ hp)) (show SeqAt true h₂ G its from ⟨_, hG.1, rfl, _, rfl⟩) hG.2.1 ⟨0, -1, t₁, .none, rfl, ea, ew, eh, .inl ⟨rfl, rfl⟩⟩ (fun j v m' h tk g news₁ E' hv hj hb' F' N' hsub _ => ?_) (fun m' h tk g hj hb' F' _ => ?_)
  · obtain ⟨c, l, tc, al, hcl, a1, a2, a3, hal⟩ := hj
    have hjl : j < (spans ks).length := by
      rw [← hs]
      exact (Array.getElem?_eq_some_iff.mp hv).1
    obtain ⟨e, he⟩ : ∃ e, (spans ks)[j]? = some e := ⟨_, List.getElem?_eq_getElem hjl⟩
    obtain ⟨D, t, d, td, b1, b2, b3⟩ := hit j e he
    rw [hv] at b1; cases b1
    have N'' : News h₀ L h ((D, tupO [.int e.1 t, .bytes d td]) :: news₁) := fun p hp => by
      rcases List.mem_cons.mp hp with rfl | hp
      · exact N' _ (hsub _ b2)
      · exact N' p hp
    have step : ∀ {c' : Int}, (c', e.1) = cntStep acc (c, l) (e.1, 0, 0) → (c', e.1) = ((spans ks).take (j + 1)).foldl (cntStep acc) (0, -1) := fun {c'} h' => by
      rw [List.take_add_one, he, List.foldl_append, ← hcl]
      exact h'
    rcases hal with ⟨rfl, rfl⟩ | ⟨tl, rfl⟩
    · exact kn_turnN (news := []) acc c e.1 tc t td d D X T (fr3 F' a1 a2 a3) N'' (by omega) (by omega) (fun m'' c' tc' t1' hc' z1 z2 z3 => ⟨c', e.1, tc', _, step hc', z1, z2, z3, .inr ⟨_, rfl⟩⟩)
    · exact kn_turnI (news := []) acc c e.1 tc t td d D l tl X T (fr3 F' a1 a2 a3) N'' (by omega) (by omega) (fun m'' c' tc' t1' hc' z1 z2 z3 => ⟨c', e.1, tc', _, step hc', z1, z2, z3, .inr ⟨_, rfl⟩⟩)
  · obtain ⟨c, l, tc, al, hcl, a1, a2, a3, hal⟩ := hj
    rw [hs, List.take_length] at hcl
    have hc : c = cnt acc ks := by unfold cnt; rw [← hcl]
    subst hc
    refine wpAny_execs_cons (kn_ret (news := []) (cnt acc ks) tc X T (fr1 F' a2) News.nil (by omega) (by omega) (fun h₃ tk₃ F₃ => ?_))
    exact hret tc h₃ tk₃ g F₃.keep hb'
theorem kn_p {b : Array UInt8} {ks : List Int} {Q E : Value → Shared → Prop} (hb : KBw.bInts b = ks) {tb : Tok} (hsz : ks.length ≤ 4096) (acc : Bool)
    (X : (KH w.params).In s.heap) (T : TopRead q lw mg mb s.heap) (hd : dp + 90 < recursionLimit) (hu : un + 340 < cLine)
    (hret : ∀ t h' tk' g', Ext s.heap h' → (AllBare s.gens → AllBare g') → Q (.int (cnt acc ks) t) { s with heap := h', toks := tk', gens := g' }) :
    wpAny (model RP w) (Ar dp un fr gd) (call (.ref 872) [.bytes b tb, .bool acc]) Q E s := by
  refine wpAny_call ?_
  refine enterK (K := KH w.params) (f := 872) X T.nolimit (by rfl) (by rfl) (by show dp < recursionLimit; omega) (binds := [(Str.ofString "octets", .bytes b tb), (Str.ofString "accurate", .bool acc)]) (BindsTo.of_eq (by rfl)) (fun x hx => ?_) (fun L' h₁ F N hL => ?_) (by rfl) (by rfl) (by rfl) ?_
  · simp only [List.mem_cons, List.not_mem_nil, or_false] at hx
    rcases hx with rfl | rfl <;> rfl
  · refine kn_body (dp := dp + 1) (un := un + 3) (fr := fr.map (kn_E w L' :: ·)) (m := fun _ => none) (news := []) hb (tb := tb) hsz acc X T (fr_ext F fun y => ?_) N (by omega) (by omega) hret
    show List.lookup y [(Str.ofString "accurate", Value.bool acc), (Str.ofString "octets", Value.bytes b tb)] = _
    by_cases h1 : y = Str.ofString "octets"
    · subst h1; rfl
    by_cases h2 : y = Str.ofString "accurate"
    · subst h2; rfl
    have e1 : (y == Str.ofString "octets") = false := by simp [h1]
    have e2 : (y == Str.ofString "accurate") = false := by simp [h2]
    rw [List.lookup_cons, List.lookup_cons, e1, e2, if_neg h1, if_neg h2]; rfl
  · intro x hx
    revert x
    dsimp only [fdOf, t872, fnS, nth, pw, PySem.Challenge.pw_ez0016_01]
    decide
end
end Mine
namespace Mine
local macro_rules | `(tactic| k_room) => `(tactic| ((try simp only [depth_under_make, depth_under_kw, depth_in1, depth_deeper, depth_caller]); (try dsimp only [Ar]); omega))
local macro_rules | `(tactic| k_units) => `(tactic| ((try simp only [units_in1, units_deeper, Around.mark_units, units_caller]); (try dsimp only [Ar]); omega))
local macro_rules | `(tactic| cell_enter) => `(tactic| (refine' enterK ?k1 ?k2 ?k6 ?k7 ?k8 ?k9 ?kB ?_ ?c2 ?c3 ?c4 ?c5; (case k1 => assumption); (case k2 => exact TopRead.nolimit (by assumption)); (case k6 => k_is); (case k7 => k_is); (case k8 => k_room); (case k9 => first | exact BindsTo.of_eq rfl | exact binds_K (by assumption) rfl (by k_is) rfl rfl rfl | fail "k_enter: no rule for these arguments"); (case c5 => decide); (case kB => exact locs rfl); (case c2 => exact rfl); (case c3 => exact rfl); (case c4 => exact rfl); k_whole; intro L' h' F' N' kSz; (try dsimp only); (try k_fold)))
local macro_rules | `(tactic| walk_at "call type:bytes") => `(tactic| (k_here; (with_reducible show wpAny _ _ (call (Value.type _) [Value.bytes _ _]) _ _ _); (with_unfolding_all refine call_bytes_bytes ?_)))
local macro_rules | `(tactic| walk_at "call ref") => `(tactic| (k_here; (with_reducible show wpAny _ _ (call (Value.ref 872) [Value.bytes _ _, Value.bool _]) _ _ _); k_dflt ((with_reducible rename Fr _ _ _ _ => FF); (with_reducible rename News _ _ _ _ => NN); (with_reducible rename Frag.In _ _ => XX); (with_reducible rename TopRead _ _ _ _ _ => TT); (with_reducible rename (AllBare _ → AllBare _) => BB); refine' kn_p ?kb ?ksz _ ?kX ?kT ?kd ?ku ?_; (case kb => assumption); (case ksz => assumption); (case kX => exact Frag.In.keeps XX FF.keep); (case kT => exact TopRead.keeps TT FF.keep); (case kd => k_room); (case ku => k_units); all_goals first | (intro t h' tk' g' hk' hg'; (have F' := Fr.keeps FF hk'); (have N' := News.keeps NN hk'); (have BB' := fun z => hg' (BB z)); clear FF NN hk' BB hg'; (try dsimp only at F' N' BB' ⊢)))))

theorem list_keeps {h h' : Heap} {a : Addr} {its : Array Value} (x : h.IsList a its) (k : ∀ b o, h.get? b = some o → h'.get? b = some o) : h'.IsList a its := let ⟨o, e, r⟩ := x; ⟨o, k _ _ e, r⟩
local macro_rules | `(tactic| walk_at "subscriptTail") => `(tactic| (k_here; (with_reducible show wpAny _ _ (subscriptTail _ _ (Value.ref _) (Value.int (-1) _)) _ _ _); k_dflt ((with_reducible rename Fr _ _ _ _ => FF); (with_reducible rename Heap.IsList _ _ _ => LL); refine' last_list ?hl ?h1 ?hx ?_ ?hs; (case hl => exact list_keeps LL FF.keep); (case h1 => assumption); (case hx => assumption); (case hs => with_unfolding_all rfl))))
set_option hygiene false in
local macro_rules | `(tactic| walk_at "truthy ref") => `(tactic| (k_here; (with_reducible show wpAny _ _ (truthy (Value.ref _)) _ _ _); k_dflt ((with_reducible rename Fr _ _ _ _ => FF); (with_reducible rename Heap.IsList _ _ _ => LL); refine wpAny_truthy_list (list_keeps LL FF.keep) (by have := hv4; omega) ?_)))

noncomputable abbrev pq_E (w : World) (L : Addr) : Env := envOf (Str.ofString "_law_program") (fdOf (t879 w.params)).scope L 879 (.ref 878)

theorem pq_b {w : World} {mg mb : Str → Option Value} {dp un : Nat} {fr : Option (List Env)} {gd : Option (List Code)} {s : Shared} {E : Value → Shared → Prop}
    {h₀ : Heap} {L : Addr} {m : Str → Option Value} {news : List (Addr × Obj)} {Q : Flow → Shared → Prop} (b : Array UInt8) (ks : List Int) (hb : KBw.bInts b = ks) (tb : Tok) (hsz : ks.length ≤ 4096) (h1k : 1 ≤ ks.length) (R : Addr) (vals : Array Value) (hv1 : 1 ≤ vals.size) (hv4 : vals.size ≤ 4) (lb : Array UInt8) (ls : List Int) (lt : Tok) (hlb : KBw.bInts lb = ls) (hlz : ls.length ≤ 4096) (hlast : vals[vals.size - 1]? = some (.bytes lb lt)) (BB : AllBare s.gens → AllBare s.gens) (hR : h₀.IsList R vals)
    (X : (KH w.params).In h₀) (T : TopRead q lw mg mb h₀) (F : Fr h₀ L s.heap (fun y => if y = Str.ofString "program" then some (.bytes b tb) else if y = Str.ofString "rows" then some (.ref R) else m y)) (N : News h₀ L s.heap news) (hd : dp + 150 < recursionLimit) (hu : un + 500 < cLine)
    (hret : ∀ n t m' h' tk' g', n = wpn ks ls false → Fr h₀ L h' m' → (AllBare s.gens → AllBare g') → Q (.ret (.int n t)) { s with heap := h', toks := tk', gens := g' }) :
    wpAny (model PySem.Challenge.rw_ez0016_01.prog w) (Ar dp un fr gd) (execs (bodyOf (fdOf (t879 w.params))) (pq_E w L)) Q E s := by
  revert X; k_fill; intro X
  dsimp only [bodyOf, fdOf, t879, fnS, nth, pw, PySem.Challenge.pw_ez0016_01, List.getD, List.getElem?_cons_succ, List.getElem?_cons_zero, Option.getD]
  k_steps
  all_goals (try (with_reducible rename Fr _ _ _ _ => FF))
  all_goals (try (with_reducible rename News _ _ _ _ => NN))
  all_goals
    with_reducible rename (AllBare _ → AllBare _) => BB
    first
    | (exfalso; contradiction)
    | (exfalso; rename (Array.isEmpty _ = true) => he; rw [Array.isEmpty, decide_eq_true_eq] at he; omega)
    | exact hret _ _ _ _ _ _ (by unfold wpn; first
      | rw [if_neg (by assumption)]
      | rw [if_pos (by assumption), if_pos (by assumption)]
      | rw [if_pos (by assumption), if_neg (by assumption), if_pos ⟨by assumption, rfl⟩]
      | rw [if_pos (by assumption), if_neg (by assumption), if_neg (fun q => absurd q.1 (by assumption))]) FF BB
    | trace_state

theorem pq_p {w : World} {mg mb : Str → Option Value} {dp un : Nat} {fr : Option (List Env)} {gd : Option (List Code)} {s : Shared} {Q E : Value → Shared → Prop} (b : Array UInt8) (ks : List Int) (hb : KBw.bInts b = ks) (tb : Tok) (hsz : ks.length ≤ 4096) (h1k : 1 ≤ ks.length) (R : Addr) (vals : Array Value) (hv1 : 1 ≤ vals.size) (hv4 : vals.size ≤ 4) (lb : Array UInt8) (ls : List Int) (lt : Tok) (hlb : KBw.bInts lb = ls) (hlz : ls.length ≤ 4096) (hlast : vals[vals.size - 1]? = some (.bytes lb lt)) (hR : s.heap.IsList R vals)
    (X : (KH w.params).In s.heap) (T : TopRead q lw mg mb s.heap) (hd : dp + 160 < recursionLimit) (hu : un + 520 < cLine)
    (hret : ∀ t h' tk' g', Ext s.heap h' → (AllBare s.gens → AllBare g') → Q (.int (wpn ks ls false) t) { s with heap := h', toks := tk', gens := g' }) :
    wpAny (model RP w) (Ar dp un fr gd) (call (.ref 879) [.bytes b tb, .ref R]) Q E s := by
  refine wpAny_call ?_
  refine enterK (K := KH w.params) (f := 879) X T.nolimit (by rfl) (by rfl) (by show dp < recursionLimit; omega) (binds := [(Str.ofString "program", .bytes b tb), (Str.ofString "rows", .ref R)]) (BindsTo.of_eq (by rfl)) (fun x hx => ?_) (fun L' h₁ F N hL => ?_) (by rfl) (by rfl) (by rfl) ?_
  · simp only [List.mem_cons, List.not_mem_nil, or_false] at hx
    rcases hx with rfl | rfl <;> rfl
  · refine pq_b (dp := dp + 1) (un := un + 3) (fr := fr.map (pq_E w L' :: ·)) (h₀ := s.heap) (m := fun _ => none) (news := []) b ks hb tb hsz h1k R vals hv1 hv4 lb ls lt hlb hlz hlast (fun h => h) hR X T (fr_ext F fun y => ?_) N (by omega) (by omega) (fun n t m' h' tk' g' e F' hg => by subst e; exact hret t h' tk' g' F'.keep hg)
    show List.lookup y [(Str.ofString "rows", Value.ref R), (Str.ofString "program", Value.bytes b tb)] = _
    rw [lookup2]
    by_cases h1 : y = Str.ofString "rows"
    · subst h1; rfl
    by_cases h2 : y = Str.ofString "program"
    · subst h2; rfl
    simp only [h1, h2, if_false]
  · intro x hx
    revert x
    dsimp only [fdOf, t879, fnS, nth, pw, PySem.Challenge.pw_ez0016_01]
    decide
end Mine
namespace Mine
section
variable {prog : Program} {w : World} {A : Around} {E : Value → Shared → Prop} {s : Shared}
theorem lk_int_bytes : typeLookup (.type "int") "__bytes__" = pure none := by rw [typeLookup_type, builtinLookup_eq_fast]; kernel_rfl
theorem lk_int_index : typeLookup (.type "int") "__index__" = pure (some (.builtin "int.__index__")) := by rw [typeLookup_type, builtinLookup_eq_fast]; kernel_rfl
theorem call_bytes_int {n : Nat} {t : Tok} {Q : Value → Shared → Prop} (hn : n ≤ 4096) (hQ : ∀ t' k, Q (.bytes (Array.replicate n 0) t') { s with toks := k }) : wpAny (model prog w) A (call (.type "bytes") [.int (n : Int) t]) Q E s := by
  refine callType_codes (Q₁ := fun obj s₁ => s₁.TypeIs obj "bytes" ∧ Q obj s₁) PySem.F.bm_called (PySem.F.bm_typeCall _) PySem.F.entry_object_init ?_ fun obj s₁ h₁ => ?_
  · refine codeAny_of_tree ?_
    show wpAny _ A.in1.in1 (do checkBuiltinCall "bytes.__new__" ⟨[.type "bytes", .int (n : Int) t], []⟩; again (.builtin "bytes.__new__" ⟨[.type "bytes", .int (n : Int) t], []⟩)) _ _ s
    refine wpAny_bind (wpAny_of_eq (PySem.F.bm_newCall _) (wpAny_pure ⟨plainId_quiet PySem.F.bm_plain _, codeAny_builtin PySem.F.bm_entry ?_⟩))
    rw [Around.under_plainId PySem.F.bm_plain _]
    have hT : s.TypeIs (.int (n : Int) t) "int" := typeIs_int s _ t
    have hS : asStr? (.int (n : Int) t) = pure none := rfl
    have hI : asIndex (.int (n : Int) t) = pure (n : Int) := rfl
    have hQ' : ∀ t' k, Q (.bytes (Array.replicate n 0) t') { s with toks := k } := hQ
    clear hQ
    generalize hx : Value.int (n : Int) t = x at hT hS hI ⊢
    unfold Builtin.«bytes.__new__»
    refine wpAny_bind (wpAny_of_eq (a := true) rfl ?_)
    refine bm_if_false rfl ?_
    refine wpAny_bind (wpAny_of_eq PySem.F.bm_sub ?_)
    refine bm_if_false rfl ?_
    refine wpAny_bind (wpAny_of_eq (PySem.F.bm_bind _) ?_)
    refine wpAny_bind (wpAny_of_eq (a := ()) rfl ?_)
    refine wpAny_bind (wpAny_of_eq (a := ()) rfl ?_)
    refine bm_if_false rfl ?_
    refine wpAny_bind (wpAny_specialOf hT lk_int_bytes ?_)
    dsimp only
    rw [hS]
    refine wpAny_bind (wpAny_bind (wpAny_pure (wpAny_pure ?_)))
    refine bm_if_false rfl ?_
    refine wpAny_bind (wpAny_specialOf hT lk_int_index ?_)
    refine bm_if_false rfl ?_
    refine wpAny_bind (wpAny_attempt (wpAny_of_eq hI ?_))
    have hb : (4096 : Int) ≤ 2 ^ 63 - 34 := by decide
    generalize (2 ^ 63 - 34 : Int) = big at hb ⊢
    dsimp only
    refine bm_if_false ?_ ?_
    · have : Builtin.Bytes.fitsIndex (n : Int) = true := by
        unfold Builtin.Bytes.fitsIndex
        have h1 : (4096 : Int) < 2 ^ 63 := by decide
        have h2 : -(2 ^ 63 : Int) ≤ 0 := by decide
        rw [Bool.and_eq_true]
        exact ⟨decide_eq_true (by omega), decide_eq_true (by omega)⟩
      rw [this]; rfl
    rw [if_neg (by omega), if_neg (by omega)]
    refine bm_if_false (KBy.tooLong_not (by omega)) ?_
    refine wpAny_bind (wpAny_rule ?_)
    refine wpAny_bind (wpAny_mkBytes ?_ ?_)
    · rw [Int.toNat_natCast]
      refine bm_if_true (by decide +kernel) ?_
      exact wpAny_pure ⟨typeIs_bytes _ _ _, hQ' _ _⟩
    · rw [Array.size_replicate, sizeLine_eq]; omega
  · exact ⟨h₁.1, PySem.F.args_object_init_2 obj _, object_init_meets PySem.F.bm_called.init.lookup PySem.F.bm_called.made (by decide) prog w A.in1 _ s₁ ⟨h₁.1, rfl, h₁.2⟩⟩
end
end Mine
namespace Mine
theorem psh_gen {r ks : List Int} {w : Int} (h : r = psh ks w) (h0 : 0 ≤ w) (h3 : w ≤ 3) : ∃ rs, r = rs ∧ rs = psh ks w ∧ rs.length ≤ ks.length + 5 := by
  refine ⟨r, rfl, h, ?_⟩
  rw [h]
  unfold psh pshH
  rw [List.length_append]
  repeat' split
  all_goals simp only [List.length_cons, List.length_nil]; omega
theorem len_push {r : List Int} (h : PushOk r) : r.length ≤ 9 := h.step.2.1
theorem flat_len {α : Type} (f : α → List Int) : ∀ (l : List α), (∀ p ∈ l, (f p).length ≤ 9) → (l.flatMap f).length ≤ 9 * l.length
  | [], _ => Nat.zero_le _
  | p :: r, h => by
    rw [List.flatMap_cons, List.length_append, List.length_cons]
    have := h p (.head _)
    have := flat_len f r fun q hq => h q (.tail _ hq)
    omega
theorem fit_of (l : List (Array UInt8 × Tok)) (n : Nat) (hl : l.length ≤ n) (hn : n ≤ 10) (h : ∀ p ∈ l, (KBw.bInts p.1).length ≤ 9) : (l.map (·.1)).foldl (· + ·.size) 0 ≤ 16777216 := by
  rw [fold_size]
  have : ((l.map (·.1)).flatMap Array.toList).length = (l.flatMap fun p => KBw.bInts p.1).length := by
    rw [List.length_flatMap, List.length_flatMap, List.map_map]
    congr 1
    refine List.map_congr_left fun p _ => ?_
    simp [KBw.bInts]
  have h2 := flat_len (fun p : Array UInt8 × Tok => KBw.bInts p.1) l h
  omega
theorem steps_fit {l : List (Array UInt8 × Tok)} (hl : l.length ≤ 10) (h : ∀ p ∈ l, StepOk (KBw.bInts p.1)) : (l.map (·.1)).foldl (· + ·.size) 0 ≤ 16777216 := fit_of l 10 hl (Nat.le_refl _) fun p hp => (h p hp).2.1
theorem pushes_fit {l : List (Array UInt8 × Tok)} (hl : l.length ≤ 2) (h : ∀ p ∈ l, PushOk (KBw.bInts p.1)) : (l.map (·.1)).foldl (· + ·.size) 0 ≤ 16777216 := fit_of l 2 hl (by decide) fun p hp => len_push (h p hp)
theorem bInts_rep (n : Nat) : KBw.bInts (Array.replicate n 0) = List.replicate n 0 := by simp [KBw.bInts]
section
variable {prog : Program} {w : World} {A : Around} {E : Value → Shared → Prop} {s : Shared}
theorem join_p {l : List (Array UInt8 × Tok)} {D : Addr} {n : Nat} {t : Tok} {Q : Value → Shared → Prop} (ho : s.heap.get? D = some (listOf (bv l).toArray n)) (hsz : ((l.map (·.1)).foldl (· + ·.size) 0) ≤ 16777216)
    (h : ∀ r t' k, KBw.bInts r = l.flatMap (fun p => KBw.bInts p.1) → Q (.bytes r t') { s with toks := k }) :
    wpAny (model prog w) A (call (.builtin "bytes.join") [.bytes #[] t, .ref D]) Q E s :=
  join_call ho rfl rfl hsz (fun t' k => h _ t' k (by rw [joined_ints, List.flatMap_map])) (fun b t' e => by
    have := h b t' s.toks (by rw [e]; simp)
    exact this)
theorem join_m {M : Model} {t : Tok} {pl : Sem Bool} {Q : Value × List Value → Shared → Prop} (h : Q (.builtin "bytes.join", [.bytes #[] t]) s) : wpAny M A (getMethod (.bytes #[] t) "join" pl) Q E s := by
  with_reducible exact KBd.method_of (.bytes #[] t) (typeIs_bytes _ _ _) slot_bytes_join type_bytes_join KBd.noRef h
theorem call_bytes_int' {i : Int} {t : Tok} {Q : Value → Shared → Prop} (hi : 0 ≤ i) (hn : i ≤ 4096) (hQ : ∀ r rs t' k, KBw.bInts r = rs → rs = List.replicate i.toNat 0 → rs.length = i.toNat → Q (.bytes r t') { s with toks := k }) : wpAny (model prog w) A (call (.type "bytes") [.int i t]) Q E s := by
  obtain ⟨n, rfl⟩ : ∃ n : Nat, i = n := ⟨i.toNat, by omega⟩
  exact call_bytes_int (by omega) fun t' k => hQ _ _ _ _ (bInts_rep n) rfl (by simp)
end
theorem stand_law {w : World} {h₀ h : Heap} {L : Addr} {m : Str → Option Value} (F : Fr h₀ L h m) : Stand (h.hide L) [y_E w L] h :=
  ⟨fun b o e => Heap.of_hide e, .cons (by rw [show (y_E w L).scope.kind = .function from rfl]; decide) rfl F.ns (Heap.hide_self ..) trivial, Nat.le_of_eq (Heap.hide_size ..)⟩
theorem law_after {h₀ h h' : Heap} {L : Addr} {m : Str → Option Value} {news : List (Addr × Obj)} (F : Fr h₀ L h m) (N : News h₀ L h news) (hst : (h.hide L).StaysIn h') (hup : h.UpToSlots h') : Fr h₀ L h' m ∧ News h₀ L h' news := by
  have hL : h₀.get? L = none := Heap.get?_none_of_le F.above
  refine ⟨⟨hup.ns F.ns, fun b o e => hst b o ((Heap.hide_ne h (fun z => by rw [z, hL] at e; cases e)).trans (F.keep b o e)), F.above⟩, fun p hp => ?_⟩
  have := N p hp
  exact ⟨hst _ _ ((Heap.hide_ne h this.2.1).trans this.1), this.2⟩
theorem zed_law {w : World} {mg mb : Str → Option Value} {h₀ h : Heap} {L : Addr} {m : Str → Option Value} (F : Fr h₀ L h m) (X : (KH w.params).In h₀) (T : TopRead q lw mg mb h₀) : Zed w mg mb (h.hide L) := by
  have hE : Ext h₀ (h.hide L) := ext_hide F.keep (Heap.get?_none_of_le F.above)
  exact ⟨X.keeps hE, T.keeps hE⟩
theorem pp_p {w : World} {mg mb : Str → Option Value} {dp un : Nat} {outer : List Env} {gd : Option (List Code)} {s : Shared} {hz : Heap} {Q E : Value → Shared → Prop} {b : Array UInt8} {ks : List Int} (hb : KBw.bInts b = ks) {tb : Tok} (hsz : ks.length ≤ 4096) {c : Array UInt8} {cs : List Int} (hc : KBw.bInts c = cs) {tc : Tok} (hcz : cs.length ≤ 4096)
    (S : Stand hz outer s.heap) (Z : Zed w mg mb hz) (hd : dp + 310 < recursionLimit) (hu : un + 820 < cLine)
    (hret : ∀ t h' tk' g', hz.StaysIn h' → s.heap.UpToSlots h' → (AllBare s.gens → AllBare g') → Q (.int (p2n ks cs) t) { s with heap := h', toks := tk', gens := g' }) :
    wpAny (model RP w) (Ar dp un (some outer) gd) (call (.ref 846) [.bytes b tb, .bytes c tc]) Q E s :=
  wpAny_call (pp_c hb hsz hc hcz (BindsTo.of_eq rfl) S Z hd hu hret)
theorem wit_of_news {w : World} {mg mb : Str → Option Value} {h₀ h : Heap} {L x dx D : Addr} {m : Str → Option Value} {t : Tok} {vals : Array Value} {news : List (Addr × Obj)} (F : Fr h₀ L h m) (X : (KH w.params).In h₀) (T : TopRead q lw mg mb h₀) (N : News h₀ L h news)
    (h1 : (x, instObj 811 dx) ∈ news) (h2 : (dx, wDict w t D) ∈ news) (h3 : (D, tupObj vals) ∈ news) (n1 : x ≠ dx) (n2 : D ≠ dx) (n3 : D ≠ x) : WitAt w mg mb h₀ (h.hide L) x dx D t vals :=
  have k : ∀ {p : Addr × Obj}, p ∈ news → (h.hide L).get? p.1 = some p.2 := fun hp => (Heap.hide_ne h (N _ hp).2.1).trans (N _ hp).1
  ⟨ext_hide F.keep (Heap.get?_none_of_le F.above), X, T, (N _ h1).2.2, (N _ h2).2.2, (N _ h3).2.2, k h1, k h2, k h3, n1, n2, n3⟩
/-- Witness(..): object 767 grows -/
theorem wit_after {w : World} {h₀ h h' : Heap} {L x dx D R : Addr} {m : Str → Option Value} {t : Tok} {vals ps ps' : Array Value} {k : Nat} (F : Fr h₀ L h m) (N : News h₀ L h [(767, tabO ps), (R, listOf vals k)]) (h7R : (767 : Nat) ≠ R) (hE : Heap.ExtBut 767 h h') (e7 : h'.get? 767 = some (tabO ps'))
    (ex : h'.get? x = some (instObj 811 dx)) (ed : h'.get? dx = some (wDict w t D)) (eD : h'.get? D = some (tupObj vals)) (nx : h.get? x = none) (nd : h.get? dx = none) (nD : h.get? D = none) :
    Fr h₀ L h' m ∧ News h₀ L h' [(767, tabO ps'), (x, instObj 811 dx), (dx, wDict w t D), (D, tupObj vals), (R, listOf vals k)] := by
  have a7 := N _ (.head _)
  have aR := N _ (.tail _ (.head _))
  have fresh : ∀ {a : Addr}, h.get? a = none → a ≠ L ∧ h₀.get? a = none := fun {a} hf => by
    refine ⟨fun e => ?_, ?_⟩
    · obtain ⟨oL, _, _, hL, _⟩ := F.ns
      rw [← e] at hL
      exact absurd (hL.symm.trans hf) (by simp)
    · cases q : h₀.get? a with
      | none => rfl
      | some o => exact absurd ((F.keep _ _ q).symm.trans hf) (by simp)
  refine ⟨⟨F.ns.extBut hE (Ne.symm a7.2.1), fun b o e => hE b o (fun z => by rw [z, a7.2.2] at e; cases e) (F.keep b o e), F.above⟩, fun p hp => ?_⟩
  simp only [List.mem_cons, List.not_mem_nil, or_false] at hp
  rcases hp with rfl | rfl | rfl | rfl | rfl
  · exact ⟨e7, a7.2⟩
  · exact ⟨ex, fresh nx⟩
  · exact ⟨ed, fresh nd⟩
  · exact ⟨eD, fresh nD⟩
  · exact ⟨hE _ _ (Ne.symm h7R) aR.1, aR.2⟩
end Mine
namespace Mine
local macro_rules | `(tactic| k_room) => `(tactic| ((try simp only [depth_under_make, depth_under_kw, depth_in1, depth_deeper, depth_caller]); (try dsimp only [Ar]); omega))
local macro_rules | `(tactic| k_units) => `(tactic| ((try simp only [units_in1, units_deeper, Around.mark_units, units_caller]); (try dsimp only [Ar]); omega))
local macro_rules | `(tactic| cell_enter) => `(tactic| (refine' enterK ?k1 ?k2 ?k6 ?k7 ?k8 ?k9 ?kB ?_ ?c2 ?c3 ?c4 ?c5; (case k1 => assumption); (case k2 => exact TopRead.nolimit (by assumption)); (case k6 => k_is); (case k7 => k_is); (case k8 => k_room); (case k9 => first | exact BindsTo.of_eq rfl | exact binds_K (by assumption) rfl (by k_is) rfl rfl rfl | fail "k_enter: no rule for these arguments"); (case c5 => decide); (case kB => exact locs rfl); (case c2 => exact rfl); (case c3 => exact rfl); (case c4 => exact rfl); k_whole; intro L' h' F' N' kSz; (try dsimp only); (try k_fold)))
local macro_rules | `(tactic| walk_at "call type:bytes") => `(tactic| (k_here; (with_reducible show wpAny _ _ (call (Value.type _) [Value.bytes _ _]) _ _ _); (with_unfolding_all refine call_bytes_bytes ?_)))

theorem y_1 {w : World} {mg mb : Str → Option Value} {dp un : Nat} {gd : Option (List Code)} {s : Shared} {E : Value → Shared → Prop}
    {h₀ : Heap} {L : Addr} {m : Str → Option Value} {news : List (Addr × Obj)} {Q : Flow → Shared → Prop} (NU : Addr) (vs : List Value) (ns : List Int) (n : Nat) (hi : IntsAre vs ns) (hl : ns.length ≤ 12) (hne : 0 < ns.length)
    (X : (KH w.params).In h₀) (T : TopRead q lw mg mb h₀) (F : Fr h₀ L s.heap (fun y => if y = Str.ofString "numbers" then some (.ref NU) else m y)) (N : News h₀ L s.heap ((NU, listOf vs.toArray n) :: news)) (hd : dp + 450 < recursionLimit) (hu : un + 1300 < cLine)
    (hret : ∀ t h' tk' m', Fr h₀ L h' m' → m' (Str.ofString "numbers") = some (.ref NU) → m' (Str.ofString "head") = some (.int (ns.getD (Int.toNat 0) 0) t) → News h₀ L h' ((NU, listOf vs.toArray n) :: news) → Q .next { s with heap := h', toks := tk' }) :
    wpAny (model PySem.Challenge.rw_ez0016_01.prog w) (Ar dp un (some [y_E w L]) gd) (exec (yS w 1) (y_E w L)) Q E s := by
  revert X; k_fill; intro X
  dsimp only [yS, yB, bodyOf, fdOf, t915, fnS, nth, pw, PySem.Challenge.pw_ez0016_01, List.getD, List.getElem?_cons_succ, List.getElem?_cons_zero, Option.getD]
  k_steps
  all_goals (try (with_reducible rename Fr _ _ _ _ => FF))
  all_goals (try (with_reducible rename News _ _ _ _ => NN))
  all_goals exact hret _ _ _ _ FF rfl rfl NN

theorem y_1e {w : World} {mg mb : Str → Option Value} {dp un : Nat} {gd : Option (List Code)} {s : Shared} {E : Value → Shared → Prop}
    {h₀ : Heap} {L : Addr} {m : Str → Option Value} {news : List (Addr × Obj)} {Q : Flow → Shared → Prop} (NU : Addr) (n : Nat)
    (X : (KH w.params).In h₀) (T : TopRead q lw mg mb h₀) (F : Fr h₀ L s.heap (fun y => if y = Str.ofString "numbers" then some (.ref NU) else m y)) (N : News h₀ L s.heap ((NU, listOf #[] n) :: news)) (hd : dp + 450 < recursionLimit) (hu : un + 1300 < cLine)
    (hret : ∀ t h' tk' m', Fr h₀ L h' m' → m' (Str.ofString "numbers") = some (.ref NU) → m' (Str.ofString "head") = some (.int 0 t) → News h₀ L h' ((NU, listOf #[] n) :: news) → Q .next { s with heap := h', toks := tk' }) :
    wpAny (model PySem.Challenge.rw_ez0016_01.prog w) (Ar dp un (some [y_E w L]) gd) (exec (yS w 1) (y_E w L)) Q E s := by
  revert X; k_fill; intro X
  dsimp only [yS, yB, bodyOf, fdOf, t915, fnS, nth, pw, PySem.Challenge.pw_ez0016_01, List.getD, List.getElem?_cons_succ, List.getElem?_cons_zero, Option.getD]
  k_steps
  all_goals (try (with_reducible rename Fr _ _ _ _ => FF))
  all_goals (try (with_reducible rename News _ _ _ _ => NN))
  all_goals exact hret _ _ _ _ FF rfl rfl NN
local macro_rules | `(tactic| walk_at "eval ListComp") => `(tactic| (k_here; (with_reducible show wpAny _ _ (eval (Expr.ListComp _ _ _ _) _) _ _ _); k_dflt ((with_reducible rename Fr _ _ _ _ => FF); (with_reducible rename News _ _ _ _ => NN); first
  | (refine' yc_2 _ _ _ _ ?ki ?kl ?kp (by assumption) (by assumption) FF rfl NN ?kd ?ku ?_; (case ki => assumption); (case kl => assumption); (case kp => assumption); (case kd => k_room); (case ku => k_units); (intro R' l' k' h' tk' hl' hs' F' N'; clear FF NN; (try dsimp only at F' N' ⊢)))
  | (refine' yc_6 _ _ _ _ ?ki ?kl ?kp (by assumption) (by assumption) FF rfl NN ?kd ?ku ?_; (case ki => assumption); (case kl => assumption); (case kp => assumption); (case kd => k_room); (case ku => k_units); (intro R' l' k' h' tk' hl' hs' F' N'; clear FF NN; (try dsimp only at F' N' ⊢))))))
local macro_rules | `(tactic| walk_at "getMethod bytes") => `(tactic| (k_here; (with_reducible show wpAny _ _ (getMethod (Value.bytes _ _) _ _) _ _ _); k_dflt (refine' join_m ?_)))
local macro_rules | `(tactic| walk_at "call builtin:bytes.join") => `(tactic| (k_here; (with_reducible show wpAny _ _ (call (Value.builtin "bytes.join") [Value.bytes _ _, Value.ref _]) _ _ _); k_dflt ((with_reducible rename News _ _ _ _ => NN); refine' join_p (NN (_, _) (.head _)).1 ?kz ?_; (case kz => first | exact steps_fit (by assumption) (by assumption) | exact pushes_fit (by assumption) (by assumption)); (intro r' t' k' hr'; (try dsimp only)))))

theorem y_2 {w : World} {mg mb : Str → Option Value} {dp un : Nat} {gd : Option (List Code)} {s : Shared} {E : Value → Shared → Prop}
    {h₀ : Heap} {L : Addr} {m : Str → Option Value} {news : List (Addr × Obj)} {Q : Flow → Shared → Prop} (NU : Addr) (vs : List Value) (ns : List Int) (n : Nat) (hi : IntsAre vs ns) (hl : ns.length ≤ 12) (hpos : ∀ x ∈ ns, 0 ≤ x) (hd0 : Int) (th : Tok) 
    (X : (KH w.params).In h₀) (T : TopRead q lw mg mb h₀) (F : Fr h₀ L s.heap (fun y => if y = Str.ofString "numbers" then some (.ref NU) else if y = Str.ofString "head" then some (.int hd0 th) else m y)) (N : News h₀ L s.heap ((NU, listOf vs.toArray n) :: news)) (hd : dp + 450 < recursionLimit) (hu : un + 1300 < cLine)
    (hret : ∀ (l : List (Array UInt8 × Tok)) r t h' tk' m', l.length ≤ 10 → (∀ p ∈ l, StepOk (KBw.bInts p.1)) → KBw.bInts r = l.flatMap (fun p => KBw.bInts p.1) → Fr h₀ L h' m' → m' (Str.ofString "numbers") = some (.ref NU) → m' (Str.ofString "head") = some (.int hd0 th) → m' (Str.ofString "inner") = some (.bytes r t) → News h₀ L h' ((NU, listOf vs.toArray n) :: news) → Q .next { s with heap := h', toks := tk' }) :
    wpAny (model PySem.Challenge.rw_ez0016_01.prog w) (Ar dp un (some [y_E w L]) gd) (exec (yS w 2) (y_E w L)) Q E s := by
  revert X; k_fill; intro X
  dsimp only [yS, yB, bodyOf, fdOf, t915, fnS, nth, pw, PySem.Challenge.pw_ez0016_01, List.getD, List.getElem?_cons_succ, List.getElem?_cons_zero, Option.getD]
  k_steps
  all_goals (try (with_reducible rename Fr _ _ _ _ => FF))
  all_goals (try (with_reducible rename News _ _ _ _ => NN))
  all_goals exact hret _ _ _ _ _ _ (by with_reducible assumption) (by with_reducible assumption) (by with_reducible assumption) FF rfl rfl rfl (fun p hp => NN p (.tail _ hp))

theorem y_3 {w : World} {mg mb : Str → Option Value} {dp un : Nat} {gd : Option (List Code)} {s : Shared} {E : Value → Shared → Prop}
    {h₀ : Heap} {L : Addr} {m : Str → Option Value} {news : List (Addr × Obj)} {Q : Flow → Shared → Prop} (NU : Addr) (vs : List Value) (ns : List Int) (n : Nat) (hi : IntsAre vs ns) (hl : ns.length ≤ 12) (hd0 : Int) (th : Tok) (b : Array UInt8) (ks : List Int) (hb : KBw.bInts b = ks) (tb : Tok) (hsz : ks.length ≤ 90)
    (X : (KH w.params).In h₀) (T : TopRead q lw mg mb h₀) (F : Fr h₀ L s.heap (fun y => if y = Str.ofString "numbers" then some (.ref NU) else if y = Str.ofString "head" then some (.int hd0 th) else if y = Str.ofString "inner" then some (.bytes b tb) else m y)) (N : News h₀ L s.heap ((NU, listOf vs.toArray n) :: news)) (hd : dp + 450 < recursionLimit) (hu : un + 1300 < cLine)
    (hret : ∀ b' t' h' tk' m', (KBw.bInts b' = List.take (clipAt ks.length (-1)) ks ∨ KBw.bInts b' = ks) → Fr h₀ L h' m' → m' (Str.ofString "numbers") = some (.ref NU) → m' (Str.ofString "head") = some (.int hd0 th) → m' (Str.ofString "inner") = some (.bytes b' t') → News h₀ L h' ((NU, listOf vs.toArray n) :: news) → Q .next { s with heap := h', toks := tk' }) :
    wpAny (model PySem.Challenge.rw_ez0016_01.prog w) (Ar dp un (some [y_E w L]) gd) (exec (yS w 3) (y_E w L)) Q E s := by
  revert X; k_fill; intro X
  dsimp only [yS, yB, bodyOf, fdOf, t915, fnS, nth, pw, PySem.Challenge.pw_ez0016_01, List.getD, List.getElem?_cons_succ, List.getElem?_cons_zero, Option.getD]
  k_steps
  all_goals (try (with_reducible rename Fr _ _ _ _ => FF))
  all_goals (try (with_reducible rename News _ _ _ _ => NN))
  all_goals first
    | exact hret _ _ _ _ _ (.inl (by with_reducible assumption)) FF rfl rfl rfl NN
    | exact hret _ _ _ _ _ (.inr hb) FF rfl rfl rfl NN
local macro_rules | `(tactic| walk_at "call type:bytes") => `(tactic| (k_here; (with_reducible show wpAny _ _ (call (Value.type _) [Value.int _ _]) _ _ _); k_dflt (refine' call_bytes_int' ?ka ?kb ?_; (case ka => decide); (case kb => decide); (intro r' rs' t' k' hr' hre' hrl'; (have hrz' : rs'.length ≤ 40 := by rw [hrl']; decide); (try dsimp only)))))

theorem y_5 {w : World} {mg mb : Str → Option Value} {dp un : Nat} {gd : Option (List Code)} {s : Shared} {E : Value → Shared → Prop}
    {h₀ : Heap} {L : Addr} {m : Str → Option Value} {news : List (Addr × Obj)} {Q : Flow → Shared → Prop} (hd0 : Int) (th : Tok) (b : Array UInt8) (ks : List Int) (hb : KBw.bInts b = ks) (tb : Tok) (hsz : ks.length ≤ 90)(NU : Addr) (vs : List Value) (ns : List Int) (n : Nat) (hi : IntsAre vs ns) (hl : ns.length ≤ 12)
    (X : (KH w.params).In h₀) (T : TopRead q lw mg mb h₀) (F : Fr h₀ L s.heap (fun y => if y = Str.ofString "numbers" then some (.ref NU) else if y = Str.ofString "head" then some (.int hd0 th) else if y = Str.ofString "inner" then some (.bytes b tb) else m y)) (N : News h₀ L s.heap ((NU, listOf vs.toArray n) :: news)) (hd : dp + 450 < recursionLimit) (hu : un + 1300 < cLine)
    (hret : ∀ hh t' h' tk' m', KBw.bInts hh = 169 :: 20 :: (List.replicate 20 0 ++ [135]) → Fr h₀ L h' m' → m' (Str.ofString "numbers") = some (.ref NU) → m' (Str.ofString "head") = some (.int hd0 th) → m' (Str.ofString "inner") = some (.bytes b tb) → m' (Str.ofString "hashed") = some (.bytes hh t') → News h₀ L h' ((NU, listOf vs.toArray n) :: news) → Q .next { s with heap := h', toks := tk' }) :
    wpAny (model PySem.Challenge.rw_ez0016_01.prog w) (Ar dp un (some [y_E w L]) gd) (exec (yS w 5) (y_E w L)) Q E s := by
  revert X; k_fill; intro X
  dsimp only [yS, yB, bodyOf, fdOf, t915, fnS, nth, pw, PySem.Challenge.pw_ez0016_01, List.getD, List.getElem?_cons_succ, List.getElem?_cons_zero, Option.getD]
  k_steps
  all_goals (try (with_reducible rename Fr _ _ _ _ => FF))
  all_goals (try (with_reducible rename News _ _ _ _ => NN))
  all_goals
    rename (KBw.bInts (_ ++ _ ++ _) = _) => hcat
    rename (_ = List.replicate _ _) => hrr
    exact hret _ _ _ _ _ (by rw [hcat, hrr]; rfl) FF rfl rfl rfl rfl NN

theorem y_6 {w : World} {mg mb : Str → Option Value} {dp un : Nat} {gd : Option (List Code)} {s : Shared} {E : Value → Shared → Prop}
    {h₀ : Heap} {L : Addr} {m : Str → Option Value} {news : List (Addr × Obj)} {Q : Flow → Shared → Prop} (NU : Addr) (vs : List Value) (ns : List Int) (n : Nat) (hi : IntsAre vs ns) (hl : ns.length ≤ 12) (hpos : ∀ x ∈ ns, 0 ≤ x) (hd0 : Int) (th : Tok) (b : Array UInt8) (ks : List Int) (hb : KBw.bInts b = ks) (tb : Tok) (hsz : ks.length ≤ 90)(hh : Array UInt8) (hs : List Int) (hhb : KBw.bInts hh = hs) (thh : Tok) (hhz : hs.length ≤ 30)
    (X : (KH w.params).In h₀) (T : TopRead q lw mg mb h₀) (F : Fr h₀ L s.heap (fun y => if y = Str.ofString "numbers" then some (.ref NU) else if y = Str.ofString "head" then some (.int hd0 th) else if y = Str.ofString "inner" then some (.bytes b tb) else if y = Str.ofString "hashed" then some (.bytes hh thh) else m y)) (N : News h₀ L s.heap ((NU, listOf vs.toArray n) :: news)) (hd : dp + 450 < recursionLimit) (hu : un + 1300 < cLine)
    (hret : ∀ (l : List (Array UInt8 × Tok)) r t h' tk' m', l.length ≤ 2 → (∀ p ∈ l, PushOk (KBw.bInts p.1)) → KBw.bInts r = l.flatMap (fun p => KBw.bInts p.1) → Fr h₀ L h' m' → m' (Str.ofString "head") = some (.int hd0 th) → m' (Str.ofString "inner") = some (.bytes b tb) → m' (Str.ofString "hashed") = some (.bytes hh thh) → m' (Str.ofString "ahead") = some (.bytes r t) → News h₀ L h' (news) → Q .next { s with heap := h', toks := tk' }) :
    wpAny (model PySem.Challenge.rw_ez0016_01.prog w) (Ar dp un (some [y_E w L]) gd) (exec (yS w 6) (y_E w L)) Q E s := by
  revert X; k_fill; intro X
  dsimp only [yS, yB, bodyOf, fdOf, t915, fnS, nth, pw, PySem.Challenge.pw_ez0016_01, List.getD, List.getElem?_cons_succ, List.getElem?_cons_zero, Option.getD]
  k_steps
  all_goals (try (with_reducible rename Fr _ _ _ _ => FF))
  all_goals (try (with_reducible rename News _ _ _ _ => NN))
  all_goals exact hret _ _ _ _ _ _ (by with_reducible assumption) (by with_reducible assumption) (by with_reducible assumption) FF rfl rfl rfl rfl (fun p hp => NN p (.tail _ (.tail _ hp)))
local macro_rules | `(tactic| walk_at "call ref") => `(tactic| (k_here; (with_reducible show wpAny _ _ (call (Value.ref 893) [Value.bytes _ _, Value.int _ _]) _ _ _); k_dflt ((with_reducible rename Fr _ _ _ _ => FF); (with_reducible rename News _ _ _ _ => NN); (with_reducible rename Frag.In _ _ => XX); (with_reducible rename TopRead _ _ _ _ _ => TT); refine' pu_p _ _ ?kb _ ?ksz _ _ ?k0 ?k3 ?kX ?kT ?kd ?ku ?_; (case kb => assumption); (case ksz => first | assumption | omega); (case k0 => first | assumption | decide | omega); (case k3 => first | assumption | decide | omega); (case kX => exact Frag.In.keeps XX FF.keep); (case kT => exact TopRead.keeps TT FF.keep); (case kd => k_room); (case ku => k_units); (intro r' t' h' tk' hr' hk'; (have F' := Fr.keeps FF hk'); (have N' := News.keeps NN hk'); (obtain ⟨rs', hrs', hre', hrl'⟩ := psh_gen hr' (by first | assumption | decide | omega) (by first | assumption | decide | omega)); clear FF NN hk' hr'; (try dsimp only at F' N' ⊢)))))

theorem y_7 {w : World} {mg mb : Str → Option Value} {dp un : Nat} {gd : Option (List Code)} {s : Shared} {E : Value → Shared → Prop}
    {h₀ : Heap} {L : Addr} {m : Str → Option Value} {news : List (Addr × Obj)} {Q : Flow → Shared → Prop} (hd0 : Int) (th : Tok) (q0 : 0 ≤ (hd0.fdiv 5).fmod 4) (q1 : (hd0.fdiv 5).fmod 4 ≤ 3) (b : Array UInt8) (ks : List Int) (hb : KBw.bInts b = ks) (tb : Tok) (hsz : ks.length ≤ 90)(hh : Array UInt8) (hs : List Int) (hhb : KBw.bInts hh = hs) (thh : Tok) (hhz : hs.length ≤ 30)(a : Array UInt8) (as : List Int) (ha : KBw.bInts a = as) (ta : Tok) (haz : as.length ≤ 18) 
    (X : (KH w.params).In h₀) (T : TopRead q lw mg mb h₀) (F : Fr h₀ L s.heap (fun y => if y = Str.ofString "head" then some (.int hd0 th) else if y = Str.ofString "inner" then some (.bytes b tb) else if y = Str.ofString "hashed" then some (.bytes hh thh) else if y = Str.ofString "ahead" then some (.bytes a ta) else m y)) (N : News h₀ L s.heap news) (hd : dp + 450 < recursionLimit) (hu : un + 1300 < cLine)
    (hret : ∀ c sg t' h' tk' m', KBw.bInts c = sg → sg.length ≤ 113 → Fr h₀ L h' m' → m' (Str.ofString "head") = some (.int hd0 th) → m' (Str.ofString "inner") = some (.bytes b tb) → m' (Str.ofString "hashed") = some (.bytes hh thh) → m' (Str.ofString "ahead") = some (.bytes a ta) → m' (Str.ofString "sig") = some (.bytes c t') → News h₀ L h' (news) → Q .next { s with heap := h', toks := tk' }) :
    wpAny (model PySem.Challenge.rw_ez0016_01.prog w) (Ar dp un (some [y_E w L]) gd) (exec (yS w 7) (y_E w L)) Q E s := by
  revert X; k_fill; intro X
  dsimp only [yS, yB, bodyOf, fdOf, t915, fnS, nth, pw, PySem.Challenge.pw_ez0016_01, List.getD, List.getElem?_cons_succ, List.getElem?_cons_zero, Option.getD]
  k_steps
  all_goals (try (with_reducible rename Fr _ _ _ _ => FF))
  all_goals (try (with_reducible rename News _ _ _ _ => NN))
  all_goals
    rename (KBw.bInts (_ ++ _) = _) => hcat
    refine hret _ _ _ _ _ _ hcat (by rw [List.length_append]; omega) FF rfl rfl rfl rfl rfl NN

theorem y_10 {w : World} {mg mb : Str → Option Value} {dp un : Nat} {gd : Option (List Code)} {s : Shared} {E : Value → Shared → Prop}
    {h₀ : Heap} {L : Addr} {m : Str → Option Value} {news : List (Addr × Obj)} {Q : Flow → Shared → Prop} (hd0 : Int) (th : Tok) (b : Array UInt8) (ks : List Int) (hb : KBw.bInts b = ks) (tb : Tok) (hsz : ks.length ≤ 90)(hh : Array UInt8) (hs : List Int) (hhb : KBw.bInts hh = hs) (thh : Tok) (hhz : hs.length ≤ 30)(a : Array UInt8) (as : List Int) (ha : KBw.bInts a = as) (ta : Tok) (haz : as.length ≤ 18) (c : Array UInt8) (sg : List Int) (hc : KBw.bInts c = sg) (tc : Tok) (hcz : sg.length ≤ 113)
    (X : (KH w.params).In h₀) (T : TopRead q lw mg mb h₀) (F : Fr h₀ L s.heap (fun y => if y = Str.ofString "head" then some (.int hd0 th) else if y = Str.ofString "inner" then some (.bytes b tb) else if y = Str.ofString "hashed" then some (.bytes hh thh) else if y = Str.ofString "ahead" then some (.bytes a ta) else if y = Str.ofString "sig" then some (.bytes c tc) else m y)) (N : News h₀ L s.heap news) (hd : dp + 450 < recursionLimit) (hu : un + 1300 < cLine)
    (hret : ∀ c' sg' t' h' tk' m', KBw.bInts c' = sg' → sg'.length ≤ 113 → Fr h₀ L h' m' → m' (Str.ofString "head") = some (.int hd0 th) → m' (Str.ofString "inner") = some (.bytes b tb) → m' (Str.ofString "hashed") = some (.bytes hh thh) → m' (Str.ofString "ahead") = some (.bytes a ta) → m' (Str.ofString "cut") = some (.bytes c' t') → News h₀ L h' (news) → Q .next { s with heap := h', toks := tk' }) :
    wpAny (model PySem.Challenge.rw_ez0016_01.prog w) (Ar dp un (some [y_E w L]) gd) (exec (yS w 10) (y_E w L)) Q E s := by
  revert X; k_fill; intro X
  dsimp only [yS, yB, bodyOf, fdOf, t915, fnS, nth, pw, PySem.Challenge.pw_ez0016_01, List.getD, List.getElem?_cons_succ, List.getElem?_cons_zero, Option.getD]
  k_steps
  all_goals (try (with_reducible rename Fr _ _ _ _ => FF))
  all_goals (try (with_reducible rename News _ _ _ _ => NN))
  all_goals
    rename (KBw.bInts (KBy.picked _ _ _) = _) => hcat
    refine hret _ _ _ _ _ _ hcat (Nat.le_trans (List.length_take_le' ..) hcz) FF rfl rfl rfl rfl rfl NN
end Mine
namespace Mine
local macro_rules | `(tactic| k_room) => `(tactic| ((try simp only [depth_under_make, depth_under_kw, depth_in1, depth_deeper, depth_caller]); (try dsimp only [Ar]); omega))
local macro_rules | `(tactic| k_units) => `(tactic| ((try simp only [units_in1, units_deeper, Around.mark_units, units_caller]); (try dsimp only [Ar]); omega))
local macro_rules | `(tactic| cell_enter) => `(tactic| (refine' enterK ?k1 ?k2 ?k6 ?k7 ?k8 ?k9 ?kB ?_ ?c2 ?c3 ?c4 ?c5; (case k1 => assumption); (case k2 => exact TopRead.nolimit (by assumption)); (case k6 => k_is); (case k7 => k_is); (case k8 => k_room); (case k9 => first | exact BindsTo.of_eq rfl | exact binds_K (by assumption) rfl (by k_is) rfl rfl rfl | fail "k_enter: no rule for these arguments"); (case c5 => decide); (case kB => exact locs rfl); (case c2 => exact rfl); (case c3 => exact rfl); (case c4 => exact rfl); k_whole; intro L' h' F' N' kSz; (try dsimp only); (try k_fold)))
local macro_rules | `(tactic| walk_at "call type:bytes") => `(tactic| (k_here; (with_reducible show wpAny _ _ (call (Value.type _) [Value.bytes _ _]) _ _ _); (with_unfolding_all refine call_bytes_bytes ?_)))
local macro_rules | `(tactic| walk_at "call ref") => `(tactic| (k_here; (with_reducible show wpAny _ _ (call (Value.ref 832) [Value.bytes _ _] _) _ _ _); k_dflt ((with_reducible rename Fr _ _ _ _ => FF); (with_reducible rename News _ _ _ _ => NN); (with_reducible rename Frag.In _ _ => XX); (with_reducible rename TopRead _ _ _ _ _ => TT); (with_reducible rename (AllBare _ → AllBare _) => BB); refine' so_k _ _ ?kb _ ?ksz _ _ ?kk ?kX ?kT ?kd ?ku ?_; (case kb => assumption); (case ksz => first | assumption | omega); (case kk => rfl); (case kX => exact Frag.In.keeps XX FF.keep); (case kT => exact TopRead.keeps TT FF.keep); (case kd => k_room); (case ku => k_units); (intro t h' tk' g' hk' hg'; (have F' := Fr.keeps FF hk'); (have N' := News.keeps NN hk'); (have BB' := fun z => hg' (BB z)); clear FF NN hk' BB hg'; (try dsimp only at F' N' BB' ⊢)))))
local macro_rules | `(tactic| walk_at "call ref") => `(tactic| (k_here; (with_reducible show wpAny _ _ (call (Value.ref 872) [Value.bytes _ _, Value.bool _]) _ _ _); k_dflt ((with_reducible rename Fr _ _ _ _ => FF); (with_reducible rename News _ _ _ _ => NN); (with_reducible rename Frag.In _ _ => XX); (with_reducible rename TopRead _ _ _ _ _ => TT); (with_reducible rename (AllBare _ → AllBare _) => BB); refine' kn_p ?kb ?ksz _ ?kX ?kT ?kd ?ku ?_; (case kb => assumption); (case ksz => first | assumption | omega); (case kX => exact Frag.In.keeps XX FF.keep); (case kT => exact TopRead.keeps TT FF.keep); (case kd => k_room); (case ku => k_units); (intro t h' tk' g' hk' hg'; (have F' := Fr.keeps FF hk'); (have N' := News.keeps NN hk'); (have BB' := fun z => hg' (BB z)); clear FF NN hk' BB hg'; (try dsimp only at F' N' BB' ⊢)))))
local macro_rules | `(tactic| walk_at "call ref") => `(tactic| (k_here; (with_reducible show wpAny _ _ (call (Value.ref 903) [Value.bytes _ _]) _ _ _); k_dflt ((with_reducible rename Fr _ _ _ _ => FF); (with_reducible rename News _ _ _ _ => NN); (with_reducible rename Frag.In _ _ => XX); (with_reducible rename TopRead _ _ _ _ _ => TT); refine' ta_p _ _ ?kb _ ?ksz ?kX ?kT ?kd ?ku ?_ ?_; (case kb => assumption); (case ksz => first | assumption | omega); (case kX => exact Frag.In.keeps XX FF.keep); (case kT => exact TopRead.keeps TT FF.keep); (case kd => k_room); (case ku => k_units); all_goals first | (intro hlp h' tk' hk'; (have F' := Fr.keeps FF hk'); (have N' := News.keeps NN hk'); clear FF NN hk'; (try dsimp only at F' N' ⊢)) | (intro d' t' hlp hdl h' tk' hk'; (have hdz' := Nat.le_trans hdl (show _ ≤ 4096 by omega)); (have F' := Fr.keeps FF hk'); (have N' := News.keeps NN hk'); clear FF NN hk'; (try dsimp only at F' N' ⊢)))))
local macro_rules | `(tactic| walk_at "call ref") => `(tactic| (k_here; (with_reducible show wpAny _ _ (call (Value.ref 846) [Value.bytes _ _, Value.bytes _ _]) _ _ _); k_dflt ((with_reducible rename Fr _ _ _ _ => FF); (with_reducible rename News _ _ _ _ => NN); (with_reducible rename Frag.In _ _ => XX); (with_reducible rename TopRead _ _ _ _ _ => TT); (with_reducible rename (AllBare _ → AllBare _) => BB); refine' pp_p ?kb ?ksz ?kc ?kcz ?kS ?kZ ?kd ?ku ?_; (case kb => assumption); (case ksz => first | assumption | omega); (case kc => assumption); (case kcz => first | assumption | omega); (case kS => exact stand_law FF); (case kZ => exact zed_law FF XX TT); (case kd => k_room); (case ku => k_units); (intro t' h' tk' g' hst' hup' hg'; (obtain ⟨F', N'⟩ := law_after FF NN hst' hup'); (have BB' := fun z => hg' (BB z)); clear FF NN hst' hup' BB hg'; (try dsimp only at F' N' BB' ⊢)))))

theorem y_4i {w : World} {mg mb : Str → Option Value} {dp un : Nat} {gd : Option (List Code)} {s : Shared} {E : Value → Shared → Prop}
    {h₀ : Heap} {L : Addr} {m : Str → Option Value} {news : List (Addr × Obj)} {Q : Value → Shared → Prop} 
    (X : (KH w.params).In h₀) (T : TopRead q lw mg mb h₀) (F : Fr h₀ L s.heap m) (N : News h₀ L s.heap news) (hd : dp + 450 < recursionLimit) (hu : un + 1300 < cLine)
    (hret : ∀ D h' tk', Fr h₀ L h' m → News h₀ L h' ((D, tupO [.bool false, .bool true]) :: news) → Q (.ref D) { s with heap := h', toks := tk' }) :
    wpAny (model PySem.Challenge.rw_ez0016_01.prog w) (Ar dp un (some [y_E w L]) gd) (eval (forIter (yS w 4)) (y_E w L)) Q E s := by
  revert X; k_fill; intro X
  dsimp only [forTgt, forIter, forBody, yS, yB, bodyOf, fdOf, t915, fnS, nth, pw, PySem.Challenge.pw_ez0016_01, List.getD, List.getElem?_cons_succ, List.getElem?_cons_zero, Option.getD]
  k_steps
  all_goals (try (with_reducible rename Fr _ _ _ _ => FF))
  all_goals (try (with_reducible rename News _ _ _ _ => NN))
  all_goals exact hret _ _ _ FF NN

theorem y_4t {w : World} {mg mb : Str → Option Value} {dp un : Nat} {gd : Option (List Code)} {s : Shared} {E : Value → Shared → Prop}
    {h₀ : Heap} {L : Addr} {m : Str → Option Value} {news : List (Addr × Obj)} {Q : Flow → Shared → Prop} {J : (Str → Option Value) → Prop} (NU : Addr) (acc : Bool) (hd0 : Int) (th : Tok) (b : Array UInt8) (ks : List Int) (hb : KBw.bInts b = ks) (tb : Tok) (hsz : ks.length ≤ 90)(BB : AllBare s.gens → AllBare s.gens)
    (X : (KH w.params).In h₀) (T : TopRead q lw mg mb h₀) (F : Fr h₀ L s.heap (fun y => if y = Str.ofString "numbers" then some (.ref NU) else if y = Str.ofString "head" then some (.int hd0 th) else if y = Str.ofString "inner" then some (.bytes b tb) else m y)) (N : News h₀ L s.heap news) (hd : dp + 450 < recursionLimit) (hu : un + 1300 < cLine)
    (hJ : ∀ m', m' (Str.ofString "numbers") = some (.ref NU) → m' (Str.ofString "head") = some (.int hd0 th) → m' (Str.ofString "inner") = some (.bytes b tb) → J m') :
    wpAny (model PySem.Challenge.rw_ez0016_01.prog w) (Ar dp un (some [y_E w L]) gd) (assign (forTgt (yS w 4)) (y_E w L) (.bool acc)) (fun _ s₂ => wpAny (model PySem.Challenge.rw_ez0016_01.prog w) (Ar dp un (some [y_E w L]) gd) (execs (forBody (yS w 4)) (y_E w L)) (GPost2 h₀ L J news s Q) E s₂) E s := by
  revert X; k_fill; intro X
  dsimp only [forTgt, forIter, forBody, yS, yB, bodyOf, fdOf, t915, fnS, nth, pw, PySem.Challenge.pw_ez0016_01, List.getD, List.getElem?_cons_succ, List.getElem?_cons_zero, Option.getD]
  k_steps
  all_goals (try (with_reducible rename Fr _ _ _ _ => FF))
  all_goals (try (with_reducible rename News _ _ _ _ => NN))
  all_goals
    with_reducible rename (AllBare _ → AllBare _) => BB
    first
    | exact GPost2.intro FF NN (fun p hp => hp) BB (hJ _ rfl rfl rfl)
    | (exfalso; first | exact absurd rfl (by assumption) | exact absurd (by assumption) (by assumption) | contradiction)
    | trace_state

theorem y_8 {w : World} {mg mb : Str → Option Value} {dp un : Nat} {gd : Option (List Code)} {s : Shared} {E : Value → Shared → Prop}
    {h₀ : Heap} {L : Addr} {m : Str → Option Value} {news : List (Addr × Obj)} {Q : Flow → Shared → Prop} (hd0 : Int) (th : Tok) (b : Array UInt8) (ks : List Int) (hb : KBw.bInts b = ks) (tb : Tok) (hsz : ks.length ≤ 90)(hh : Array UInt8) (hs : List Int) (hhb : KBw.bInts hh = hs) (thh : Tok) (hhz : hs.length ≤ 30)(a : Array UInt8) (as : List Int) (ha : KBw.bInts a = as) (ta : Tok) (haz : as.length ≤ 18) (c : Array UInt8) (sg : List Int) (hc : KBw.bInts c = sg) (tc : Tok) (hcz : sg.length ≤ 113)
    (X : (KH w.params).In h₀) (T : TopRead q lw mg mb h₀) (F : Fr h₀ L s.heap (fun y => if y = Str.ofString "head" then some (.int hd0 th) else if y = Str.ofString "inner" then some (.bytes b tb) else if y = Str.ofString "hashed" then some (.bytes hh thh) else if y = Str.ofString "ahead" then some (.bytes a ta) else if y = Str.ofString "sig" then some (.bytes c tc) else m y)) (N : News h₀ L s.heap news) (hd : dp + 450 < recursionLimit) (hu : un + 1300 < cLine)
    (hnone : lp sg = none → ∀ h' tk' m', Fr h₀ L h' m' → m' (Str.ofString "head") = some (.int hd0 th) → m' (Str.ofString "inner") = some (.bytes b tb) → m' (Str.ofString "hashed") = some (.bytes hh thh) → m' (Str.ofString "ahead") = some (.bytes a ta) → m' (Str.ofString "sig") = some (.bytes c tc) → m' (Str.ofString "last") = some (.none) → News h₀ L h' news → Q .next { s with heap := h', toks := tk' })
    (hsome : ∀ d td, lp sg = some (KBw.bInts d) → (KBw.bInts d).length ≤ 4096 → ∀ h' tk' m', Fr h₀ L h' m' → m' (Str.ofString "head") = some (.int hd0 th) → m' (Str.ofString "inner") = some (.bytes b tb) → m' (Str.ofString "hashed") = some (.bytes hh thh) → m' (Str.ofString "ahead") = some (.bytes a ta) → m' (Str.ofString "sig") = some (.bytes c tc) → m' (Str.ofString "last") = some (.bytes d td) → News h₀ L h' news → Q .next { s with heap := h', toks := tk' }) :
    wpAny (model PySem.Challenge.rw_ez0016_01.prog w) (Ar dp un (some [y_E w L]) gd) (exec (yS w 8) (y_E w L)) Q E s := by
  revert X; k_fill; intro X
  dsimp only [yS, yB, bodyOf, fdOf, t915, fnS, nth, pw, PySem.Challenge.pw_ez0016_01, List.getD, List.getElem?_cons_succ, List.getElem?_cons_zero, Option.getD]
  k_steps
  all_goals (try (with_reducible rename Fr _ _ _ _ => FF))
  all_goals (try (with_reducible rename News _ _ _ _ => NN))
  all_goals first
    | exact hnone (by assumption) _ _ _ FF rfl rfl rfl rfl rfl rfl NN
    | exact hsome _ _ (by assumption) (by assumption) _ _ _ FF rfl rfl rfl rfl rfl rfl NN

theorem y_11 {w : World} {mg mb : Str → Option Value} {dp un : Nat} {gd : Option (List Code)} {s : Shared} {E : Value → Shared → Prop}
    {h₀ : Heap} {L : Addr} {m : Str → Option Value} {news : List (Addr × Obj)} {Q : Flow → Shared → Prop} (hd0 : Int) (th : Tok) (b : Array UInt8) (ks : List Int) (hb : KBw.bInts b = ks) (tb : Tok) (hsz : ks.length ≤ 90)(hh : Array UInt8) (hs : List Int) (hhb : KBw.bInts hh = hs) (thh : Tok) (hhz : hs.length ≤ 30)(a : Array UInt8) (as : List Int) (ha : KBw.bInts a = as) (ta : Tok) (haz : as.length ≤ 18) (c : Array UInt8) (sg : List Int) (hc : KBw.bInts c = sg) (tc : Tok) (hcz : sg.length ≤ 113)
    (X : (KH w.params).In h₀) (T : TopRead q lw mg mb h₀) (F : Fr h₀ L s.heap (fun y => if y = Str.ofString "head" then some (.int hd0 th) else if y = Str.ofString "inner" then some (.bytes b tb) else if y = Str.ofString "hashed" then some (.bytes hh thh) else if y = Str.ofString "ahead" then some (.bytes a ta) else if y = Str.ofString "cut" then some (.bytes c tc) else m y)) (N : News h₀ L s.heap news) (hd : dp + 450 < recursionLimit) (hu : un + 1300 < cLine)
    (hnone : lp sg = none → ∀ h' tk' m', Fr h₀ L h' m' → m' (Str.ofString "head") = some (.int hd0 th) → m' (Str.ofString "inner") = some (.bytes b tb) → m' (Str.ofString "hashed") = some (.bytes hh thh) → m' (Str.ofString "ahead") = some (.bytes a ta) → m' (Str.ofString "cut") = some (.bytes c tc) → m' (Str.ofString "last") = some (.none) → News h₀ L h' news → Q .next { s with heap := h', toks := tk' })
    (hsome : ∀ d td, lp sg = some (KBw.bInts d) → (KBw.bInts d).length ≤ 4096 → ∀ h' tk' m', Fr h₀ L h' m' → m' (Str.ofString "head") = some (.int hd0 th) → m' (Str.ofString "inner") = some (.bytes b tb) → m' (Str.ofString "hashed") = some (.bytes hh thh) → m' (Str.ofString "ahead") = some (.bytes a ta) → m' (Str.ofString "cut") = some (.bytes c tc) → m' (Str.ofString "last") = some (.bytes d td) → News h₀ L h' news → Q .next { s with heap := h', toks := tk' }) :
    wpAny (model PySem.Challenge.rw_ez0016_01.prog w) (Ar dp un (some [y_E w L]) gd) (exec (yS w 11) (y_E w L)) Q E s := by
  revert X; k_fill; intro X
  dsimp only [yS, yB, bodyOf, fdOf, t915, fnS, nth, pw, PySem.Challenge.pw_ez0016_01, List.getD, List.getElem?_cons_succ, List.getElem?_cons_zero, Option.getD]
  k_steps
  all_goals (try (with_reducible rename Fr _ _ _ _ => FF))
  all_goals (try (with_reducible rename News _ _ _ _ => NN))
  all_goals first
    | exact hnone (by assumption) _ _ _ FF rfl rfl rfl rfl rfl rfl NN
    | exact hsome _ _ (by assumption) (by assumption) _ _ _ FF rfl rfl rfl rfl rfl rfl NN

theorem y_9n {w : World} {mg mb : Str → Option Value} {dp un : Nat} {gd : Option (List Code)} {s : Shared} {E : Value → Shared → Prop}
    {h₀ : Heap} {L : Addr} {m : Str → Option Value} {news : List (Addr × Obj)} {Q : Flow → Shared → Prop} (hd0 : Int) (th : Tok) (b : Array UInt8) (ks : List Int) (hb : KBw.bInts b = ks) (tb : Tok) (hsz : ks.length ≤ 90)(hh : Array UInt8) (hs : List Int) (hhb : KBw.bInts hh = hs) (thh : Tok) (hhz : hs.length ≤ 30)(a : Array UInt8) (as : List Int) (ha : KBw.bInts a = as) (ta : Tok) (haz : as.length ≤ 18) (c : Array UInt8) (sg : List Int) (hc : KBw.bInts c = sg) (tc : Tok) (hcz : sg.length ≤ 113)(BB : AllBare s.gens → AllBare s.gens)(e1 : p2n sg hs = 0) (e2 : p2n sg ks = cnt true ks) 
    (X : (KH w.params).In h₀) (T : TopRead q lw mg mb h₀) (F : Fr h₀ L s.heap (fun y => if y = Str.ofString "head" then some (.int hd0 th) else if y = Str.ofString "inner" then some (.bytes b tb) else if y = Str.ofString "hashed" then some (.bytes hh thh) else if y = Str.ofString "ahead" then some (.bytes a ta) else if y = Str.ofString "sig" then some (.bytes c tc) else if y = Str.ofString "last" then some (.none) else m y)) (N : News h₀ L s.heap news) (hd : dp + 450 < recursionLimit) (hu : un + 1300 < cLine)
    (hret : ∀  h' tk' g' m', Fr h₀ L h' m' → m' (Str.ofString "head") = some (.int hd0 th) → m' (Str.ofString "inner") = some (.bytes b tb) → m' (Str.ofString "hashed") = some (.bytes hh thh) → m' (Str.ofString "ahead") = some (.bytes a ta) → m' (Str.ofString "sig") = some (.bytes c tc) → News h₀ L h' (news) → (AllBare s.gens → AllBare g') → Q .next { s with heap := h', toks := tk', gens := g' }) :
    wpAny (model PySem.Challenge.rw_ez0016_01.prog w) (Ar dp un (some [y_E w L]) gd) (exec (yS w 9) (y_E w L)) Q E s := by
  revert X; k_fill; intro X
  dsimp only [yS, yB, bodyOf, fdOf, t915, fnS, nth, pw, PySem.Challenge.pw_ez0016_01, List.getD, List.getElem?_cons_succ, List.getElem?_cons_zero, Option.getD]
  k_steps
  all_goals (try (with_reducible rename Fr _ _ _ _ => FF))
  all_goals (try (with_reducible rename News _ _ _ _ => NN))
  all_goals
    with_reducible rename (AllBare _ → AllBare _) => BB
    first
    | exact hret _ _ _ _ FF rfl rfl rfl rfl rfl NN BB
    | (exfalso; first | exact absurd rfl (by assumption) | exact absurd (by assumption) (by assumption) | contradiction)
    | trace_state

theorem y_9s {w : World} {mg mb : Str → Option Value} {dp un : Nat} {gd : Option (List Code)} {s : Shared} {E : Value → Shared → Prop}
    {h₀ : Heap} {L : Addr} {m : Str → Option Value} {news : List (Addr × Obj)} {Q : Flow → Shared → Prop} (hd0 : Int) (th : Tok) (b : Array UInt8) (ks : List Int) (hb : KBw.bInts b = ks) (tb : Tok) (hsz : ks.length ≤ 90)(hh : Array UInt8) (hs : List Int) (hhb : KBw.bInts hh = hs) (thh : Tok) (hhz : hs.length ≤ 30)(a : Array UInt8) (as : List Int) (ha : KBw.bInts a = as) (ta : Tok) (haz : as.length ≤ 18) (c : Array UInt8) (sg : List Int) (hc : KBw.bInts c = sg) (tc : Tok) (hcz : sg.length ≤ 113)(BB : AllBare s.gens → AllBare s.gens)(d : Array UInt8) (td : Tok) (ds : List Int) (hdb : KBw.bInts d = ds) (hdz : ds.length ≤ 4096) (e1 : p2n sg hs = cnt true ds) (e2 : p2n sg ks = cnt true ks) 
    (X : (KH w.params).In h₀) (T : TopRead q lw mg mb h₀) (F : Fr h₀ L s.heap (fun y => if y = Str.ofString "head" then some (.int hd0 th) else if y = Str.ofString "inner" then some (.bytes b tb) else if y = Str.ofString "hashed" then some (.bytes hh thh) else if y = Str.ofString "ahead" then some (.bytes a ta) else if y = Str.ofString "sig" then some (.bytes c tc) else if y = Str.ofString "last" then some (.bytes d td) else m y)) (N : News h₀ L s.heap news) (hd : dp + 450 < recursionLimit) (hu : un + 1300 < cLine)
    (hret : ∀  h' tk' g' m', Fr h₀ L h' m' → m' (Str.ofString "head") = some (.int hd0 th) → m' (Str.ofString "inner") = some (.bytes b tb) → m' (Str.ofString "hashed") = some (.bytes hh thh) → m' (Str.ofString "ahead") = some (.bytes a ta) → m' (Str.ofString "sig") = some (.bytes c tc) → News h₀ L h' (news) → (AllBare s.gens → AllBare g') → Q .next { s with heap := h', toks := tk', gens := g' }) :
    wpAny (model PySem.Challenge.rw_ez0016_01.prog w) (Ar dp un (some [y_E w L]) gd) (exec (yS w 9) (y_E w L)) Q E s := by
  revert X; k_fill; intro X
  dsimp only [yS, yB, bodyOf, fdOf, t915, fnS, nth, pw, PySem.Challenge.pw_ez0016_01, List.getD, List.getElem?_cons_succ, List.getElem?_cons_zero, Option.getD]
  k_steps
  all_goals (try (with_reducible rename Fr _ _ _ _ => FF))
  all_goals (try (with_reducible rename News _ _ _ _ => NN))
  all_goals
    with_reducible rename (AllBare _ → AllBare _) => BB
    first
    | exact hret _ _ _ _ FF rfl rfl rfl rfl rfl NN BB
    | (exfalso; first | exact absurd rfl (by assumption) | exact absurd (by assumption) (by assumption) | contradiction)
    | trace_state

theorem y_12n {w : World} {mg mb : Str → Option Value} {dp un : Nat} {gd : Option (List Code)} {s : Shared} {E : Value → Shared → Prop}
    {h₀ : Heap} {L : Addr} {m : Str → Option Value} {news : List (Addr × Obj)} {Q : Flow → Shared → Prop} (hd0 : Int) (th : Tok) (b : Array UInt8) (ks : List Int) (hb : KBw.bInts b = ks) (tb : Tok) (hsz : ks.length ≤ 90)(hh : Array UInt8) (hs : List Int) (hhb : KBw.bInts hh = hs) (thh : Tok) (hhz : hs.length ≤ 30)(a : Array UInt8) (as : List Int) (ha : KBw.bInts a = as) (ta : Tok) (haz : as.length ≤ 18) (c : Array UInt8) (sg : List Int) (hc : KBw.bInts c = sg) (tc : Tok) (hcz : sg.length ≤ 113)(BB : AllBare s.gens → AllBare s.gens)(e1 : p2n sg hs = 0) 
    (X : (KH w.params).In h₀) (T : TopRead q lw mg mb h₀) (F : Fr h₀ L s.heap (fun y => if y = Str.ofString "head" then some (.int hd0 th) else if y = Str.ofString "inner" then some (.bytes b tb) else if y = Str.ofString "hashed" then some (.bytes hh thh) else if y = Str.ofString "ahead" then some (.bytes a ta) else if y = Str.ofString "cut" then some (.bytes c tc) else if y = Str.ofString "last" then some (.none) else m y)) (N : News h₀ L s.heap news) (hd : dp + 450 < recursionLimit) (hu : un + 1300 < cLine)
    (hret : ∀  h' tk' g' m', Fr h₀ L h' m' → m' (Str.ofString "head") = some (.int hd0 th) → m' (Str.ofString "inner") = some (.bytes b tb) → m' (Str.ofString "hashed") = some (.bytes hh thh) → m' (Str.ofString "ahead") = some (.bytes a ta) → News h₀ L h' (news) → (AllBare s.gens → AllBare g') → Q .next { s with heap := h', toks := tk', gens := g' }) :
    wpAny (model PySem.Challenge.rw_ez0016_01.prog w) (Ar dp un (some [y_E w L]) gd) (exec (yS w 12) (y_E w L)) Q E s := by
  revert X; k_fill; intro X
  dsimp only [yS, yB, bodyOf, fdOf, t915, fnS, nth, pw, PySem.Challenge.pw_ez0016_01, List.getD, List.getElem?_cons_succ, List.getElem?_cons_zero, Option.getD]
  k_steps
  all_goals (try (with_reducible rename Fr _ _ _ _ => FF))
  all_goals (try (with_reducible rename News _ _ _ _ => NN))
  all_goals
    with_reducible rename (AllBare _ → AllBare _) => BB
    first
    | exact hret _ _ _ _ FF rfl rfl rfl rfl NN BB
    | (exfalso; first | exact absurd rfl (by assumption) | exact absurd (by assumption) (by assumption) | contradiction)
    | trace_state

theorem y_12s {w : World} {mg mb : Str → Option Value} {dp un : Nat} {gd : Option (List Code)} {s : Shared} {E : Value → Shared → Prop}
    {h₀ : Heap} {L : Addr} {m : Str → Option Value} {news : List (Addr × Obj)} {Q : Flow → Shared → Prop} (hd0 : Int) (th : Tok) (b : Array UInt8) (ks : List Int) (hb : KBw.bInts b = ks) (tb : Tok) (hsz : ks.length ≤ 90)(hh : Array UInt8) (hs : List Int) (hhb : KBw.bInts hh = hs) (thh : Tok) (hhz : hs.length ≤ 30)(a : Array UInt8) (as : List Int) (ha : KBw.bInts a = as) (ta : Tok) (haz : as.length ≤ 18) (c : Array UInt8) (sg : List Int) (hc : KBw.bInts c = sg) (tc : Tok) (hcz : sg.length ≤ 113)(BB : AllBare s.gens → AllBare s.gens)(d : Array UInt8) (td : Tok) (ds : List Int) (hdb : KBw.bInts d = ds) (hdz : ds.length ≤ 4096) (e1 : p2n sg hs = cnt true ds) 
    (X : (KH w.params).In h₀) (T : TopRead q lw mg mb h₀) (F : Fr h₀ L s.heap (fun y => if y = Str.ofString "head" then some (.int hd0 th) else if y = Str.ofString "inner" then some (.bytes b tb) else if y = Str.ofString "hashed" then some (.bytes hh thh) else if y = Str.ofString "ahead" then some (.bytes a ta) else if y = Str.ofString "cut" then some (.bytes c tc) else if y = Str.ofString "last" then some (.bytes d td) else m y)) (N : News h₀ L s.heap news) (hd : dp + 450 < recursionLimit) (hu : un + 1300 < cLine)
    (hret : ∀  h' tk' g' m', Fr h₀ L h' m' → m' (Str.ofString "head") = some (.int hd0 th) → m' (Str.ofString "inner") = some (.bytes b tb) → m' (Str.ofString "hashed") = some (.bytes hh thh) → m' (Str.ofString "ahead") = some (.bytes a ta) → News h₀ L h' (news) → (AllBare s.gens → AllBare g') → Q .next { s with heap := h', toks := tk', gens := g' }) :
    wpAny (model PySem.Challenge.rw_ez0016_01.prog w) (Ar dp un (some [y_E w L]) gd) (exec (yS w 12) (y_E w L)) Q E s := by
  revert X; k_fill; intro X
  dsimp only [yS, yB, bodyOf, fdOf, t915, fnS, nth, pw, PySem.Challenge.pw_ez0016_01, List.getD, List.getElem?_cons_succ, List.getElem?_cons_zero, Option.getD]
  k_steps
  all_goals (try (with_reducible rename Fr _ _ _ _ => FF))
  all_goals (try (with_reducible rename News _ _ _ _ => NN))
  all_goals
    with_reducible rename (AllBare _ → AllBare _) => BB
    first
    | exact hret _ _ _ _ FF rfl rfl rfl rfl NN BB
    | (exfalso; first | exact absurd rfl (by assumption) | exact absurd (by assumption) (by assumption) | contradiction)
    | trace_state

theorem y4_is (w : World) : ∃ pos, yS w 4 = .For (forTgt (yS w 4)) (forIter (yS w 4)) (forBody (yS w 4)) [] pos := ⟨_, rfl⟩
theorem y_4 {w : World} {mg mb : Str → Option Value} {dp un : Nat} {gd : Option (List Code)} {s : Shared} {E : Value → Shared → Prop} {h₀ : Heap} {L : Addr} {m : Str → Option Value} {news : List (Addr × Obj)} {Q : Flow → Shared → Prop} (NU : Addr) (hd0 : Int) (th : Tok) (b : Array UInt8) (ks : List Int) (hb : KBw.bInts b = ks) (tb : Tok) (hsz : ks.length ≤ 90)
    (X : (KH w.params).In h₀) (T : TopRead q lw mg mb h₀) (F : Fr h₀ L s.heap (fun y => if y = Str.ofString "numbers" then some (.ref NU) else if y = Str.ofString "head" then some (.int hd0 th) else if y = Str.ofString "inner" then some (.bytes b tb) else m y)) (N : News h₀ L s.heap news) (hd : dp + 450 < recursionLimit) (hu : un + 1300 < cLine)
    (hret : ∀ h' tk' g' m', Fr h₀ L h' m' → m' (Str.ofString "numbers") = some (.ref NU) → m' (Str.ofString "head") = some (.int hd0 th) → m' (Str.ofString "inner") = some (.bytes b tb) → News h₀ L h' news → (AllBare s.gens → AllBare g') → Q .next { s with heap := h', toks := tk', gens := g' }) :
    wpAny (model RP w) (Ar dp un (some [y_E w L]) gd) (exec (yS w 4) (y_E w L)) Q E s := by
  obtain ⟨pos, he⟩ := y4_is w
  rw [he]
  refine wpAny_For (y_4i X T F N hd hu (fun D h₁ tk₁ F₁ N₁ => ?_)) (by intro _; rfl)
  have hD := N₁ _ (.head _)
  refine loop_seq (b := false) (news := news) (env := y_E w L) (items := #[.bool false, .bool true]) (fun j m' => m' (Str.ofString "numbers") = some (.ref NU) ∧ m' (Str.ofString "head") = some (.int hd0 th) ∧ m' (Str.ofString "inner") = some (.bytes b tb)) rfl F₁ (fun p hp => N₁ p (.tail _ hp)) (show SeqAt false h₁ D _ from ⟨_, hD.1, rfl, _, rfl⟩) hD.2.1 ⟨rfl, rfl, rfl⟩ (fun j v m' h tk g news₁ E' hv hj hb' F' N' hsub _ => ?_) (fun m' h tk g hj hb' F' N' => ?_)
  · obtain ⟨acc, rfl⟩ : ∃ acc, v = .bool acc := by
      match j, hv with
      | 0, hv => exact ⟨false, by simpa using hv.symm⟩
      | 1, hv => exact ⟨true, by simpa using hv.symm⟩
      | j + 2, hv => simp at hv
    exact y_4t NU acc hd0 th b ks hb tb hsz (fun h => h) X T (fr3 F' hj.1 hj.2.1 hj.2.2) N' hd hu (fun m'' a1 a2 a3 => ⟨a1, a2, a3⟩)
  · exact hret _ _ _ _ F' hj.1 hj.2.1 hj.2.2 N' hb'
end Mine
namespace Mine
local macro_rules | `(tactic| k_room) => `(tactic| ((try simp only [depth_under_make, depth_under_kw, depth_in1, depth_deeper, depth_caller]); (try dsimp only [Ar]); omega))
local macro_rules | `(tactic| k_units) => `(tactic| ((try simp only [units_in1, units_deeper, Around.mark_units, units_caller]); (try dsimp only [Ar]); omega))
local macro_rules | `(tactic| cell_enter) => `(tactic| (refine' enterK ?k1 ?k2 ?k6 ?k7 ?k8 ?k9 ?kB ?_ ?c2 ?c3 ?c4 ?c5; (case k1 => assumption); (case k2 => exact TopRead.nolimit (by assumption)); (case k6 => k_is); (case k7 => k_is); (case k8 => k_room); (case k9 => first | exact BindsTo.of_eq rfl | exact binds_K (by assumption) rfl (by k_is) rfl rfl rfl | fail "k_enter: no rule for these arguments"); (case c5 => decide); (case kB => exact locs rfl); (case c2 => exact rfl); (case c3 => exact rfl); (case c4 => exact rfl); k_whole; intro L' h' F' N' kSz; (try dsimp only); (try k_fold)))
local macro_rules | `(tactic| walk_at "call type:bytes") => `(tactic| (k_here; (with_reducible show wpAny _ _ (call (Value.type _) [Value.bytes _ _]) _ _ _); (with_unfolding_all refine call_bytes_bytes ?_)))

theorem pick_0 {x y : Value} {r : Int} (h : r = 0) : (slicePick #[x, y] (some r) none none).toList = [x, y] := by subst h; rw [kms_pick_eq]; rfl
theorem pick_1 {x y : Value} {r : Int} (h : r = 1) : (slicePick #[x, y] (some r) none none).toList = [y] := by subst h; rw [kms_pick_eq]; rfl
theorem news_two {h₀ h : Heap} {L : Addr} {a : Addr × Obj} {r : List (Addr × Obj)} (x : h.get? a.1 = some a.2 ∧ a.1 ≠ L ∧ h₀.get? a.1 = none) (y : News h₀ L h r) : News h₀ L h (a :: r) := fun p hp => by
  rcases List.mem_cons.mp hp with rfl | hp
  · exact x
  · exact y p hp
local macro_rules | `(tactic| walk_at "subscriptTail Name Slice ref ref") => `(tactic| (k_here; (with_reducible show wpAny _ _ (subscriptTail _ (PySem.Expr.Slice _ _ none _) (Value.ref _) (Value.ref _)) _ _ _); k_dflt ((with_reducible rename Fr _ _ _ _ => FF); (with_reducible rename News _ _ _ _ => NN); refine' kmk_slice_lit FF NN ?l ?p ?q ?e ?_ ?s ?t ?z; (case l => exact ⟨_, (NN _ (.head _)).1, rfl, _, rfl⟩); (case p => kmk_part); (case q => kmk_part); (case e => first | exact pick_0 (by assumption) | exact pick_1 (by assumption)); (case s => with_unfolding_all rfl); (case t => kmk_pure); (case z => exact Nat.le_of_ble_eq_true rfl)); intro D' h' F' N' l1; clear FF NN))

theorem y_13a {w : World} {mg mb : Str → Option Value} {dp un : Nat} {gd : Option (List Code)} {s : Shared} {E : Value → Shared → Prop}
    {h₀ : Heap} {L : Addr} {m : Str → Option Value} {news : List (Addr × Obj)} {Q : Flow → Shared → Prop} (hd0 : Int) (th : Tok) (b : Array UInt8) (ks : List Int) (hb : KBw.bInts b = ks) (tb : Tok) (hsz : ks.length ≤ 90)(hh : Array UInt8) (thh : Tok) (a : Array UInt8) (ta : Tok) (hr : (hd0.fdiv 2).fmod 2 = 0)
    (X : (KH w.params).In h₀) (T : TopRead q lw mg mb h₀) (F : Fr h₀ L s.heap (fun y => if y = Str.ofString "head" then some (.int hd0 th) else if y = Str.ofString "inner" then some (.bytes b tb) else if y = Str.ofString "hashed" then some (.bytes hh thh) else if y = Str.ofString "ahead" then some (.bytes a ta) else m y)) (N : News h₀ L s.heap news) (hd : dp + 450 < recursionLimit) (hu : un + 1300 < cLine)
    (hret : ∀ R t0 vals k h' tk' m', (vals = #[.bytes #[] t0, .bytes b tb] ∨ vals = #[.bytes b tb] ∨ vals = #[.bytes #[] t0, .bytes b tb, .bytes b tb] ∨ vals = #[.bytes b tb, .bytes b tb]) → (∀ p ∈ news, p.1 < R) → Fr h₀ L h' m' → m' (Str.ofString "inner") = some (.bytes b tb) → m' (Str.ofString "hashed") = some (.bytes hh thh) → m' (Str.ofString "ahead") = some (.bytes a ta) → m' (Str.ofString "rows") = some (.ref R) → News h₀ L h' ((R, listOf vals k) :: news) → Q .next { s with heap := h', toks := tk' }) :
    wpAny (model PySem.Challenge.rw_ez0016_01.prog w) (Ar dp un (some [y_E w L]) gd) (exec (yS w 13) (y_E w L)) Q E s := by
  revert X; k_fill; intro X
  dsimp only [yS, yB, bodyOf, fdOf, t915, fnS, nth, pw, PySem.Challenge.pw_ez0016_01, List.getD, List.getElem?_cons_succ, List.getElem?_cons_zero, Option.getD]
  k_steps
  all_goals (try (with_reducible rename Fr _ _ _ _ => FF))
  all_goals (try (with_reducible rename News _ _ _ _ => NN))
  all_goals first
    | exact hret _ _ _ _ _ _ _ (.inl rfl) (of_allLt (‹_ ∧ _ ∧ _ ∧ AllLt _ news›).2.2.2) FF rfl rfl rfl rfl (news_two (NN (_, _) (.head _)) (fun p hp => NN p (by simp [hp])))
    | exact hret _ 0 _ _ _ _ _ (.inr (.inl rfl)) (of_allLt (‹_ ∧ _ ∧ _ ∧ AllLt _ news›).2.2.2) FF rfl rfl rfl rfl (news_two (NN (_, _) (.head _)) (fun p hp => NN p (by simp [hp])))
    | exact hret _ _ _ _ _ _ _ (.inr (.inr (.inl rfl))) (of_allLt (‹_ ∧ _ ∧ _ ∧ AllLt _ news›).2.2.2) FF rfl rfl rfl rfl (news_two (NN (_, _) (.head _)) (fun p hp => NN p (by simp [hp])))
    | exact hret _ 0 _ _ _ _ _ (.inr (.inr (.inr rfl))) (of_allLt (‹_ ∧ _ ∧ _ ∧ AllLt _ news›).2.2.2) FF rfl rfl rfl rfl (news_two (NN (_, _) (.head _)) (fun p hp => NN p (by simp [hp])))
    | trace_state

theorem y_13b {w : World} {mg mb : Str → Option Value} {dp un : Nat} {gd : Option (List Code)} {s : Shared} {E : Value → Shared → Prop}
    {h₀ : Heap} {L : Addr} {m : Str → Option Value} {news : List (Addr × Obj)} {Q : Flow → Shared → Prop} (hd0 : Int) (th : Tok) (b : Array UInt8) (ks : List Int) (hb : KBw.bInts b = ks) (tb : Tok) (hsz : ks.length ≤ 90)(hh : Array UInt8) (thh : Tok) (a : Array UInt8) (ta : Tok) (hr : (hd0.fdiv 2).fmod 2 = 1)
    (X : (KH w.params).In h₀) (T : TopRead q lw mg mb h₀) (F : Fr h₀ L s.heap (fun y => if y = Str.ofString "head" then some (.int hd0 th) else if y = Str.ofString "inner" then some (.bytes b tb) else if y = Str.ofString "hashed" then some (.bytes hh thh) else if y = Str.ofString "ahead" then some (.bytes a ta) else m y)) (N : News h₀ L s.heap news) (hd : dp + 450 < recursionLimit) (hu : un + 1300 < cLine)
    (hret : ∀ R t0 vals k h' tk' m', (vals = #[.bytes #[] t0, .bytes b tb] ∨ vals = #[.bytes b tb] ∨ vals = #[.bytes #[] t0, .bytes b tb, .bytes b tb] ∨ vals = #[.bytes b tb, .bytes b tb]) → (∀ p ∈ news, p.1 < R) → Fr h₀ L h' m' → m' (Str.ofString "inner") = some (.bytes b tb) → m' (Str.ofString "hashed") = some (.bytes hh thh) → m' (Str.ofString "ahead") = some (.bytes a ta) → m' (Str.ofString "rows") = some (.ref R) → News h₀ L h' ((R, listOf vals k) :: news) → Q .next { s with heap := h', toks := tk' }) :
    wpAny (model PySem.Challenge.rw_ez0016_01.prog w) (Ar dp un (some [y_E w L]) gd) (exec (yS w 13) (y_E w L)) Q E s := by
  revert X; k_fill; intro X
  dsimp only [yS, yB, bodyOf, fdOf, t915, fnS, nth, pw, PySem.Challenge.pw_ez0016_01, List.getD, List.getElem?_cons_succ, List.getElem?_cons_zero, Option.getD]
  k_steps
  all_goals (try (with_reducible rename Fr _ _ _ _ => FF))
  all_goals (try (with_reducible rename News _ _ _ _ => NN))
  all_goals first
    | exact hret _ _ _ _ _ _ _ (.inl rfl) (of_allLt (‹_ ∧ _ ∧ _ ∧ AllLt _ news›).2.2.2) FF rfl rfl rfl rfl (news_two (NN (_, _) (.head _)) (fun p hp => NN p (by simp [hp])))
    | exact hret _ 0 _ _ _ _ _ (.inr (.inl rfl)) (of_allLt (‹_ ∧ _ ∧ _ ∧ AllLt _ news›).2.2.2) FF rfl rfl rfl rfl (news_two (NN (_, _) (.head _)) (fun p hp => NN p (by simp [hp])))
    | exact hret _ _ _ _ _ _ _ (.inr (.inr (.inl rfl))) (of_allLt (‹_ ∧ _ ∧ _ ∧ AllLt _ news›).2.2.2) FF rfl rfl rfl rfl (news_two (NN (_, _) (.head _)) (fun p hp => NN p (by simp [hp])))
    | exact hret _ 0 _ _ _ _ _ (.inr (.inr (.inr rfl))) (of_allLt (‹_ ∧ _ ∧ _ ∧ AllLt _ news›).2.2.2) FF rfl rfl rfl rfl (news_two (NN (_, _) (.head _)) (fun p hp => NN p (by simp [hp])))
    | trace_state
local macro_rules | `(tactic| walk_at "call ref") => `(tactic| (k_here; (with_reducible show wpAny _ _ (call (Value.ref 811) [Value.ref _]) _ _ _); k_dflt ((with_reducible rename Fr _ _ _ _ => FF); (with_reducible rename News _ _ _ _ => NN); (with_reducible rename Frag.In _ _ => XX); (with_reducible rename TopRead _ _ _ _ _ => TT); (have aR := NN (_, _) (.tail _ (.head _))); (have a7 := NN (_, _) (.head _)); refine' wit_p _ FF.keep aR.2.2 a7.2.2 aR.1 a7.1 ?ktr ?k7 ?kv ?kvs ?kb0 ?kB XX TT ?kd ?ku ?_; (case ktr => assumption); (case k7 => assumption); (case kv => assumption); (case kvs => assumption); (case kb0 => assumption); (case kB => assumption); (case kd => k_room); (case ku => k_units); (intro x' dx' D' t' h' tk' g' ps' more' eps' htr' hE' e7' ex' ed' eD' nx' nd' nD' n1' n2' n3' hab'; (obtain ⟨F', N'⟩ := wit_after FF NN (Nat.ne_of_lt (by assumption)) hE' e7' ex' ed' eD' nx' nd' nD'); clear FF NN hE' e7' ex' ed' eD' nx' nd' nD' aR a7; (try dsimp only at F' N' ⊢)))))

theorem y_14 {w : World} {mg mb : Str → Option Value} {dp un : Nat} {gd : Option (List Code)} {s : Shared} {E : Value → Shared → Prop}
    {h₀ : Heap} {L : Addr} {m : Str → Option Value} {news : List (Addr × Obj)} {Q : Flow → Shared → Prop} (ps : Array Value) (htr : TriplesOk ps.toList) (R : Addr) (vals : Array Value) (k : Nat) (h7R : @LT.lt Nat _ 767 R) (hvb : ∀ v ∈ vals, ∃ b t, v = .bytes b t) (hv4 : vals.size ≤ 4) (hb0 : AllBare s.gens) (hBM : ∃ bm ob, mg "__builtins__" = some (.ref bm) ∧ bm ≠ builtinsNs ∧ h₀.get? bm = some ob ∧ ob.cls = .type "module" ∧ ob.dict = some builtinsNs ∧ ob.data = .plain)(b : Array UInt8) (ks : List Int) (hb : KBw.bInts b = ks) (tb : Tok) (hsz : ks.length ≤ 90)(hh : Array UInt8) (hs : List Int) (hhb : KBw.bInts hh = hs) (thh : Tok) (hhz : hs.length ≤ 30)(a : Array UInt8) (as : List Int) (ha : KBw.bInts a = as) (ta : Tok) (haz : as.length ≤ 18) 
    (X : (KH w.params).In h₀) (T : TopRead q lw mg mb h₀) (F : Fr h₀ L s.heap (fun y => if y = Str.ofString "inner" then some (.bytes b tb) else if y = Str.ofString "hashed" then some (.bytes hh thh) else if y = Str.ofString "ahead" then some (.bytes a ta) else if y = Str.ofString "rows" then some (.ref R) else m y)) (N : News h₀ L s.heap ([(767, tabO ps), (R, listOf vals k)])) (hd : dp + 450 < recursionLimit) (hu : un + 1300 < cLine)
    (hret : ∀ x dx D t h' tk' g' ps' more m', ps' = ps ++ more → TriplesOk ps'.toList → x ≠ dx → D ≠ dx → D ≠ x → AllBare g' → Fr h₀ L h' m' → m' (Str.ofString "inner") = some (.bytes b tb) → m' (Str.ofString "hashed") = some (.bytes hh thh) → m' (Str.ofString "ahead") = some (.bytes a ta) → m' (Str.ofString "rows") = some (.ref R) → m' (Str.ofString "held") = some (.ref x) → News h₀ L h' [(767, tabO ps'), (x, instObj 811 dx), (dx, wDict w t D), (D, tupObj vals), (R, listOf vals k)] → Q .next { s with heap := h', toks := tk', gens := g' }) :
    wpAny (model PySem.Challenge.rw_ez0016_01.prog w) (Ar dp un (some [y_E w L]) gd) (exec (yS w 14) (y_E w L)) Q E s := by
  revert X; k_fill; intro X
  dsimp only [yS, yB, bodyOf, fdOf, t915, fnS, nth, pw, PySem.Challenge.pw_ez0016_01, List.getD, List.getElem?_cons_succ, List.getElem?_cons_zero, Option.getD]
  k_steps
  all_goals (try (with_reducible rename Fr _ _ _ _ => FF))
  all_goals (try (with_reducible rename News _ _ _ _ => NN))
  all_goals exact hret _ _ _ _ _ _ _ _ _ _ (by with_reducible assumption) (by with_reducible assumption) (by with_reducible assumption) (by with_reducible assumption) (by with_reducible assumption) (by with_reducible assumption) FF rfl rfl rfl rfl rfl NN
end Mine
namespace Mine
local macro_rules | `(tactic| k_room) => `(tactic| ((try simp only [depth_under_make, depth_under_kw, depth_in1, depth_deeper, depth_caller]); (try dsimp only [Ar]); omega))
local macro_rules | `(tactic| k_units) => `(tactic| ((try simp only [units_in1, units_deeper, Around.mark_units, units_caller]); (try dsimp only [Ar]); omega))
local macro_rules | `(tactic| cell_enter) => `(tactic| (refine' enterK ?k1 ?k2 ?k6 ?k7 ?k8 ?k9 ?kB ?_ ?c2 ?c3 ?c4 ?c5; (case k1 => assumption); (case k2 => exact TopRead.nolimit (by assumption)); (case k6 => k_is); (case k7 => k_is); (case k8 => k_room); (case k9 => first | exact BindsTo.of_eq rfl | exact binds_K (by assumption) rfl (by k_is) rfl rfl rfl | fail "k_enter: no rule for these arguments"); (case c5 => decide); (case kB => exact locs rfl); (case c2 => exact rfl); (case c3 => exact rfl); (case c4 => exact rfl); k_whole; intro L' h' F' N' kSz; (try dsimp only); (try k_fold)))
local macro_rules | `(tactic| walk_at "call type:bytes") => `(tactic| (k_here; (with_reducible show wpAny _ _ (call (Value.type _) [Value.bytes _ _]) _ _ _); (with_unfolding_all refine call_bytes_bytes ?_)))
local macro_rules | `(tactic| walk_at "call ref") => `(tactic| (k_here; (with_reducible show wpAny _ _ (call (Value.ref 886) [Value.bytes _ _]) _ _ _); k_dflt ((with_reducible rename Fr _ _ _ _ => FF); (with_reducible rename News _ _ _ _ => NN); (with_reducible rename Frag.In _ _ => XX); (with_reducible rename TopRead _ _ _ _ _ => TT); refine' li_p _ _ ?kb _ ?ksz ?kX ?kT ?kd ?ku ?_; (case kb => first | assumption | exact rfl); (case ksz => first | assumption | omega); (case kX => exact Frag.In.keeps XX FF.keep); (case kT => exact TopRead.keeps TT FF.keep); (case kd => k_room); (case ku => k_units); (intro  h' tk'  hk'; (have F' := Fr.keeps FF hk'); (have N' := News.keeps NN hk'); clear FF NN hk'; (try dsimp only at F' N' ⊢)))))
local macro_rules | `(tactic| walk_at "call ref") => `(tactic| (k_here; (with_reducible show wpAny _ _ (call (Value.ref 879) [Value.bytes _ _, Value.ref _]) _ _ _); k_dflt ((with_reducible rename Fr _ _ _ _ => FF); (with_reducible rename News _ _ _ _ => NN); (with_reducible rename Frag.In _ _ => XX); (with_reducible rename TopRead _ _ _ _ _ => TT); (with_reducible rename (AllBare _ → AllBare _) => BB); refine' pq_p _ _ ?kb _ ?ksz ?k1 _ _ ?kv1 ?kv4 _ _ _ ?klb ?klz ?kla ?kR ?kX ?kT ?kd ?ku ?_; (case kb => first | assumption | exact rfl); (case ksz => first | assumption | omega); (case k1 => first | assumption | exact Nat.le_trans (by decide) (by assumption)); (case kv1 => assumption); (case kv4 => assumption); (case kla => assumption); (case klb => assumption); (case klz => first | assumption | omega); (case kR => exact ⟨_, (NN (_, _) (.tail _ (.tail _ (.tail _ (.tail _ (.head _)))))).1, rfl, _, rfl⟩); (case kX => exact Frag.In.keeps XX FF.keep); (case kT => exact TopRead.keeps TT FF.keep); (case kd => k_room); (case ku => k_units); (intro t h' tk' g' hk' hg'; (have F' := Fr.keeps FF hk'); (have N' := News.keeps NN hk'); (have BB' := fun z => hg' (BB z)); clear FF NN hk' BB hg'; (try dsimp only at F' N' BB' ⊢)))))
local macro_rules | `(tactic| walk_at "call ref") => `(tactic| (k_here; (with_reducible show wpAny _ _ (call (Value.ref 860) [Value.bytes _ _, Value.bytes _ _, Value.ref _]) _ _ _); k_dflt ((with_reducible rename Fr _ _ _ _ => FF); (with_reducible rename News _ _ _ _ => NN); (with_reducible rename Frag.In _ _ => XX); (with_reducible rename TopRead _ _ _ _ _ => TT); (with_reducible rename (AllBare _ → AllBare _) => BB); (have WK := wit_of_news FF XX TT NN (.tail _ (.head _)) (.tail _ (.tail _ (.head _))) (.tail _ (.tail _ (.tail _ (.head _)))) (by assumption) (by assumption) (by assumption)); refine' ws_p _ _ ?kb _ ?ksz _ _ ?kc _ ?kcz _ _ _ _ _ ?kv _ _ _ ?klb ?klz ?kla _ ?kW ?kS ?kZ ?kd ?ku ?_; (case kb => first | assumption | exact rfl); (case ksz => first | assumption | exact Nat.zero_le _ | (simp only [List.length_append]; omega)); (case kc => first | assumption | exact rfl); (case kcz => first | assumption | omega); (case kv => assumption); (case kla => assumption); (case klb => assumption); (case klz => first | assumption | omega); (case kW => exact WK); clear WK; (case kS => exact stand_law FF); (case kZ => exact zed_law FF XX TT); (case kd => k_room); (case ku => k_units); (intro t' h' tk' g' hst' hup' hg'; (obtain ⟨F', N'⟩ := law_after FF NN hst' hup'); (have BB' := fun z => hg' (BB z)); clear FF NN hst' hup' BB hg'; (try dsimp only at F' N' BB' ⊢)))))
local macro_rules | `(tactic| walk_at "call ref") => `(tactic| (k_here; (with_reducible show wpAny _ _ (call (Value.ref 893) [Value.bytes _ _, Value.int _ _]) _ _ _); k_dflt ((with_reducible rename Fr _ _ _ _ => FF); (with_reducible rename News _ _ _ _ => NN); (with_reducible rename Frag.In _ _ => XX); (with_reducible rename TopRead _ _ _ _ _ => TT); refine' pu_p _ _ ?kb _ ?ksz _ _ ?k0 ?k3 ?kX ?kT ?kd ?ku ?_; (case kb => assumption); (case ksz => omega); (case k0 => first | assumption | decide | omega); (case k3 => first | assumption | decide | omega); (case kX => exact Frag.In.keeps XX FF.keep); (case kT => exact TopRead.keeps TT FF.keep); (case kd => k_room); (case ku => k_units); (intro r' t' h' tk' hr' hk'; (have F' := Fr.keeps FF hk'); (have N' := News.keeps NN hk'); (obtain ⟨rs', hrs', hre', hrl'⟩ := psh_gen hr' (by first | assumption | decide | omega) (by first | assumption | decide | omega)); clear FF NN hk' hr'; (try dsimp only at F' N' ⊢)))))
set_option hygiene false in
local macro_rules | `(tactic| walk_at "call ref") => `(tactic| (k_here; (with_reducible show wpAny _ _ (call (Value.ref 903) [Value.bytes _ _]) _ _ _); k_dflt ((with_reducible rename Fr _ _ _ _ => FF); (with_reducible rename News _ _ _ _ => NN); (with_reducible rename Frag.In _ _ => XX); (with_reducible rename TopRead _ _ _ _ _ => TT); refine' ta_p _ _ ?kb _ ?ksz ?kX ?kT ?kd ?ku ?kn ?_; (case kb => assumption); (case ksz => (simp only [List.length_append]; omega)); (case kX => exact Frag.In.keeps XX FF.keep); (case kT => exact TopRead.keeps TT FF.keep); (case kd => k_room); (case ku => k_units); (case kn => (intro hlp'; exact absurd ((hlp _ (by assumption)).symm.trans hlp') (by simp))); (intro d' t' hlp' hdl h' tk' hk'; (have hdd := (Option.some.inj ((hlp _ (by assumption)).symm.trans hlp')).symm); (have F' := Fr.keeps FF hk'); (have N' := News.keeps NN hk'); clear FF NN hk' hlp' hdl; (try dsimp only at F' N' ⊢)))))

theorem y_15a {w : World} {mg mb : Str → Option Value} {dp un : Nat} {gd : Option (List Code)} {s : Shared} {E : Value → Shared → Prop}
    {h₀ : Heap} {L : Addr} {m : Str → Option Value} {news : List (Addr × Obj)} {Q : Flow → Shared → Prop} {J : (Str → Option Value) → Prop} {news₁ : List (Addr × Obj)} (a : Array UInt8) (as : List Int) (ha : KBw.bInts a = as) (ta : Tok) (haz : as.length ≤ 18) (hh : Array UInt8) (hs : List Int) (hhb : KBw.bInts hh = hs) (thh : Tok) (hhz : hs.length ≤ 30)(pb : Array UInt8) (pks : List Int) (hpb : KBw.bInts pb = pks) (tp : Tok) (hpz : pks.length ≤ 42) (hp1 : 1 ≤ pks.length) (ps : Array Value) (x dx D R : Addr) (t : Tok) (vals : Array Value) (k : Nat) (n1 : x ≠ dx) (n2 : D ≠ dx) (n3 : D ≠ x) (hv1 : 1 ≤ vals.size) (hv4 : vals.size ≤ 4) (lb : Array UInt8) (ls : List Int) (lt : Tok) (hlb : KBw.bInts lb = ls) (hlz : ls.length ≤ 4096) (hlast : vals[vals.size - 1]? = some (.bytes lb lt)) (hback : vals.isEmpty = false → vals.back? = some (.bytes lb lt)) (BB : AllBare s.gens → AllBare s.gens) (hpr : isPr pks = true) (hlp : ∀ rs, rs = psh pks 0 → lp (as ++ rs) = some pks) (e1 : wsn [] pks ls vals.isEmpty = wpn pks ls false) (e2 : ∀ rs, rs = psh pks 0 → wsn (as ++ rs) hs ls vals.isEmpty = wpn pks ls false) 
    (X : (KH w.params).In h₀) (T : TopRead q lw mg mb h₀) (F : Fr h₀ L s.heap (fun y => if y = Str.ofString "ahead" then some (.bytes a ta) else if y = Str.ofString "hashed" then some (.bytes hh thh) else if y = Str.ofString "rows" then some (.ref R) else if y = Str.ofString "held" then some (.ref x) else if y = Str.ofString "inner" then some (.bytes lb lt) else m y)) (N : News h₀ L s.heap ((767, tabO ps) :: (x, instObj 811 dx) :: (dx, wDict w t D) :: (D, tupObj vals) :: (R, listOf vals k) :: news₁)) (hd : dp + 450 < recursionLimit) (hu : un + 1300 < cLine)
    (hJ : ∀ m', m' (Str.ofString "ahead") = some (.bytes a ta) → m' (Str.ofString "hashed") = some (.bytes hh thh) → m' (Str.ofString "rows") = some (.ref R) → m' (Str.ofString "held") = some (.ref x) → m' (Str.ofString "inner") = some (.bytes lb lt) → J m') :
    wpAny (model PySem.Challenge.rw_ez0016_01.prog w) (Ar dp un (some [y_E w L]) gd) (assign (forTgt (yS w 15)) (y_E w L) (.bytes pb tp)) (fun _ s₂ => wpAny (model PySem.Challenge.rw_ez0016_01.prog w) (Ar dp un (some [y_E w L]) gd) (execs (forBody (yS w 15)) (y_E w L)) (GPost2 h₀ L J news₁ s Q) E s₂) E s := by
  revert X; k_fill; intro X
  dsimp only [forTgt, forIter, forBody, yS, yB, bodyOf, fdOf, t915, fnS, nth, pw, PySem.Challenge.pw_ez0016_01, List.getD, List.getElem?_cons_succ, List.getElem?_cons_zero, Option.getD]
  k_steps
  all_goals (try (with_reducible rename Fr _ _ _ _ => FF))
  all_goals (try (with_reducible rename News _ _ _ _ => NN))
  all_goals
    with_reducible rename (AllBare _ → AllBare _) => BB
    first
    | exact GPost2.intro FF NN (fun p hp => by simp [hp]) BB (hJ _ rfl rfl rfl rfl rfl)
    | (exfalso; first | exact absurd e1 (by assumption) | exact absurd (e2 _ (by assumption)) (by assumption) | contradiction | exact absurd rfl (by assumption))
    | trace_state

theorem y_15b {w : World} {mg mb : Str → Option Value} {dp un : Nat} {gd : Option (List Code)} {s : Shared} {E : Value → Shared → Prop}
    {h₀ : Heap} {L : Addr} {m : Str → Option Value} {news : List (Addr × Obj)} {Q : Flow → Shared → Prop} {J : (Str → Option Value) → Prop} {news₁ : List (Addr × Obj)} (a : Array UInt8) (as : List Int) (ha : KBw.bInts a = as) (ta : Tok) (haz : as.length ≤ 18) (hh : Array UInt8) (hs : List Int) (hhb : KBw.bInts hh = hs) (thh : Tok) (hhz : hs.length ≤ 30)(pb : Array UInt8) (pks : List Int) (hpb : KBw.bInts pb = pks) (tp : Tok) (hpz : pks.length ≤ 42) (hp1 : 1 ≤ pks.length) (ps : Array Value) (x dx D R : Addr) (t : Tok) (vals : Array Value) (k : Nat) (n1 : x ≠ dx) (n2 : D ≠ dx) (n3 : D ≠ x) (hv1 : 1 ≤ vals.size) (hv4 : vals.size ≤ 4) (lb : Array UInt8) (ls : List Int) (lt : Tok) (hlb : KBw.bInts lb = ls) (hlz : ls.length ≤ 4096) (hlast : vals[vals.size - 1]? = some (.bytes lb lt)) (hback : vals.isEmpty = false → vals.back? = some (.bytes lb lt)) (BB : AllBare s.gens → AllBare s.gens) (hpr : isPr pks = false) (hlp : ∀ rs, rs = psh pks 0 → lp (as ++ rs) = some pks) (e1 : wsn [] pks ls vals.isEmpty = 0) (e2 : ∀ rs, rs = psh pks 0 → wsn (as ++ rs) hs ls vals.isEmpty = 0) 
    (X : (KH w.params).In h₀) (T : TopRead q lw mg mb h₀) (F : Fr h₀ L s.heap (fun y => if y = Str.ofString "ahead" then some (.bytes a ta) else if y = Str.ofString "hashed" then some (.bytes hh thh) else if y = Str.ofString "rows" then some (.ref R) else if y = Str.ofString "held" then some (.ref x) else if y = Str.ofString "inner" then some (.bytes lb lt) else m y)) (N : News h₀ L s.heap ((767, tabO ps) :: (x, instObj 811 dx) :: (dx, wDict w t D) :: (D, tupObj vals) :: (R, listOf vals k) :: news₁)) (hd : dp + 450 < recursionLimit) (hu : un + 1300 < cLine)
    (hJ : ∀ m', m' (Str.ofString "ahead") = some (.bytes a ta) → m' (Str.ofString "hashed") = some (.bytes hh thh) → m' (Str.ofString "rows") = some (.ref R) → m' (Str.ofString "held") = some (.ref x) → m' (Str.ofString "inner") = some (.bytes lb lt) → J m') :
    wpAny (model PySem.Challenge.rw_ez0016_01.prog w) (Ar dp un (some [y_E w L]) gd) (assign (forTgt (yS w 15)) (y_E w L) (.bytes pb tp)) (fun _ s₂ => wpAny (model PySem.Challenge.rw_ez0016_01.prog w) (Ar dp un (some [y_E w L]) gd) (execs (forBody (yS w 15)) (y_E w L)) (GPost2 h₀ L J news₁ s Q) E s₂) E s := by
  revert X; k_fill; intro X
  dsimp only [forTgt, forIter, forBody, yS, yB, bodyOf, fdOf, t915, fnS, nth, pw, PySem.Challenge.pw_ez0016_01, List.getD, List.getElem?_cons_succ, List.getElem?_cons_zero, Option.getD]
  k_steps
  all_goals (try (with_reducible rename Fr _ _ _ _ => FF))
  all_goals (try (with_reducible rename News _ _ _ _ => NN))
  all_goals
    with_reducible rename (AllBare _ → AllBare _) => BB
    first
    | exact GPost2.intro FF NN (fun p hp => by simp [hp]) BB (hJ _ rfl rfl rfl rfl rfl)
    | (exfalso; first | exact absurd e1 (by assumption) | exact absurd (e2 _ (by assumption)) (by assumption) | contradiction | exact absurd rfl (by assumption))
    | trace_state
local macro_rules | `(tactic| walk_at "call type:bytes") => `(tactic| (k_here; (with_reducible show wpAny _ _ (call (Value.type _) [Value.int _ _]) _ _ _); k_dflt (refine' call_bytes_int' ?ka ?kb ?_; (case ka => decide); (case kb => decide); (intro r' rs' t' k' hr' hre' hrl'; (have hrz' : rs'.length ≤ 40 := by rw [hrl']; decide); (try dsimp only)))))

def PGS : List (List Int) := [0 :: 20 :: List.replicate 20 0, 0 :: 32 :: List.replicate 32 0, 81 :: 32 :: List.replicate 32 0, [0, 3, 97, 98, 99], [97, 2, 97, 98], 0 :: 20 :: List.replicate 19 0]
theorem progs6 {p1 p2 p3 p6 : Array UInt8} {t1 t2 t3 t4 t5 t6 : Tok} (e1 : KBw.bInts p1 = 0 :: 20 :: List.replicate 20 0) (e2 : KBw.bInts p2 = 0 :: 32 :: List.replicate 32 0) (e3 : KBw.bInts p3 = 81 :: 32 :: List.replicate 32 0) (e6 : KBw.bInts p6 = 0 :: 20 :: List.replicate 19 0) :
    ∀ (j : Nat) (v : Value), #[Value.bytes p1 t1, .bytes p2 t2, .bytes p3 t3, .bytes #[0, 3, 97, 98, 99] t4, .bytes #[97, 2, 97, 98] t5, .bytes p6 t6][j]? = some v → ∃ pb tp, v = .bytes pb tp ∧ KBw.bInts pb ∈ PGS := by
  intro j v hv
  match j, hv with
  | 0, hv => exact ⟨p1, t1, by simpa using hv.symm, by rw [e1]; simp [PGS]⟩
  | 1, hv => exact ⟨p2, t2, by simpa using hv.symm, by rw [e2]; simp [PGS]⟩
  | 2, hv => exact ⟨p3, t3, by simpa using hv.symm, by rw [e3]; simp [PGS]⟩
  | 3, hv => exact ⟨_, t4, by simpa using hv.symm, .tail _ (.tail _ (.tail _ (.head _)))⟩
  | 4, hv => exact ⟨_, t5, by simpa using hv.symm, .tail _ (.tail _ (.tail _ (.tail _ (.head _))))⟩
  | 5, hv => exact ⟨p6, t6, by simpa using hv.symm, by rw [e6]; simp [PGS]⟩
  | j + 6, hv => simp at hv

theorem y_15i {w : World} {mg mb : Str → Option Value} {dp un : Nat} {gd : Option (List Code)} {s : Shared} {E : Value → Shared → Prop}
    {h₀ : Heap} {L : Addr} {m : Str → Option Value} {news : List (Addr × Obj)} {Q : Value → Shared → Prop} 
    (X : (KH w.params).In h₀) (T : TopRead q lw mg mb h₀) (F : Fr h₀ L s.heap m) (N : News h₀ L s.heap news) (hd : dp + 450 < recursionLimit) (hu : un + 1300 < cLine)
    (hret : ∀ PT items h' tk', (∀ (j : Nat) (v : Value), items[j]? = some v → ∃ pb tp, v = .bytes pb tp ∧ KBw.bInts pb ∈ PGS) → Fr h₀ L h' m → News h₀ L h' ((PT, tupObj items) :: news) → Q (.ref PT) { s with heap := h', toks := tk' }) :
    wpAny (model PySem.Challenge.rw_ez0016_01.prog w) (Ar dp un (some [y_E w L]) gd) (eval (forIter (yS w 15)) (y_E w L)) Q E s := by
  revert X; k_fill; intro X
  dsimp only [forTgt, forIter, forBody, yS, yB, bodyOf, fdOf, t915, fnS, nth, pw, PySem.Challenge.pw_ez0016_01, List.getD, List.getElem?_cons_succ, List.getElem?_cons_zero, Option.getD]
  k_steps
  all_goals (try (with_reducible rename Fr _ _ _ _ => FF))
  all_goals (try (with_reducible rename News _ _ _ _ => NN))
  all_goals exact hret _ _ _ _ (progs6 (by rw [bInts_app]; simp only [*]; rfl) (by rw [bInts_app]; simp only [*]; rfl) (by rw [bInts_app]; simp only [*]; rfl) (by rw [bInts_app]; simp only [*]; rfl)) FF NN
end Mine
namespace Mine
local macro_rules | `(tactic| k_room) => `(tactic| ((try simp only [depth_under_make, depth_under_kw, depth_in1, depth_deeper, depth_caller]); (try dsimp only [Ar]); omega))
local macro_rules | `(tactic| k_units) => `(tactic| ((try simp only [units_in1, units_deeper, Around.mark_units, units_caller]); (try dsimp only [Ar]); omega))
local macro_rules | `(tactic| cell_enter) => `(tactic| (refine' enterK ?k1 ?k2 ?k6 ?k7 ?k8 ?k9 ?kB ?_ ?c2 ?c3 ?c4 ?c5; (case k1 => assumption); (case k2 => exact TopRead.nolimit (by assumption)); (case k6 => k_is); (case k7 => k_is); (case k8 => k_room); (case k9 => first | exact BindsTo.of_eq rfl | exact binds_K (by assumption) rfl (by k_is) rfl rfl rfl | fail "k_enter: no rule for these arguments"); (case c5 => decide); (case kB => exact locs rfl); (case c2 => exact rfl); (case c3 => exact rfl); (case c4 => exact rfl); k_whole; intro L' h' F' N' kSz; (try dsimp only); (try k_fold)))
local macro_rules | `(tactic| walk_at "call type:bytes") => `(tactic| (k_here; (with_reducible show wpAny _ _ (call (Value.type _) [Value.bytes _ _]) _ _ _); (with_unfolding_all refine call_bytes_bytes ?_)))

theorem news_swap {h₀ h : Heap} {L : Addr} {a b : Addr × Obj} (N : News h₀ L h [a, b]) : News h₀ L h [b, a] := fun p hp => N p (by simp only [List.mem_cons, List.not_mem_nil, or_false] at hp ⊢; exact hp.symm)
local macro_rules | `(tactic| walk_at "call ref") => `(tactic| (k_here; (with_reducible show wpAny _ _ (call (Value.ref 910) [Value.bytes _ _]) _ _ _); k_dflt ((with_reducible rename Fr _ _ _ _ => FF); (with_reducible rename News _ _ _ _ => NN); (with_reducible rename Frag.In _ _ => XX); (with_reducible rename TopRead _ _ _ _ _ => TT); refine' lw_p _ _ ?kS ?kZ ?kd ?ku ?_; (case kS => exact stand_law FF); (case kZ => exact zed_law FF XX TT); (case kd => k_room); (case ku => k_units); (intro h' tk' hst' hup'; (obtain ⟨F', N'⟩ := law_after FF NN hst' hup'); clear FF NN hst' hup'; (try dsimp only at F' N' ⊢)))))
local macro_rules | `(tactic| walk_at "call type:bytes") => `(tactic| (k_here; (with_reducible show wpAny _ _ (call (Value.type _) [Value.int _ _]) _ _ _); k_dflt (refine' call_bytes_int' ?ka ?kb ?_; (case ka => decide); (case kb => decide); (intro r' rs' t' k' hr' hre' hrl'; (have hrz' : rs'.length ≤ 40 := by rw [hrl']; decide); (try dsimp only)))))
local macro_rules | `(tactic| walk_at "call ref") => `(tactic| (k_here; (with_reducible show wpAny _ _ (call (Value.ref 811) [Value.ref _]) _ _ _); k_dflt ((with_reducible rename Fr _ _ _ _ => FF); (with_reducible rename News _ _ _ _ => NN); (with_reducible rename Frag.In _ _ => XX); (with_reducible rename TopRead _ _ _ _ _ => TT); (have aR := NN (_, _) (.head _)); (have a7 := NN (_, _) (.tail _ (.head _))); refine' wit_p _ FF.keep aR.2.2 a7.2.2 aR.1 a7.1 ?ktr ?k7 ?kv ?kvs ?kb0 ?kB XX TT ?kd ?ku ?_; (case ktr => assumption); (case k7 => assumption); (case kv => (intro v hv; exact absurd hv (by simp))); (case kvs => exact Nat.zero_le _); (case kb0 => assumption); (case kB => assumption); (case kd => k_room); (case ku => k_units); (intro x' dx' D' t' h' tk' g' ps' more' eps' htr' hE' e7' ex' ed' eD' nx' nd' nD' n1' n2' n3' hab'; (obtain ⟨F', N'⟩ := wit_after FF (news_swap NN) (Nat.ne_of_lt (by assumption)) hE' e7' ex' ed' eD' nx' nd' nD'); (have BB' : AllBare _ → AllBare _ := fun (_ : AllBare g') => hab'); clear FF NN hE' e7' ex' ed' eD' nx' nd' nD' aR a7; (try dsimp only at F' N' ⊢)))))
local macro_rules | `(tactic| walk_at "call ref") => `(tactic| (k_here; (with_reducible show wpAny _ _ (call (Value.ref 860) [Value.bytes _ _, Value.bytes _ _, Value.ref _]) _ _ _); k_dflt ((with_reducible rename Fr _ _ _ _ => FF); (with_reducible rename News _ _ _ _ => NN); (with_reducible rename Frag.In _ _ => XX); (with_reducible rename TopRead _ _ _ _ _ => TT); (with_reducible rename (AllBare _ → AllBare _) => BB); (have WK := wit_of_news FF XX TT NN (.tail _ (.head _)) (.tail _ (.tail _ (.head _))) (.tail _ (.tail _ (.tail _ (.head _)))) (by assumption) (by assumption) (by assumption)); refine' ws_p _ _ ?kb _ ?ksz _ _ ?kc _ ?kcz _ _ _ _ _ ?kv #[] [] 0 rfl (Nat.zero_le _) ?kla _ ?kW ?kS ?kZ ?kd ?ku ?_; (case kW => exact WK); (case kb => exact rfl); (case ksz => exact Nat.zero_le _); (case kc => assumption); (case kcz => (simp only [List.length_append, List.length_map, List.length_cons, List.length_nil]; omega)); (case kv => exact Nat.zero_le _); (case kla => (intro h; exact absurd h (by decide))); clear WK; (case kS => exact stand_law FF); (case kZ => exact zed_law FF XX TT); (case kd => k_room); (case ku => k_units); (intro t' h' tk' g' hst' hup' hg'; (obtain ⟨F', N'⟩ := law_after FF NN hst' hup'); (have BB' := fun z => hg' (BB z)); clear FF NN hst' hup' BB hg'; (try dsimp only at F' N' BB' ⊢)))))

theorem p16_val {rs : List Int} (h : rs = List.replicate (Int.toNat 32) 0) : (wsn (KBw.bInts #[]) (List.map (fun c : UInt8 => (c.toNat : Int)) [0, 32] ++ rs) [] (#[] : Array Value).isEmpty == 0) = true := by
  subst h; decide +kernel

theorem y_16 {w : World} {mg mb : Str → Option Value} {dp un : Nat} {gd : Option (List Code)} {s : Shared} {E : Value → Shared → Prop}
    {h₀ : Heap} {L : Addr} {m : Str → Option Value} {news : List (Addr × Obj)} {Q : Flow → Shared → Prop} (ps : Array Value) (htr : TriplesOk ps.toList) (hb0 : AllBare s.gens) (hBM : ∃ bm ob, mg "__builtins__" = some (.ref bm) ∧ bm ≠ builtinsNs ∧ h₀.get? bm = some ob ∧ ob.cls = .type "module" ∧ ob.dict = some builtinsNs ∧ ob.data = .plain)(b : Array UInt8) (ks : List Int) (hb : KBw.bInts b = ks) (tb : Tok) (hsz : ks.length ≤ 90)
    (X : (KH w.params).In h₀) (T : TopRead q lw mg mb h₀) (F : Fr h₀ L s.heap (fun y => if y = Str.ofString "inner" then some (.bytes b tb) else m y)) (N : News h₀ L s.heap ([(767, tabO ps)])) (hd : dp + 450 < recursionLimit) (hu : un + 1300 < cLine)
    (hret : ∀ h' tk' g' ps' more, ps' = ps ++ more → TriplesOk ps'.toList → AllBare g' → Ext h₀ h' → h'.get? 767 = some (tabO ps') → Q (.ret (.bool true)) { s with heap := h', toks := tk', gens := g' }) :
    wpAny (model PySem.Challenge.rw_ez0016_01.prog w) (Ar dp un (some [y_E w L]) gd) (exec (yS w 16) (y_E w L)) Q E s := by
  revert X; k_fill; intro X
  dsimp only [yS, yB, bodyOf, fdOf, t915, fnS, nth, pw, PySem.Challenge.pw_ez0016_01, List.getD, List.getElem?_cons_succ, List.getElem?_cons_zero, Option.getD]
  k_steps
  all_goals (try (with_reducible rename Fr _ _ _ _ => FF))
  all_goals (try (with_reducible rename News _ _ _ _ => NN))
  all_goals
    rename (_ = List.replicate _ _) => hrr
    rename (AllBare _ → AllBare _) => BB
    rw [p16_val hrr]
    exact hret _ _ _ _ _ (by with_reducible assumption) (by with_reducible assumption) (BB (by with_reducible assumption)) FF.keep (NN _ (.head _)).1
end Mine
namespace Mine
local macro_rules | `(tactic| k_room) => `(tactic| ((try simp only [depth_under_make, depth_under_kw, depth_in1, depth_deeper, depth_caller]); (try dsimp only [Ar]); omega))
local macro_rules | `(tactic| k_units) => `(tactic| ((try simp only [units_in1, units_deeper, Around.mark_units, units_caller]); (try dsimp only [Ar]); omega))
local macro_rules | `(tactic| cell_enter) => `(tactic| (refine' enterK ?k1 ?k2 ?k6 ?k7 ?k8 ?k9 ?kB ?_ ?c2 ?c3 ?c4 ?c5; (case k1 => assumption); (case k2 => exact TopRead.nolimit (by assumption)); (case k6 => k_is); (case k7 => k_is); (case k8 => k_room); (case k9 => first | exact BindsTo.of_eq rfl | exact binds_K (by assumption) rfl (by k_is) rfl rfl rfl | fail "k_enter: no rule for these arguments"); (case c5 => decide); (case kB => exact locs rfl); (case c2 => exact rfl); (case c3 => exact rfl); (case c4 => exact rfl); k_whole; intro L' h' F' N' kSz; (try dsimp only); (try k_fold)))
local macro_rules | `(tactic| walk_at "call type:bytes") => `(tactic| (k_here; (with_reducible show wpAny _ _ (call (Value.type _) [Value.bytes _ _]) _ _ _); (with_unfolding_all refine call_bytes_bytes ?_)))

noncomputable abbrev lc0 (w : World) : Expr := asVal (yS w 0)
theorem name_bc {M : Model} {A : Around} {E : Value → Shared → Prop} {s : Shared} {K : Frag} {h₀ : Heap} {L C : Addr} {m mg mb : Str → Option Value} {cs : Scope} {env : Env} {p : Program} {loose : List Str}
    {x : Str} {pos : Pos} {v : Value} {Q : Value → Shared → Prop} (F : Fr h₀ L s.heap m) (X : K.In h₀) (T : TopRead p loose mg mb h₀) (e : nsIn K mainGlobals x = some none) (hv : bootBuiltins x = some v) (hn : x ≠ "__name__") (h : Q v s)
    (hg : env.globals = mainGlobals) (hb : env.builtins = builtinsNs) (hk : cs.kind = .function) (hx : (compEnv cs C env).kindOf x = some .globalImplicit) (hd : (x == ("__debug__" : Str)) = false) :
    wpAny M A (eval (.Name x pos) (compEnv cs C env)) Q E s :=
  Calls.Name_function_global hk hx (Calls.loadGlobal_builtin (env := compEnv cs C env) (show s.heap.Ns env.globals mg from hg ▸ T.g.keeps F.keep) (mg_none_of X T.g e) (show s.heap.Ns env.builtins mb from hb ▸ T.b.keeps F.keep) ((T.builtins x hn).trans hv) h) hd
local macro_rules | `(tactic| walk_at "eval Name") => `(tactic| (k_here; (with_reducible show wpAny _ _ (eval (Expr.Name (PySem.Str.ofString "x") _) (compEnv _ _ _)) _ _ _); k_dflt (refine wpAny_Name (wpAny_loadName_local rfl rfl (by assumption) (by assumption) ?_))))
local macro_rules | `(tactic| walk_at "eval Name") => `(tactic| (k_here; (with_reducible show wpAny _ _ (eval (Expr.Name _ _) (compEnv _ _ _)) _ _ _); k_dflt ((with_reducible rename Fr _ _ _ _ => FF); refine' name_bc FF ?k1 ?k2 ?k3 ?k4 ?k5 ?_ ?a ?b ?c ?d ?e; (case k1 => k_asm); (case k2 => k_asm); (case k3 => k_is); (case k4 => boot_by_name); (case k5 => decide); (case a => rfl); (case b => rfl); (case c => rfl); (case d => rfl); (case e => decide))))

theorem yc_elt0 {w : World} {mg mb : Str → Option Value} {dp un : Nat} {fr : Option (List Env)} {gd : Option (List Code)} {s : Shared} {E : Value → Shared → Prop}
    {h₀ : Heap} {L : Addr} {m : Str → Option Value} {news : List (Addr × Obj)} {Q : Value → Shared → Prop} {C : Addr} {m₃ : Str → Option Value} (n : Int) (tn : Tok) (hC : s.heap.Ns C m₃) (hx : m₃ (Str.ofString "x") = some (.int n tn))
    (X : (KH w.params).In h₀) (T : TopRead q lw mg mb h₀) (F : Fr h₀ L s.heap m) (N : News h₀ L s.heap ([])) (hd : dp + 100 < recursionLimit) (hu : un + 500 < cLine)
    (hret : ∀ t h' tk', Ext s.heap h' → Q (.int (if n < 0 then -n else n) t) { s with heap := h', toks := tk' }) :
    wpAny (model PySem.Challenge.rw_ez0016_01.prog w) (Ar dp un fr gd) (eval (lcElt (lc0 w)) (compEnv (lcScope (lc0 w)) C (y_E w L))) Q E s := by
  revert X; k_fill; intro X
  dsimp only [lc0, lcElt, lcScope, lcIter, asVal, caArg, yS, yB, bodyOf, fdOf, t915, fnS, nth, pw, PySem.Challenge.pw_ez0016_01, List.getD, List.getElem?_cons_succ, List.getElem?_cons_zero, Option.getD]
  k_steps
  all_goals (try (with_reducible rename Fr _ _ _ _ => FF))
  all_goals (try (with_reducible rename News _ _ _ _ => NN))
  all_goals exact hret _ _ _ (fun _ _ e => e)

theorem yc_it0 {w : World} {mg mb : Str → Option Value} {dp un : Nat} {fr : Option (List Env)} {gd : Option (List Code)} {s : Shared} {E : Value → Shared → Prop}
    {h₀ : Heap} {L : Addr} {m : Str → Option Value} {news : List (Addr × Obj)} {Q : Value → Shared → Prop} (l : Addr) (vs : List Value) (ns : List Int) (hL : h₀.IsList l vs.toArray) (hi : IntsAre vs ns) (hnl : ns.length ≤ 1048576)
    (X : (KH w.params).In h₀) (T : TopRead q lw mg mb h₀) (F : Fr h₀ L s.heap (fun y => if y = Str.ofString "script" then some (.ref l) else m y)) (N : News h₀ L s.heap news) (hd : dp + 100 < recursionLimit) (hu : un + 500 < cLine)
    (hret : ∀ R vs' ms h' tk', IntsAre vs' ms → ms.length ≤ 12 → Fr h₀ L h' (fun y => if y = Str.ofString "script" then some (.ref l) else m y) → News h₀ L h' ((R, listOf vs'.toArray 0) :: news) → Q (.ref R) { s with heap := h', toks := tk' }) :
    wpAny (model PySem.Challenge.rw_ez0016_01.prog w) (Ar dp un fr gd) (eval (lcIter (lc0 w)) (y_E w L)) Q E s := by
  revert X; k_fill; intro X
  dsimp only [lc0, lcElt, lcScope, lcIter, asVal, caArg, yS, yB, bodyOf, fdOf, t915, fnS, nth, pw, PySem.Challenge.pw_ez0016_01, List.getD, List.getElem?_cons_succ, List.getElem?_cons_zero, Option.getD]
  k_steps
  all_goals (try (with_reducible rename Fr _ _ _ _ => FF))
  all_goals (try (with_reducible rename News _ _ _ _ => NN))
  all_goals exact hret _ _ _ _ _ (by assumption) (by rw [List.length_take]; omega) FF NN

theorem ints_of_paired {vs ys : List Value} (h : Paired (fun _ y => ∃ n t, y = Value.int n t ∧ 0 ≤ n) vs ys) : ∃ ns, IntsAre ys ns ∧ ns.length = vs.length ∧ ∀ x ∈ ns, 0 ≤ x := by
  induction h with
  | nil => exact ⟨[], .nil, rfl, fun _ h => nomatch h⟩
  | cons hf _ ih =>
    obtain ⟨n, t, rfl, hp⟩ := hf
    obtain ⟨ns, hi, hl, ha⟩ := ih
    refine ⟨n :: ns, .cons n t hi, by simp [hl], fun x hm => ?_⟩
    rcases List.mem_cons.mp hm with rfl | hm
    · exact hp
    · exact ha x hm
theorem y0_is (w : World) : ∃ py px pos spos, yS w 0 = .Assign [.Name (Str.ofString "numbers") py] (.ListComp (lcElt (lc0 w)) [⟨.Name (Str.ofString "x") px, lcIter (lc0 w), [], 0⟩] (lcScope (lc0 w)) pos) spos ∧ ∀ L, swapsWith (.ListComp (lcElt (lc0 w)) [⟨.Name (Str.ofString "x") px, lcIter (lc0 w), [], 0⟩] (lcScope (lc0 w)) pos) (some (.Name (Str.ofString "numbers") py)) spos.line (y_E w L) = pure true := ⟨_, _, _, _, rfl, fun L => by with_unfolding_all rfl⟩
theorem lc0_s {w : World} : (∀ y ∈ (lcScope (lc0 w)).names, y.2 ≠ .free) ∧ (∀ y ∈ (lcScope (lc0 w)).names, y.2 ≠ .cell) ∧ (∀ y ∈ (lcScope (lc0 w)).names, y.2 = .local → (lcScope (lc0 w)).names.lookup y.1 = some .local) := by
  dsimp only [lc0, lcElt, lcScope, lcIter, asVal, caArg, yS, yB, bodyOf, fdOf, t915, fnS, nth, pw, PySem.Challenge.pw_ez0016_01, List.getD, List.getElem?_cons_succ, List.getElem?_cons_zero, Option.getD]
  decide
theorem y_0 {w : World} {mg mb : Str → Option Value} {dp un : Nat} {fr : Option (List Env)} {gd : Option (List Code)} {s : Shared} {h₀ : Heap} {L : Addr} {m : Str → Option Value} {news : List (Addr × Obj)} {Q : Flow → Shared → Prop} {E : Value → Shared → Prop} (l : Addr) (vs : List Value) (ns : List Int) (hL : h₀.IsList l vs.toArray) (hi : IntsAre vs ns) (hnl : ns.length ≤ 1048576)
    (X : (KH w.params).In h₀) (T : TopRead q lw mg mb h₀) (F : Fr h₀ L s.heap m) (es : m (Str.ofString "script") = some (.ref l)) (N : News h₀ L s.heap news) (hd : dp + 110 < recursionLimit) (hu : un + 520 < cLine)
    (hret : ∀ NU vs' ns' k h' tk' m', IntsAre vs' ns' → ns'.length ≤ 12 → (∀ x ∈ ns', 0 ≤ x) → Fr h₀ L h' m' → m' (Str.ofString "numbers") = some (.ref NU) → News h₀ L h' ((NU, listOf vs'.toArray k) :: news) → Q .next { s with heap := h', toks := tk' }) :
    wpAny (model RP w) (Ar dp un fr gd) (exec (yS w 0) (y_E w L)) Q E s := by
  obtain ⟨py, px, pos, spos, he, hsw⟩ := y0_is w
  rw [he]
  refine wpAny_Assign_ListComp_walk (fun _ => true) (fun _ y => ∃ n t, y = Value.int n t ∧ 0 ≤ n) (hsw L) lc0_s.1 lc0_s.2.1 (by rfl) lc0_s.2.2 (by rfl) (by rfl) (by rfl) ?_
  refine yc_it0 l vs ns hL hi hnl X T (fr1 F es) N (by omega) (by omega) (fun R vs' ms h₁ tk₁ hi' hlen F₁ N₁ => ?_)
  have F₁ : Fr h₀ L h₁ m := fr_ext F₁ fun y => by
    by_cases h1 : y = Str.ofString "script"
    · subst h1; rw [if_pos rfl, es]
    · rw [if_neg h1]
  have hR := N₁ _ (.head _)
  have hlR : h₁.IsList R vs'.toArray := ⟨_, hR.1, rfl, _, rfl⟩
  have hRlt : R < h₁.objs.size := Heap.lt_size hR.1
  refine wpAny_pyIter_list hlR ?_
  have up : ∀ b o, h₁.get? b = some o → (h₁.push { cls := .type "list_iterator", data := .fields #[.ref R, .int 0 0] }).get? b = some o := fun b o e => Heap.get?_push_of_some _ e
  have hsz : vs'.toArray.size ≤ 12 := by rw [List.size_toArray, hi'.length]; omega
  have F₂ := Fr.keeps F₁ up
  have hI₀ : h₀.get? h₁.objs.size = none := Heap.get?_none_of_le (Nat.le_trans F₁.above (Nat.le_of_lt F₁.ns.lt))
  have hLI : L ≠ h₁.objs.size := Nat.ne_of_lt F₁.ns.lt
  refine ⟨h₁.objs.size, [h₁.objs.size, R], [h₁.objs.size], _, _, _, m, rfl, Walks.list rfl h₁.objs.size R (Nat.ne_of_lt hRlt) vs'.toArray, Nat.le_trans hsz (by decide), ⟨⟨_, Heap.get?_push_size _ rfl, rfl, rfl⟩, hlR.push _⟩, fun b hb => ?_, (fun hm => hLI (List.mem_singleton.mp hm)), F₂.ns, ⟨fun C i v s₃ m₃ E' hv hn₃ hx hk htk => ?_, fun C i v s₃ m₃ E' hv hp hn₃ hx hk htk => ?_⟩, fun D h' tk ys us hD hl' hpl hlen' hP hF hns hk => ?_⟩
  · show b < (h₁.push _).objs.size
    rw [Heap.size_push]
    rcases List.mem_cons.mp hb with rfl | hb
    · exact Nat.lt_succ_self _
    · rw [List.mem_singleton.mp hb]; exact Nat.lt_succ_of_lt hRlt
  · exact wpAny_tests_nil ⟨rfl, s₃.heap, s₃.toks, rfl, fun _ _ e => e⟩
  · obtain ⟨n, t', rfl, hn⟩ := ints_mem hi' i v (by simpa using hv)
    have F₃ := LCg.fr_but F₂ hk hLI hI₀
    exact yc_elt0 (news := []) n t' hn₃ hx X T F₃ News.nil (by omega) (by omega) (fun t h' tk' hE => ⟨⟨_, t, rfl, by split <;> omega⟩, h', tk', rfl, hE⟩)
  · obtain ⟨ns', hi2, hl2, hpos⟩ := ints_of_paired hF
    obtain ⟨nn, hD'⟩ := hpl
    have hL₀ : h₀.get? L = none := Heap.get?_none_of_le F₁.above
    have hlen3 : ns'.length ≤ 12 := by
      rw [hl2]
      refine Nat.le_trans (List.length_filter_le _ _) ?_
      rw [hlen', List.size_toArray, hi'.length]; exact hlen
    have ne0 : ∀ {b o}, h₀.get? b = some o → b ≠ L ∧ b ∉ [h₁.objs.size] := fun {b o} e => ⟨(fun q => by rw [q, hL₀] at e; cases e), (fun hm => by rw [List.mem_singleton.mp hm, hI₀] at e; cases e)⟩
    have F₃ : Fr h₀ L h' (fun z => if z = Str.ofString "numbers" then some (.ref D) else m z) := ⟨hns, fun b o e => hk b o (ne0 e).1 (ne0 e).2 (F₂.keep b o e), F₁.above⟩
    have hys : ys = ys.toList.toArray := by simp
    rw [hys] at hD'
    refine hret D ys.toList ns' nn h' tk _ hi2 hlen3 hpos F₃ (by simp) fun p hp => ?_
    rcases List.mem_cons.mp hp with rfl | hp
    · refine ⟨hD', fun q => ?_, ?_⟩
      · obtain ⟨oL, _, _, hL, _⟩ := F₂.ns
        rw [← q] at hL
        exact absurd (hL.symm.trans hD) (by simp)
      · cases q : h₀.get? D with
        | none => rfl
        | some x => exact absurd ((F₂.keep _ _ q).symm.trans hD) (by simp)
    · have := N₁ p (.tail _ hp)
      exact ⟨hk _ _ this.2.1 (by simpa using Nat.ne_of_lt (Heap.lt_size this.1)) (up _ _ this.1), this.2⟩
end Mine
namespace Mine
theorem getD_at (pre : List Int) (x : Int) (post : List Int) : (pre ++ x :: post).getD ((pre.length : Int)).toNat 0 = x := by
  simp [List.getD_eq_getElem?_getD]
theorem cut_at (pre p post : List Int) {a z : Int} (ha : a = pre.length) (hz : z = pre.length + p.length) : cut (pre ++ (p ++ post)) a z = p := by
  subst ha hz
  unfold cut
  have hl : (pre ++ (p ++ post)).length = pre.length + (p.length + post.length) := by simp
  rw [clipAt_in (by omega) (by rw [hl]; omega), clipAt_in (by omega) (by rw [hl]; omega)]
  rw [show ((pre.length : Int)).toNat = pre.length by omega, show ((pre.length : Int) + (p.length : Int)).toNat - pre.length = p.length by omega]
  simp
theorem rd_small (pre p post : List Int) (hp : p.length < 76) : rdI (pre ++ (p.length : Int) :: (p ++ post)) pre.length = some ((p.length : Int), (pre.length : Int) + 1 + p.length) := by
  have hl : ((pre ++ (p.length : Int) :: (p ++ post)).length : Int) = pre.length + (1 + p.length + post.length) := by simp; omega
  unfold rdI
  rw [getD_at, hl, if_neg (by omega)]
  by_cases h0 : 0 < (p.length : Int) ∧ (p.length : Int) ≤ 78
  · rw [if_pos h0, if_neg (by omega), if_neg (by omega)]
  · rw [if_neg h0]
    have : (p.length : Int) = 0 := by omega
    rw [this, Int.add_zero]
theorem rd_big (pre p post sz : List Int) (op z : Int) (h1 : 75 < op) (h2 : op ≤ 78) (hz : (2 : Int) ^ (op - 76).toNat = z) (hs : (sz.length : Int) = z) (hv : KFB.value sz.reverse = p.length) :
    rdI (pre ++ op :: (sz ++ (p ++ post))) pre.length = some (op, (pre.length : Int) + 1 + z + p.length) := by
  have hl : ((pre ++ op :: (sz ++ (p ++ post))).length : Int) = pre.length + (1 + sz.length + p.length + post.length) := by simp; omega
  have hla : lenAt (pre ++ op :: (sz ++ (p ++ post))) pre.length z = p.length := by
    unfold lenAt
    have := cut_at (pre ++ [op]) sz (p ++ post) (a := (pre.length : Int) + 1) (z := (pre.length : Int) + 1 + z) (by simp) (by simp; omega)
    unfold cut at this
    rw [show pre ++ [op] ++ (sz ++ (p ++ post)) = pre ++ op :: (sz ++ (p ++ post)) by simp] at this
    rw [this, hv]
  unfold rdI
  rw [getD_at, hl, if_neg (by omega), if_pos (by omega), if_pos h1, hz, if_neg (by omega), hla, if_neg (by omega)]
/-- a push's first byte -/
def pop (p : List Int) (w : Int) : Int := if w = 0 then p.length else if w ≤ 1 then 76 else if w = 2 then 77 else 78
theorem value_rev (l : List Int) : KFB.value l.reverse = l.foldr (fun k a => a * 256 + k) 0 := by
  unfold KFB.value
  rw [List.foldl_reverse]
theorem push_rd (pre p post : List Int) {w : Int} (h0 : 0 ≤ w) (h3 : w ≤ 3) (hp : p.length < 76) :
    rdI (pre ++ (psh p w ++ post)) pre.length = some (pop p w, (pre.length : Int) + (psh p w).length) ∧ cut (pre ++ (psh p w ++ post)) ((pre.length : Int) + hdr (pop p w)) ((pre.length : Int) + (psh p w).length) = p ∧ pop p w ≤ 78 := by
  have : w = 0 ∨ w = 1 ∨ w = 2 ∨ w = 3 := by omega
  rcases this with rfl | rfl | rfl | rfl
  · have e : psh p 0 = (p.length : Int) :: p := by unfold psh pshH; rw [if_pos ⟨rfl, by omega⟩]; rfl
    have eo : pop p 0 = p.length := rfl
    rw [e, eo]
    refine ⟨?_, ?_, by omega⟩
    · have := rd_small pre p post hp
      rw [List.cons_append, this]
      congr 2
      simp; omega
    · have := cut_at (pre ++ [(p.length : Int)]) p post (a := (pre.length : Int) + hdr (p.length : Int)) (z := (pre.length : Int) + ((p.length : Int) :: p).length) (by unfold hdr; rw [if_neg (by omega)]; simp) (by simp; omega)
      rw [show pre ++ ((p.length : Int) :: p ++ post) = pre ++ [(p.length : Int)] ++ (p ++ post) by simp]
      exact this
  all_goals
    have big : ∀ (sz : List Int) (op z : Int), 75 < op → op ≤ 78 → (2 : Int) ^ (op - 76).toNat = z → (sz.length : Int) = z → KFB.value sz.reverse = p.length → rdI (pre ++ ((op :: sz) ++ p ++ post)) pre.length = some (op, (pre.length : Int) + ((op :: sz) ++ p).length) ∧
        cut (pre ++ ((op :: sz) ++ p ++ post)) ((pre.length : Int) + hdr op) ((pre.length : Int) + ((op :: sz) ++ p).length) = p ∧ op ≤ 78 := fun sz op z h1 h2 hz hs hv => by
      refine ⟨?_, ?_, h2⟩
      · have := rd_big pre p post sz op z h1 h2 hz hs hv
        rw [show pre ++ ((op :: sz) ++ p ++ post) = pre ++ op :: (sz ++ (p ++ post)) by simp, this]
        congr 2
        simp; omega
      · have := cut_at (pre ++ op :: sz) p post (a := (pre.length : Int) + hdr op) (z := (pre.length : Int) + ((op :: sz) ++ p).length) (by unfold hdr; rw [if_pos (by omega), hz]; simp; omega) (by simp; omega)
        rw [show pre ++ ((op :: sz) ++ p ++ post) = pre ++ op :: sz ++ (p ++ post) by simp]
        exact this
  · exact big [(p.length : Int) % 256] 76 1 (by decide) (by decide) rfl rfl (by rw [value_rev]; simp; omega)
  · exact big [(p.length : Int) % 256, (p.length : Int) / 256 % 256] 77 2 (by decide) (by decide) rfl rfl (by rw [value_rev]; simp; omega)
  · exact big [(p.length : Int) % 256, (p.length : Int) / 256 % 256, (p.length : Int) / 256 / 256 % 256, (p.length : Int) / 256 / 256 / 256 % 256] 78 4 (by decide) (by decide) rfl rfl (by rw [value_rev]; simp; omega)
def flatP (xs : List (List Int × Int)) : List Int := xs.flatMap fun x => psh x.1 x.2
def entries : List (List Int × Int) → Int → List (Int × Int × Int)
  | [], _ => []
  | x :: r, i => (pop x.1 x.2, i, i + (psh x.1 x.2).length) :: entries r (i + (psh x.1 x.2).length)
def Good (x : List Int × Int) : Prop := 0 ≤ x.2 ∧ x.2 ≤ 3 ∧ x.1.length < 76
theorem spans_push : ∀ (xs : List (List Int × Int)) (pre : List Int) (f : Nat), (∀ x ∈ xs, Good x) → xs.length < f → spansF f (pre ++ flatP xs) pre.length = entries xs pre.length
  | [], pre, f + 1, _, _ => by
    unfold spansF
    have : rdI (pre ++ flatP []) pre.length = none := by unfold rdI; rw [if_pos (by simp [flatP])]
    rw [this]; rfl
  | x :: r, pre, f + 1, hg, hf => by
    obtain ⟨g0, g3, gl⟩ := hg x (.head _)
    have e : flatP (x :: r) = psh x.1 x.2 ++ flatP r := by simp [flatP]
    have := (push_rd pre x.1 (flatP r) g0 g3 gl).1
    unfold spansF
    rw [e, this]
    dsimp only
    have ih := spans_push r (pre ++ psh x.1 x.2) f (fun y hy => hg y (.tail _ hy)) (by rw [List.length_cons] at hf; omega)
    rw [show ((pre ++ psh x.1 x.2).length : Int) = (pre.length : Int) + (psh x.1 x.2).length by simp, List.append_assoc] at ih
    rw [ih]; rfl
theorem entries_app : ∀ (xs ys : List (List Int × Int)) (i : Int), entries (xs ++ ys) i = entries xs i ++ entries ys (i + (flatP xs).length)
  | [], ys, i => by simp [entries, flatP]
  | x :: r, ys, i => by
    rw [List.cons_append, entries, entries, entries_app r ys, List.cons_append]
    congr 3
    simp [flatP]; omega
theorem entries_le : ∀ (xs : List (List Int × Int)) (i : Int), (∀ x ∈ xs, Good x) → ∀ e ∈ entries xs i, ¬ 96 < e.1
  | [], _, _, e, h => by cases h
  | x :: r, i, hg, e, h => by
    obtain ⟨g0, g3, gl⟩ := hg x (.head _)
    rcases List.mem_cons.mp h with rfl | h
    · have := (push_rd [] x.1 [] g0 g3 gl).2.2
      dsimp only
      omega
    · exact entries_le r _ (fun y hy => hg y (.tail _ hy)) e h
theorem psh_pos (p : List Int) (w : Int) : 1 ≤ (psh p w).length := by
  unfold psh pshH
  rw [List.length_append]
  repeat' split
  all_goals simp only [List.length_cons, List.length_nil]; omega
theorem flatP_len : ∀ (xs : List (List Int × Int)), xs.length ≤ (flatP xs).length
  | [] => Nat.zero_le _
  | x :: r => by
    have e : flatP (x :: r) = psh x.1 x.2 ++ flatP r := by simp [flatP]
    rw [e, List.length_append, List.length_cons]
    have := psh_pos x.1 x.2
    have := flatP_len r
    omega
theorem lp_pushes (xs : List (List Int × Int)) (p : List Int) (hg : ∀ x ∈ xs, Good x) (hp : p.length < 76) : lp (flatP xs ++ psh p 0) = some p := by
  have hall : ∀ x ∈ xs ++ [(p, (0 : Int))], Good x := fun x hx => by
    rcases List.mem_append.mp hx with h | h
    · exact hg x h
    · obtain rfl := List.mem_singleton.mp h
      exact ⟨Int.le_refl _, (by decide : (0 : Int) ≤ 3), hp⟩
  have e : flatP xs ++ psh p 0 = flatP (xs ++ [(p, 0)]) := by simp [flatP]
  have hs : spans (flatP (xs ++ [(p, (0 : Int))])) = entries xs 0 ++ [(pop p 0, ((flatP xs).length : Int), ((flatP xs).length : Int) + (psh p 0).length)] := by
    have := spans_push (xs ++ [(p, 0)]) [] ((flatP (xs ++ [(p, (0 : Int))])).length + 1) hall (by have := flatP_len (xs ++ [(p, (0 : Int))]); omega)
    rw [List.nil_append] at this
    rw [show spans (flatP (xs ++ [(p, (0 : Int))])) = spansF ((flatP (xs ++ [(p, (0 : Int))])).length + 1) (flatP (xs ++ [(p, (0 : Int))])) 0 from rfl]
    rw [show ((([] : List Int).length : Nat) : Int) = 0 from rfl] at this
    rw [this, entries_app, Int.zero_add]; rfl
  rw [e, lp_last]
  have hc : codesHi (flatP (xs ++ [(p, (0 : Int))])) (spans (flatP (xs ++ [(p, (0 : Int))]))).length = [] := by
    apply Classical.byContradiction
    intro h
    have := (any_codes _).mpr h
    rw [List.any_eq_true] at this
    obtain ⟨x, hx, hx'⟩ := this
    have hle : ¬ 96 < x.1 := by
      rw [hs] at hx
      rcases List.mem_append.mp hx with h | h
      · exact entries_le xs 0 hg x h
      · obtain rfl := List.mem_singleton.mp h
        have := (push_rd [] p [] (w := 0) (Int.le_refl _) (by decide) hp).2.2
        dsimp only; omega
    exact hle (by simpa using hx')
  have hw : Whole (flatP (xs ++ [(p, (0 : Int))])) = true := by
    unfold Whole
    rw [hs]
    apply decide_eq_true
    rw [List.length_append, List.length_singleton]
    simp only [upF]
    rw [List.getElem?_append_right (Nat.le_refl _), Nat.sub_self]
    simp [flatP]
  rw [if_neg (fun h => h hc), if_pos hw, hs]
  rw [List.length_append, List.length_singleton, Nat.add_sub_cancel, List.getElem?_append_right (Nat.le_refl _), Nat.sub_self]
  simp only [List.getElem?_cons_zero]
  have := (push_rd (flatP xs) p [] (w := 0) (Int.le_refl _) (by decide) hp).2.1
  rw [List.append_nil, e] at this
  rw [this]

/-- what the law asks of its own bytes -/
theorem pr_sw (ks : List Int) : isPr ks = isSw ks := by
  unfold isPr isSw isSw1 isSw2
  rw [Bool.eq_iff_iff]
  simp only [Bool.and_eq_true, Bool.or_eq_true, beq_iff_eq, bne_iff_ne, decide_eq_true_eq, ne_eq]
  omega
def hashedK : List Int := 169 :: 20 :: (List.replicate 20 0 ++ [135])
theorem hashed_p2 : isP2 hashedK = true := by decide +kernel
theorem hashed_sw : isSw hashedK = false := by decide +kernel
theorem flat_not (ls : List (List Int)) (h : ∀ r ∈ ls, StepOk r) (z : Nat) : isP2 ((ls.flatten).take z) = false := by
  apply Classical.byContradiction
  intro hc
  rw [Bool.not_eq_false] at hc
  unfold isP2 at hc
  simp only [Bool.and_eq_true, beq_iff_eq] at hc
  obtain ⟨⟨⟨hl, _⟩, h0⟩, h1⟩ := hc
  have hz : 23 ≤ z := by rw [List.length_take] at hl; omega
  have g : ∀ j : Nat, j < 23 → ((ls.flatten).take z).getD j 0 = ls.flatten.getD j 0 := fun j hj => by
    rw [List.getD_eq_getElem?_getD, List.getElem?_take_of_lt (by omega), ← List.getD_eq_getElem?_getD]
  have h0' : ls.flatten.getD 0 0 = 169 := (g 0 (by omega)).symm.trans h0
  have h1' : ls.flatten.getD 1 0 = 20 := (g 1 (by omega)).symm.trans h1
  match ls, h with
  | [], _ => simp at h0'
  | r :: rest, h =>
    obtain ⟨a1, a2, a3, a4⟩ := h r (.head _)
    match r, a1, a3, a4 with
    | x :: t, a1, a3, a4 =>
      have hx : x = 169 := by simpa using h0'
      have ht : t = [] := by
        have := a4 (by simpa using hx)
        simpa using this
      subst ht
      match rest, h with
      | [], _ => simp at h1'
      | r2 :: rest2, h =>
        obtain ⟨b1, b2, b3, b4⟩ := h r2 (.tail _ (.head _))
        match r2, b1, b3 with
        | y :: t2, _, b3 =>
          apply b3
          simpa using h1'
theorem inner_not {l : List (Array UInt8 × Tok)} {r ks : List Int} (h : ∀ p ∈ l, StepOk (KBw.bInts p.1)) (hr : r = l.flatMap fun p => KBw.bInts p.1) (hk : ks = List.take (clipAt r.length (-1)) r ∨ ks = r) : isP2 ks = false := by
  have e : r = (l.map fun p => KBw.bInts p.1).flatten := by rw [hr, List.flatMap_def]
  have hs : ∀ q ∈ l.map (fun p => KBw.bInts p.1), StepOk q := fun q hq => by
    obtain ⟨p, hp, rfl⟩ := List.mem_map.mp hq
    exact h p hp
  rcases hk with rfl | rfl
  · rw [e]; exact flat_not _ hs _
  · have := flat_not _ hs ks.length
    rwa [← e, List.take_length] at this
theorem ahead_flat : ∀ {l : List (Array UInt8 × Tok)}, (∀ p ∈ l, PushOk (KBw.bInts p.1)) → ∃ xs : List (List Int × Int), (l.flatMap fun p => KBw.bInts p.1) = flatP xs ∧ ∀ x ∈ xs, Good x
  | [], _ => ⟨[], rfl, fun _ h => nomatch h⟩
  | q :: r, h => by
    obtain ⟨xs, e, hx⟩ := ahead_flat fun p hp => h p (.tail _ hp)
    obtain ⟨p, wd, h4, h0, h3, _, he⟩ := h q (.head _)
    refine ⟨(p, wd) :: xs, ?_, fun x hm => ?_⟩
    · rw [List.flatMap_cons, e, he]; simp [flatP]
    · rcases List.mem_cons.mp hm with rfl | hm
      · exact ⟨h0, h3, by dsimp only; omega⟩
      · exact hx x hm
theorem pgs_p2 {pks : List Int} (h : pks ∈ [0 :: 20 :: List.replicate 20 0, 0 :: 32 :: List.replicate 32 0, 81 :: 32 :: List.replicate 32 0, [0, 3, 97, 98, 99], [97, 2, 97, 98], 0 :: 20 :: List.replicate 19 0]) : isP2 pks = false ∧ pks.length ≤ 42 ∧ 1 ≤ pks.length := by
  simp only [List.mem_cons, List.not_mem_nil, or_false] at h
  rcases h with rfl | rfl | rfl | rfl | rfl | rfl <;> exact ⟨by decide +kernel, by decide, by decide⟩
theorem p2_plain {sg ks : List Int} (h : isP2 ks = false) : p2n sg ks = cnt true ks := by unfold p2n; rw [h]; rfl
theorem p2_none {sg : List Int} (h : lp sg = none) : p2n sg hashedK = 0 := by unfold p2n; rw [hashed_p2, h]; rfl
theorem p2_some {sg ds : List Int} (h : lp sg = some ds) : p2n sg hashedK = cnt true ds := by unfold p2n; rw [hashed_p2, h]; rfl
theorem wsx_a {sg pks ls : List Int} (hp : isPr pks = true) : wsn sg pks ls false = wpn pks ls false := by unfold wsn; rw [if_pos (by rw [← pr_sw]; exact hp)]
theorem wsx_b {sg pks ls : List Int} {e : Bool} (hp : isPr pks = false) (h2 : isP2 pks = false) : wsn sg pks ls e = 0 := by unfold wsn; rw [if_neg (by rw [← pr_sw, hp]; decide), if_neg (by rw [h2]; decide)]
theorem wnx_a {sg pks ls : List Int} (hl : lp sg = some pks) (hp : isPr pks = true) : wsn sg hashedK ls false = wpn pks ls false := by
  unfold wsn; rw [if_neg (by rw [hashed_sw]; decide), if_pos hashed_p2, hl]; exact if_pos (by rw [← pr_sw]; exact hp)
theorem wnx_b {sg pks ls : List Int} {e : Bool} (hl : lp sg = some pks) (hp : isPr pks = false) : wsn sg hashedK ls e = 0 := by
  unfold wsn; rw [if_neg (by rw [hashed_sw]; decide), if_pos hashed_p2, hl]; exact if_neg (by rw [← pr_sw, hp]; decide)
end Mine
namespace Mine
def frl (m' : Str → Option Value) : List (Str × Value) → Str → Option Value
  | [], y => m' y
  | p :: r, y => if y = p.1 then some p.2 else frl m' r y
theorem frl_eq (m' : Str → Option Value) (y : Str) : ∀ (l : List (Str × Value)), (∀ p ∈ l, m' p.1 = some p.2) → m' y = frl m' l y
  | [], _ => rfl
  | p :: r, h => by
    unfold frl
    by_cases e : y = p.1
    · rw [if_pos e, e]; exact h p (.head _)
    · rw [if_neg e]; exact frl_eq m' y r fun q hq => h q (.tail _ hq)
theorem frs {h₀ h : Heap} {L : Addr} {m' : Str → Option Value} (F : Fr h₀ L h m') (l : List (Str × Value)) (hl : ∀ p ∈ l, m' p.1 = some p.2) : Fr h₀ L h (frl m' l) := fr_ext F fun y => frl_eq m' y l hl
theorem yB_is (w : World) : yB w = [yS w 0, yS w 1, yS w 2, yS w 3, yS w 4, yS w 5, yS w 6, yS w 7, yS w 8, yS w 9, yS w 10, yS w 11, yS w 12, yS w 13, yS w 14, yS w 15, yS w 16] := rfl
theorem y15_is (w : World) : ∃ pos, yS w 15 = .For (forTgt (yS w 15)) (forIter (yS w 15)) (forBody (yS w 15)) [] pos := ⟨_, rfl⟩
section
variable {w : World} {mg mb : Str → Option Value} {dp un : Nat} {gd : Option (List Code)} {s : Shared}
theorem y_15 {E : Value → Shared → Prop} {h₀ : Heap} {L : Addr} {m : Str → Option Value} {Q : Flow → Shared → Prop} (a : Array UInt8) (as : List Int) (ha : KBw.bInts a = as) (ta : Tok) (haz : as.length ≤ 18) (hh : Array UInt8) (hhb : KBw.bInts hh = hashedK) (thh : Tok) (ps : Array Value) (x dx D R : Addr) (t : Tok) (vals : Array Value) (k : Nat) (n1 : x ≠ dx) (n2 : D ≠ dx) (n3 : D ≠ x) (hv1 : 1 ≤ vals.size) (hv4 : vals.size ≤ 4) (lb : Array UInt8) (ls : List Int) (lt : Tok) (hlb : KBw.bInts lb = ls) (hlz : ls.length ≤ 4096) (hlast : vals[vals.size - 1]? = some (.bytes lb lt)) (hback : vals.back? = some (.bytes lb lt)) (hve : vals.isEmpty = false)
    (hlp : ∀ pks ∈ PGS, lp (as ++ psh pks 0) = some pks)
    (X : (KH w.params).In h₀) (T : TopRead q lw mg mb h₀) (F : Fr h₀ L s.heap m) (e1 : m (Str.ofString "ahead") = some (.bytes a ta)) (e2 : m (Str.ofString "hashed") = some (.bytes hh thh)) (e3 : m (Str.ofString "rows") = some (.ref R)) (e4 : m (Str.ofString "held") = some (.ref x)) (e5 : m (Str.ofString "inner") = some (.bytes lb lt))
    (N : News h₀ L s.heap [(767, tabO ps), (x, instObj 811 dx), (dx, wDict w t D), (D, tupObj vals), (R, listOf vals k)]) (hd : dp + 450 < recursionLimit) (hu : un + 1300 < cLine)
    (hret : ∀ h' tk' g' m', Fr h₀ L h' m' → m' (Str.ofString "inner") = some (.bytes lb lt) → News h₀ L h' [(767, tabO ps)] → (AllBare s.gens → AllBare g') → Q .next { s with heap := h', toks := tk', gens := g' }) :
    wpAny (model RP w) (Ar dp un (some [y_E w L]) gd) (exec (yS w 15) (y_E w L)) Q E s := by
  obtain ⟨pos, he⟩ := y15_is w
  rw [he]
  refine wpAny_For (y_15i X T F N hd hu (fun PT items h₁ tk₁ hit F₁ N₁ => ?_)) (by intro _; rfl)
  have hD := N₁ _ (.head _)
  refine loop_seq (b := false) (news := [(767, tabO ps), (x, instObj 811 dx), (dx, wDict w t D), (D, tupObj vals), (R, listOf vals k)]) (env := y_E w L) (items := items) (fun j m' => m' (Str.ofString "ahead") = some (.bytes a ta) ∧ m' (Str.ofString "hashed") = some (.bytes hh thh) ∧ m' (Str.ofString "rows") = some (.ref R) ∧ m' (Str.ofString "held") = some (.ref x) ∧ m' (Str.ofString "inner") = some (.bytes lb lt))
    rfl F₁ (fun p hp => N₁ p (.tail _ hp)) (show SeqAt false h₁ PT _ from ⟨_, hD.1, rfl, _, rfl⟩) hD.2.1 ⟨e1, e2, e3, e4, e5⟩ (fun j v m' h tk g news₁ E' hv hj hb' F' N' hsub _ => ?_) (fun m' h tk g hj hb' F' N' => ?_)
  · obtain ⟨pb, tp, rfl, hpg⟩ := hit j v hv
    obtain ⟨a1, a2, a3, a4, a5⟩ := hj
    obtain ⟨q2, q42, q1⟩ := pgs_p2 hpg
    have N'' : News h₀ L h ((767, tabO ps) :: (x, instObj 811 dx) :: (dx, wDict w t D) :: (D, tupObj vals) :: (R, listOf vals k) :: news₁) := fun p hp => by
      simp only [List.mem_cons] at hp
      rcases hp with h | h | h | h | h | h
      · exact N' p (hsub p (by simp [h]))
      · exact N' p (hsub p (by simp [h]))
      · exact N' p (hsub p (by simp [h]))
      · exact N' p (hsub p (by simp [h]))
      · exact N' p (hsub p (by simp [h]))
      · exact N' p h
    have hl := hlp _ hpg
    cases hpr : isPr (KBw.bInts pb) with
    | true =>
      exact y_15a (news := []) a as ha ta haz hh hashedK hhb thh (by decide) pb (KBw.bInts pb) rfl tp q42 q1 ps x dx D R t vals k n1 n2 n3 hv1 hv4 lb ls lt hlb hlz hlast (fun _ => hback) (fun h => h) hpr (fun rs e => by rw [e]; exact hl) (by rw [hve]; exact wsx_a hpr) (fun rs e => by rw [hve, e]; exact wnx_a hl hpr)
        X T (frs F' [(Str.ofString "ahead", .bytes a ta), (Str.ofString "hashed", .bytes hh thh), (Str.ofString "rows", .ref R), (Str.ofString "held", .ref x), (Str.ofString "inner", .bytes lb lt)] (by intro p hp; simp only [List.mem_cons, List.not_mem_nil, or_false] at hp; rcases hp with rfl | rfl | rfl | rfl | rfl <;> first | exact a1 | exact a2 | exact a3 | exact a4 | exact a5)) N'' hd hu (fun m'' z1 z2 z3 z4 z5 => ⟨z1, z2, z3, z4, z5⟩)
    | false =>
      exact y_15b (news := []) a as ha ta haz hh hashedK hhb thh (by decide) pb (KBw.bInts pb) rfl tp q42 q1 ps x dx D R t vals k n1 n2 n3 hv1 hv4 lb ls lt hlb hlz hlast (fun _ => hback) (fun h => h) hpr (fun rs e => by rw [e]; exact hl) (wsx_b hpr q2) (fun rs e => by rw [e]; exact wnx_b hl hpr)
        X T (frs F' [(Str.ofString "ahead", .bytes a ta), (Str.ofString "hashed", .bytes hh thh), (Str.ofString "rows", .ref R), (Str.ofString "held", .ref x), (Str.ofString "inner", .bytes lb lt)] (by intro p hp; simp only [List.mem_cons, List.not_mem_nil, or_false] at hp; rcases hp with rfl | rfl | rfl | rfl | rfl <;> first | exact a1 | exact a2 | exact a3 | exact a4 | exact a5)) N'' hd hu (fun m'' z1 z2 z3 z4 z5 => ⟨z1, z2, z3, z4, z5⟩)
  · exact hret _ _ _ _ F' hj.2.2.2.2 (fun p hp => N' p (by simp only [List.mem_cons, List.not_mem_nil, or_false] at hp; simp [hp])) hb'
end
end Mine
namespace Mine
section
variable {w : World} {mg mb : Str → Option Value} {dp un : Nat} {gd : Option (List Code)} {s : Shared}
theorem law_end {h₀ : Heap} {L : Addr} {m : Str → Option Value} {Q : Flow → Shared → Prop} {E : Value → Shared → Prop} (hd0 : Int) (th : Tok) (b : Array UInt8) (ks : List Int) (hb : KBw.bInts b = ks) (tb : Tok) (hsz : ks.length ≤ 90) (hh : Array UInt8) (hhb : KBw.bInts hh = hashedK) (thh : Tok) (a : Array UInt8) (as : List Int) (ha : KBw.bInts a = as) (ta : Tok) (haz : as.length ≤ 18)
    (hlp : ∀ pks ∈ PGS, lp (as ++ psh pks 0) = some pks) (ps : Array Value) (htr : TriplesOk ps.toList) (hb0 : AllBare s.gens) (hBM : ∃ bm ob, mg "__builtins__" = some (.ref bm) ∧ bm ≠ builtinsNs ∧ h₀.get? bm = some ob ∧ ob.cls = .type "module" ∧ ob.dict = some builtinsNs ∧ ob.data = .plain)
    (X : (KH w.params).In h₀) (T : TopRead q lw mg mb h₀) (F : Fr h₀ L s.heap m) (eh : m (Str.ofString "head") = some (.int hd0 th)) (ei : m (Str.ofString "inner") = some (.bytes b tb)) (ex : m (Str.ofString "hashed") = some (.bytes hh thh)) (ea : m (Str.ofString "ahead") = some (.bytes a ta)) (N : News h₀ L s.heap [(767, tabO ps)]) (hd : dp + 450 < recursionLimit) (hu : un + 1300 < cLine)
    (hret : ∀ h' tk' g' ps' more, ps' = ps ++ more → TriplesOk ps'.toList → AllBare g' → Ext h₀ h' → h'.get? 767 = some (tabO ps') → Q (.ret (.bool true)) { s with heap := h', toks := tk', gens := g' }) :
    wpAny (model RP w) (Ar dp un (some [y_E w L]) gd) (execs [yS w 13, yS w 14, yS w 15, yS w 16] (y_E w L)) Q E s := by
  have rest : ∀ {R : Addr} {t0 : Tok} {vals : Array Value} {k : Nat} {h' : Heap} {tk' : Nat} {m' : Str → Option Value}, (vals = #[.bytes #[] t0, .bytes b tb] ∨ vals = #[.bytes b tb] ∨ vals = #[.bytes #[] t0, .bytes b tb, .bytes b tb] ∨ vals = #[.bytes b tb, .bytes b tb]) → (∀ p ∈ [((767 : Addr), tabO ps)], p.1 < R) → Fr h₀ L h' m' →
      m' (Str.ofString "inner") = some (.bytes b tb) → m' (Str.ofString "hashed") = some (.bytes hh thh) → m' (Str.ofString "ahead") = some (.bytes a ta) → m' (Str.ofString "rows") = some (.ref R) → News h₀ L h' ((R, listOf vals k) :: [(767, tabO ps)]) →
      wpAny (model RP w) (Ar dp un (some [y_E w L]) gd) (execs [yS w 14, yS w 15, yS w 16] (y_E w L)) Q E { s with heap := h', toks := tk' } := fun {R t0 vals k h₁ tk₁ m₁} hv h7 F₁ i1 i2 i3 i4 N₁ => by
    have h7R : @LT.lt Nat _ 767 R := h7 _ (.head _)
    have hvb : ∀ v ∈ vals, ∃ b t, v = Value.bytes b t := by
      rcases hv with rfl | rfl | rfl | rfl <;> (intro v hv; simp only [List.mem_toArray, List.mem_cons, List.not_mem_nil, or_false] at hv; rcases hv with rfl | rfl | rfl <;> exact ⟨_, _, rfl⟩)
    have hv4 : vals.size ≤ 4 := by rcases hv with rfl | rfl | rfl | rfl <;> simp
    have hv1 : 1 ≤ vals.size := by rcases hv with rfl | rfl | rfl | rfl <;> simp
    have hve : vals.isEmpty = false := by rcases hv with rfl | rfl | rfl | rfl <;> rfl
    have hlast : vals[vals.size - 1]? = some (.bytes b tb) := by rcases hv with rfl | rfl | rfl | rfl <;> rfl
    have hback : vals.back? = some (.bytes b tb) := by rw [Array.back?_eq_getElem?]; exact hlast
    refine wpAny_execs_cons (y_14 (news := []) ps htr R vals k h7R hvb hv4 hb0 hBM b ks hb tb hsz hh hashedK hhb thh (by decide) a as ha ta haz X T (frs F₁ [(Str.ofString "inner", .bytes b tb), (Str.ofString "hashed", .bytes hh thh), (Str.ofString "ahead", .bytes a ta), (Str.ofString "rows", .ref R)] (by intro p hp; simp only [List.mem_cons, List.not_mem_nil, or_false] at hp; rcases hp with rfl | rfl | rfl | rfl <;> first | exact i1 | exact i2 | exact i3 | exact i4)) (fun p hp => N₁ p (by simp only [List.mem_cons, List.not_mem_nil, or_false] at hp ⊢; exact hp.symm)) hd hu (fun x dx D t h₂ tk₂ g₂ ps₂ more₂ m₂ eps₂ htr₂ n1 n2 n3 hab₂ F₂ j1 j2 j3 j4 j5 N₂ => ?_))
    refine wpAny_execs_cons (y_15 a as ha ta haz hh hhb thh ps₂ x dx D R t vals k n1 n2 n3 hv1 hv4 b ks tb hb (by omega) hlast hback hve hlp X T F₂ j3 j2 j4 j5 j1 N₂ hd hu (fun h₃ tk₃ g₃ m₃ F₃ l1 N₃ hg₃ => ?_))
    refine wpAny_execs_cons (y_16 (news := []) ps₂ htr₂ (hg₃ hab₂) hBM b ks hb tb hsz X T (frs F₃ [(Str.ofString "inner", .bytes b tb)] (by intro p hp; simp only [List.mem_cons, List.not_mem_nil, or_false] at hp; rcases hp with rfl <;> first | exact l1)) N₃ hd hu (fun h₄ tk₄ g₄ ps₄ more₄ eps₄ htr₄ hab₄ hE₄ e7₄ => ?_))
    exact hret h₄ tk₄ g₄ ps₄ (more₂ ++ more₄) (by rw [eps₄, eps₂, Array.append_assoc]) htr₄ hab₄ hE₄ e7₄
  have hr2 := fmod_range (hd0.fdiv 2) (b := 2) (by decide)
  have hr : (hd0.fdiv 2).fmod 2 = 0 ∨ (hd0.fdiv 2).fmod 2 = 1 := by omega
  rcases hr with hr | hr
  · exact wpAny_execs_cons (y_13a hd0 th b ks hb tb hsz hh thh a ta hr X T (frs F [(Str.ofString "head", .int hd0 th), (Str.ofString "inner", .bytes b tb), (Str.ofString "hashed", .bytes hh thh), (Str.ofString "ahead", .bytes a ta)] (by intro p hp; simp only [List.mem_cons, List.not_mem_nil, or_false] at hp; rcases hp with rfl | rfl | rfl | rfl <;> first | exact eh | exact ei | exact ex | exact ea)) N hd hu (fun R t0 vals k h' tk' m' hv h7 F' i1 i2 i3 i4 N' => rest hv h7 F' i1 i2 i3 i4 N'))
  · exact wpAny_execs_cons (y_13b hd0 th b ks hb tb hsz hh thh a ta hr X T (frs F [(Str.ofString "head", .int hd0 th), (Str.ofString "inner", .bytes b tb), (Str.ofString "hashed", .bytes hh thh), (Str.ofString "ahead", .bytes a ta)] (by intro p hp; simp only [List.mem_cons, List.not_mem_nil, or_false] at hp; rcases hp with rfl | rfl | rfl | rfl <;> first | exact eh | exact ei | exact ex | exact ea)) N hd hu (fun R t0 vals k h' tk' m' hv h7 F' i1 i2 i3 i4 N' => rest hv h7 F' i1 i2 i3 i4 N'))

theorem law_mid {h₀ : Heap} {L : Addr} {m : Str → Option Value} {Q : Flow → Shared → Prop} {E : Value → Shared → Prop} (hd0 : Int) (th : Tok) (b : Array UInt8) (ks : List Int) (hb : KBw.bInts b = ks) (tb : Tok) (hsz : ks.length ≤ 90) (hnp : isP2 ks = false) (hh : Array UInt8) (hhb : KBw.bInts hh = hashedK) (thh : Tok) (a : Array UInt8) (as : List Int) (ha : KBw.bInts a = as) (ta : Tok) (haz : as.length ≤ 18)
    (hlp : ∀ pks ∈ PGS, lp (as ++ psh pks 0) = some pks) (ps : Array Value) (htr : TriplesOk ps.toList) (hb0 : AllBare s.gens) (hBM : ∃ bm ob, mg "__builtins__" = some (.ref bm) ∧ bm ≠ builtinsNs ∧ h₀.get? bm = some ob ∧ ob.cls = .type "module" ∧ ob.dict = some builtinsNs ∧ ob.data = .plain)
    (X : (KH w.params).In h₀) (T : TopRead q lw mg mb h₀) (F : Fr h₀ L s.heap m) (eh : m (Str.ofString "head") = some (.int hd0 th)) (ei : m (Str.ofString "inner") = some (.bytes b tb)) (ex : m (Str.ofString "hashed") = some (.bytes hh thh)) (ea : m (Str.ofString "ahead") = some (.bytes a ta)) (N : News h₀ L s.heap [(767, tabO ps)]) (hd : dp + 450 < recursionLimit) (hu : un + 1300 < cLine)
    (hret : ∀ h' tk' g' ps' more, ps' = ps ++ more → TriplesOk ps'.toList → AllBare g' → Ext h₀ h' → h'.get? 767 = some (tabO ps') → Q (.ret (.bool true)) { s with heap := h', toks := tk', gens := g' }) :
    wpAny (model RP w) (Ar dp un (some [y_E w L]) gd) (execs [yS w 7, yS w 8, yS w 9, yS w 10, yS w 11, yS w 12, yS w 13, yS w 14, yS w 15, yS w 16] (y_E w L)) Q E s := by
  obtain ⟨q0, q1⟩ := fmod_range (hd0.fdiv 5) (b := 4) (by decide)
  refine wpAny_execs_cons (y_7 hd0 th q0 (by omega) b ks hb tb hsz hh hashedK hhb thh (by decide) a as ha ta haz X T (frs F [(Str.ofString "head", .int hd0 th), (Str.ofString "inner", .bytes b tb), (Str.ofString "hashed", .bytes hh thh), (Str.ofString "ahead", .bytes a ta)] (by intro p hp; simp only [List.mem_cons, List.not_mem_nil, or_false] at hp; rcases hp with rfl | rfl | rfl | rfl <;> first | exact eh | exact ei | exact ex | exact ea)) N hd hu (fun c sg tc h₁ tk₁ m₁ hc hcz F₁ a1 a2 a3 a4 a5 N₁ => ?_))
  have rest13 : ∀ {h' : Heap} {tk' : Nat} {g' : Array GenState} {m' : Str → Option Value}, Fr h₀ L h' m' → m' (Str.ofString "head") = some (.int hd0 th) → m' (Str.ofString "inner") = some (.bytes b tb) → m' (Str.ofString "hashed") = some (.bytes hh thh) → m' (Str.ofString "ahead") = some (.bytes a ta) → News h₀ L h' [(767, tabO ps)] → AllBare g' →
      wpAny (model RP w) (Ar dp un (some [y_E w L]) gd) (execs [yS w 13, yS w 14, yS w 15, yS w 16] (y_E w L)) Q E { s with heap := h', toks := tk', gens := g' } := fun F' i1 i2 i3 i4 N' hg => 
    law_end hd0 th b ks hb tb hsz hh hhb thh a as ha ta haz hlp ps htr hg hBM X T F' i1 i2 i3 i4 N' hd hu hret
  have rest10 : ∀ {h' : Heap} {tk' : Nat} {g' : Array GenState} {m' : Str → Option Value}, Fr h₀ L h' m' → m' (Str.ofString "head") = some (.int hd0 th) → m' (Str.ofString "inner") = some (.bytes b tb) → m' (Str.ofString "hashed") = some (.bytes hh thh) → m' (Str.ofString "ahead") = some (.bytes a ta) → m' (Str.ofString "sig") = some (.bytes c tc) → News h₀ L h' [(767, tabO ps)] → AllBare g' →
      wpAny (model RP w) (Ar dp un (some [y_E w L]) gd) (execs [yS w 10, yS w 11, yS w 12, yS w 13, yS w 14, yS w 15, yS w 16] (y_E w L)) Q E { s with heap := h', toks := tk', gens := g' } := fun {h₂ tk₂ g₂ m₂} F₂ i1 i2 i3 i4 i5 N₂ hg => by
    refine wpAny_execs_cons (y_10 hd0 th b ks hb tb hsz hh hashedK hhb thh (by decide) a as ha ta haz c sg hc tc hcz X T (frs F₂ [(Str.ofString "head", .int hd0 th), (Str.ofString "inner", .bytes b tb), (Str.ofString "hashed", .bytes hh thh), (Str.ofString "ahead", .bytes a ta), (Str.ofString "sig", .bytes c tc)] (by intro p hp; simp only [List.mem_cons, List.not_mem_nil, or_false] at hp; rcases hp with rfl | rfl | rfl | rfl | rfl <;> first | exact i1 | exact i2 | exact i3 | exact i4 | exact i5)) N₂ hd hu (fun c2 sg2 tc2 h₃ tk₃ m₃ hc2 hcz2 F₃ j1 j2 j3 j4 j5 N₃ => ?_))
    refine wpAny_execs_cons (y_11 hd0 th b ks hb tb hsz hh hashedK hhb thh (by decide) a as ha ta haz c2 sg2 hc2 tc2 hcz2 X T (frs F₃ [(Str.ofString "head", .int hd0 th), (Str.ofString "inner", .bytes b tb), (Str.ofString "hashed", .bytes hh thh), (Str.ofString "ahead", .bytes a ta), (Str.ofString "cut", .bytes c2 tc2)] (by intro p hp; simp only [List.mem_cons, List.not_mem_nil, or_false] at hp; rcases hp with rfl | rfl | rfl | rfl | rfl <;> first | exact j1 | exact j2 | exact j3 | exact j4 | exact j5)) N₃ hd hu (fun hl h₄ tk₄ m₄ F₄ l1 l2 l3 l4 l5 l6 N₄ => ?_) (fun d td hl hdz h₄ tk₄ m₄ F₄ l1 l2 l3 l4 l5 l6 N₄ => ?_))
    · exact wpAny_execs_cons (y_12n hd0 th b ks hb tb hsz hh hashedK hhb thh (by decide) a as ha ta haz c2 sg2 hc2 tc2 hcz2 (fun h => h) (p2_none hl) X T (frs F₄ [(Str.ofString "head", .int hd0 th), (Str.ofString "inner", .bytes b tb), (Str.ofString "hashed", .bytes hh thh), (Str.ofString "ahead", .bytes a ta), (Str.ofString "cut", .bytes c2 tc2), (Str.ofString "last", .none)] (by intro p hp; simp only [List.mem_cons, List.not_mem_nil, or_false] at hp; rcases hp with rfl | rfl | rfl | rfl | rfl | rfl <;> first | exact l1 | exact l2 | exact l3 | exact l4 | exact l5 | exact l6)) N₄ hd hu (fun h₅ tk₅ g₅ m₅ F₅ z1 z2 z3 z4 N₅ hg₅ => rest13 F₅ z1 z2 z3 z4 N₅ (hg₅ hg)))
    · exact wpAny_execs_cons (y_12s hd0 th b ks hb tb hsz hh hashedK hhb thh (by decide) a as ha ta haz c2 sg2 hc2 tc2 hcz2 (fun h => h) d td (KBw.bInts d) rfl hdz (p2_some hl) X T (frs F₄ [(Str.ofString "head", .int hd0 th), (Str.ofString "inner", .bytes b tb), (Str.ofString "hashed", .bytes hh thh), (Str.ofString "ahead", .bytes a ta), (Str.ofString "cut", .bytes c2 tc2), (Str.ofString "last", .bytes d td)] (by intro p hp; simp only [List.mem_cons, List.not_mem_nil, or_false] at hp; rcases hp with rfl | rfl | rfl | rfl | rfl | rfl <;> first | exact l1 | exact l2 | exact l3 | exact l4 | exact l5 | exact l6)) N₄ hd hu (fun h₅ tk₅ g₅ m₅ F₅ z1 z2 z3 z4 N₅ hg₅ => rest13 F₅ z1 z2 z3 z4 N₅ (hg₅ hg)))
  refine wpAny_execs_cons (y_8 hd0 th b ks hb tb hsz hh hashedK hhb thh (by decide) a as ha ta haz c sg hc tc hcz X T (frs F₁ [(Str.ofString "head", .int hd0 th), (Str.ofString "inner", .bytes b tb), (Str.ofString "hashed", .bytes hh thh), (Str.ofString "ahead", .bytes a ta), (Str.ofString "sig", .bytes c tc)] (by intro p hp; simp only [List.mem_cons, List.not_mem_nil, or_false] at hp; rcases hp with rfl | rfl | rfl | rfl | rfl <;> first | exact a1 | exact a2 | exact a3 | exact a4 | exact a5)) N₁ hd hu (fun hl h₄ tk₄ m₄ F₄ l1 l2 l3 l4 l5 l6 N₄ => ?_) (fun d td hl hdz h₄ tk₄ m₄ F₄ l1 l2 l3 l4 l5 l6 N₄ => ?_))
  · exact wpAny_execs_cons (y_9n hd0 th b ks hb tb hsz hh hashedK hhb thh (by decide) a as ha ta haz c sg hc tc hcz (fun h => h) (p2_none hl) (p2_plain hnp) X T (frs F₄ [(Str.ofString "head", .int hd0 th), (Str.ofString "inner", .bytes b tb), (Str.ofString "hashed", .bytes hh thh), (Str.ofString "ahead", .bytes a ta), (Str.ofString "sig", .bytes c tc), (Str.ofString "last", .none)] (by intro p hp; simp only [List.mem_cons, List.not_mem_nil, or_false] at hp; rcases hp with rfl | rfl | rfl | rfl | rfl | rfl <;> first | exact l1 | exact l2 | exact l3 | exact l4 | exact l5 | exact l6)) N₄ hd hu (fun h₅ tk₅ g₅ m₅ F₅ z1 z2 z3 z4 z5 N₅ hg₅ => rest10 F₅ z1 z2 z3 z4 z5 N₅ (hg₅ hb0)))
  · exact wpAny_execs_cons (y_9s hd0 th b ks hb tb hsz hh hashedK hhb thh (by decide) a as ha ta haz c sg hc tc hcz (fun h => h) d td (KBw.bInts d) rfl hdz (p2_some hl) (p2_plain hnp) X T (frs F₄ [(Str.ofString "head", .int hd0 th), (Str.ofString "inner", .bytes b tb), (Str.ofString "hashed", .bytes hh thh), (Str.ofString "ahead", .bytes a ta), (Str.ofString "sig", .bytes c tc), (Str.ofString "last", .bytes d td)] (by intro p hp; simp only [List.mem_cons, List.not_mem_nil, or_false] at hp; rcases hp with rfl | rfl | rfl | rfl | rfl | rfl <;> first | exact l1 | exact l2 | exact l3 | exact l4 | exact l5 | exact l6)) N₄ hd hu (fun h₅ tk₅ g₅ m₅ F₅ z1 z2 z3 z4 z5 N₅ hg₅ => rest10 F₅ z1 z2 z3 z4 z5 N₅ (hg₅ hb0)))

theorem law_b {h₀ : Heap} {L : Addr} {m : Str → Option Value} {Q : Flow → Shared → Prop} {E : Value → Shared → Prop} (l : Addr) (vs : List Value) (ns : List Int) (hL : h₀.IsList l vs.toArray) (hi : IntsAre vs ns) (hnl : ns.length ≤ 1048576)
    (ps : Array Value) (htr : TriplesOk ps.toList) (hb0 : AllBare s.gens) (hBM : ∃ bm ob, mg "__builtins__" = some (.ref bm) ∧ bm ≠ builtinsNs ∧ h₀.get? bm = some ob ∧ ob.cls = .type "module" ∧ ob.dict = some builtinsNs ∧ ob.data = .plain)
    (X : (KH w.params).In h₀) (T : TopRead q lw mg mb h₀) (F : Fr h₀ L s.heap m) (es : m (Str.ofString "script") = some (.ref l)) (N : News h₀ L s.heap [(767, tabO ps)]) (hd : dp + 450 < recursionLimit) (hu : un + 1300 < cLine)
    (hret : ∀ h' tk' g' ps' more, ps' = ps ++ more → TriplesOk ps'.toList → AllBare g' → Ext h₀ h' → h'.get? 767 = some (tabO ps') → Q (.ret (.bool true)) { s with heap := h', toks := tk', gens := g' }) :
    wpAny (model RP w) (Ar dp un (some [y_E w L]) gd) (execs (yB w) (y_E w L)) Q E s := by
  rw [yB_is]
  refine wpAny_execs_cons (y_0 l vs ns hL hi hnl X T F es N (by omega) (by omega) (fun NU vs1 ns1 k1 h₁ tk₁ m₁ hi1 hl1 hpos F₁ a1 N₁ => ?_))
  have rest : ∀ {hd0 : Int} {th : Tok} {h' : Heap} {tk' : Nat} {m' : Str → Option Value}, Fr h₀ L h' m' → m' (Str.ofString "numbers") = some (.ref NU) → m' (Str.ofString "head") = some (.int hd0 th) → News h₀ L h' ((NU, listOf vs1.toArray k1) :: [(767, tabO ps)]) →
      wpAny (model RP w) (Ar dp un (some [y_E w L]) gd) (execs [yS w 2, yS w 3, yS w 4, yS w 5, yS w 6, yS w 7, yS w 8, yS w 9, yS w 10, yS w 11, yS w 12, yS w 13, yS w 14, yS w 15, yS w 16] (y_E w L)) Q E { s with heap := h', toks := tk' } := fun {hd0 th h₂ tk₂ m₂} F₂ i1 i2 N₂ => by
    refine wpAny_execs_cons (y_2 NU vs1 ns1 k1 hi1 hl1 hpos hd0 th X T (frs F₂ [(Str.ofString "numbers", .ref NU), (Str.ofString "head", .int hd0 th)] (by intro p hp; simp only [List.mem_cons, List.not_mem_nil, or_false] at hp; rcases hp with rfl | rfl <;> first | exact i1 | exact i2)) N₂ hd hu (fun ls r tr h₃ tk₃ m₃ hll hls hr F₃ j1 j2 j3 N₃ => ?_))
    have hrl : (KBw.bInts r).length ≤ 90 := by
      rw [hr]
      have := flat_len (fun p : Array UInt8 × Tok => KBw.bInts p.1) ls fun p hp => (hls p hp).2.1
      omega
    refine wpAny_execs_cons (y_3 NU vs1 ns1 k1 hi1 hl1 hd0 th r (KBw.bInts r) rfl tr hrl X T (frs F₃ [(Str.ofString "numbers", .ref NU), (Str.ofString "head", .int hd0 th), (Str.ofString "inner", .bytes r tr)] (by intro p hp; simp only [List.mem_cons, List.not_mem_nil, or_false] at hp; rcases hp with rfl | rfl | rfl <;> first | exact j1 | exact j2 | exact j3)) N₃ hd hu (fun b tb h₄ tk₄ m₄ hor F₄ l1 l2 l3 N₄ => ?_))
    have hnp : isP2 (KBw.bInts b) = false := inner_not hls hr hor
    have hbl : (KBw.bInts b).length ≤ 90 := by
      rcases hor with h | h
      · rw [h]; exact Nat.le_trans (List.length_take_le' ..) hrl
      · rw [h]; exact hrl
    refine wpAny_execs_cons (y_4 NU hd0 th b (KBw.bInts b) rfl tb hbl X T (frs F₄ [(Str.ofString "numbers", .ref NU), (Str.ofString "head", .int hd0 th), (Str.ofString "inner", .bytes b tb)] (by intro p hp; simp only [List.mem_cons, List.not_mem_nil, or_false] at hp; rcases hp with rfl | rfl | rfl <;> first | exact l1 | exact l2 | exact l3)) N₄ hd hu (fun h₅ tk₅ g₅ m₅ F₅ z1 z2 z3 N₅ hg₅ => ?_))
    refine wpAny_execs_cons (y_5 hd0 th b (KBw.bInts b) rfl tb hbl NU vs1 ns1 k1 hi1 hl1 X T (frs F₅ [(Str.ofString "numbers", .ref NU), (Str.ofString "head", .int hd0 th), (Str.ofString "inner", .bytes b tb)] (by intro p hp; simp only [List.mem_cons, List.not_mem_nil, or_false] at hp; rcases hp with rfl | rfl | rfl <;> first | exact z1 | exact z2 | exact z3)) N₅ hd hu (fun hh thh h₆ tk₆ m₆ hhb F₆ u1 u2 u3 u4 N₆ => ?_))
    refine wpAny_execs_cons (y_6 NU vs1 ns1 k1 hi1 hl1 hpos hd0 th b (KBw.bInts b) rfl tb hbl hh hashedK hhb thh (by decide) X T (frs F₆ [(Str.ofString "numbers", .ref NU), (Str.ofString "head", .int hd0 th), (Str.ofString "inner", .bytes b tb), (Str.ofString "hashed", .bytes hh thh)] (by intro p hp; simp only [List.mem_cons, List.not_mem_nil, or_false] at hp; rcases hp with rfl | rfl | rfl | rfl <;> first | exact u1 | exact u2 | exact u3 | exact u4)) N₆ hd hu (fun la a ta h₇ tk₇ m₇ hla hlas har F₇ v1 v2 v3 v4 N₇ => ?_))
    obtain ⟨xs, hxs, hgood⟩ := ahead_flat hlas
    have hal : (KBw.bInts a).length ≤ 18 := by
      rw [har]
      have := flat_len (fun p : Array UInt8 × Tok => KBw.bInts p.1) la fun p hp => len_push (hlas p hp)
      omega
    exact law_mid hd0 th b (KBw.bInts b) rfl tb hbl hnp hh hhb thh a (KBw.bInts a) rfl ta hal (fun pks hp => by rw [har, hxs]; exact lp_pushes xs pks hgood (by have := (pgs_p2 hp).2.1; omega)) ps htr (hg₅ hb0) hBM X T F₇ v1 v2 v3 v4 N₇ hd hu hret
  rcases Nat.eq_zero_or_pos ns1.length with h0 | h1
  · have hn : ns1 = [] := List.eq_nil_of_length_eq_zero h0
    subst hn
    have hv : vs1 = [] := List.eq_nil_of_length_eq_zero (by rw [hi1.length]; rfl)
    subst hv
    exact wpAny_execs_cons (y_1e NU k1 X T (frs F₁ [(Str.ofString "numbers", .ref NU)] (by intro p hp; simp only [List.mem_cons, List.not_mem_nil, or_false] at hp; rcases hp with rfl <;> first | exact a1)) N₁ hd hu (fun t h₂ tk₂ m₂ F₂ i1 i2 N₂ => rest F₂ i1 i2 N₂))
  · exact wpAny_execs_cons (y_1 NU vs1 ns1 k1 hi1 hl1 h1 X T (frs F₁ [(Str.ofString "numbers", .ref NU)] (by intro p hp; simp only [List.mem_cons, List.not_mem_nil, or_false] at hp; rcases hp with rfl <;> first | exact a1)) N₁ hd hu (fun t h₂ tk₂ m₂ F₂ i1 i2 N₂ => rest F₂ i1 i2 N₂))
end
end Mine
namespace Mine
theorem table_at {w : World} {h : Heap} {ps : Array Value} (X : (KH w.params).In h) (e : h.get? 767 = some (tabO ps)) : h.TableAt 771 767 ps := ⟨⟨_, _, X 771 (Mine.top.o_1193 w.params) (by rfl), rfl, rfl, rfl⟩, e⟩
theorem kh_no (P : Params) : (KH P).lookup 767 = none := by kernel_rfl
theorem in_hide {w : World} {h : Heap} (X : (KH w.params).In h) : (KH w.params).In (h.hide 767) := fun a o e => by
  have hne : a ≠ 767 := fun q => by rw [q, kh_no] at e; cases e
  exact (Heap.hide_ne h hne).trans (X a o e)
theorem ns_hide {h : Heap} {a : Addr} {m : Str → Option Value} (hn : h.Ns a m) (hne : a ≠ 767) : (h.hide 767).Ns a m := hn.at' fun o e => (Heap.hide_ne h hne).trans e
theorem top_hide {mg mb : Str → Option Value} {h : Heap} (T : TopRead q lw mg mb h) : TopRead q lw mg mb (h.hide 767) :=
  ⟨ns_hide T.g (by decide), ns_hide T.b (by decide), (let ⟨mc, a, b⟩ := T.nolimit; ⟨mc, ns_hide a (by decide), b⟩), T.builtins, T.free⟩
theorem law_p {w : World} {mg mb : Str → Option Value} {s : Shared} {Q E : Value → Shared → Prop} (l : Addr) (vs : List Value) (ns : List Int) (hL : s.heap.IsList l vs.toArray) (hi : IntsAre vs ns) (hnl : ns.length ≤ 1048576)
    (X : (KH w.params).In s.heap) (T : TopRead q lw mg mb s.heap) (e7 : s.heap.get? 767 = some (tabO #[])) (hb0 : AllBare s.gens)
    (hBM : ∃ bm ob, mg "__builtins__" = some (.ref bm) ∧ bm ≠ builtinsNs ∧ s.heap.get? bm = some ob ∧ ob.cls = .type "module" ∧ ob.dict = some builtinsNs ∧ ob.data = .plain)
    (hret : ∀ h' tk' g', OldK s.heap h' → AllBare g' → Q (.bool true) { s with heap := h', toks := tk', gens := g' }) :
    wpAny (model RP w) callerA (call (.ref 915) [.ref l]) Q E s := by
  refine wpAny_call ?_
  refine enterK (K := KH w.params) (f := 915) X T.nolimit (by rfl) (by rfl) (by decide) (binds := [(Str.ofString "script", .ref l)]) (BindsTo.of_eq (by rfl)) (fun x hx => ?_) (fun L h₁ F N hL' => ?_) (by rfl) (by rfl) (by rfl) ?_
  · simp only [List.mem_cons, List.not_mem_nil, or_false] at hx
    subst hx; rfl
  · obtain ⟨F₁, N₁⟩ := hide_in F N e7
    have hl7 : l ≠ 767 := fun q => by
      obtain ⟨o, ho, hc, _⟩ := hL
      rw [q, e7] at ho; cases ho; cases hc
    have hBM' : ∃ bm ob, mg "__builtins__" = some (.ref bm) ∧ bm ≠ builtinsNs ∧ (s.heap.hide 767).get? bm = some ob ∧ ob.cls = .type "module" ∧ ob.dict = some builtinsNs ∧ ob.data = .plain := by
      obtain ⟨bm, ob, h1, h2, h3, h4, h5⟩ := hBM
      refine ⟨bm, ob, h1, h2, (Heap.hide_ne _ fun q => ?_).trans h3, h4, h5⟩
      rw [q, e7] at h3; cases h3; cases h4
    have hL2 : (s.heap.hide 767).IsList l vs.toArray := by
      obtain ⟨o, ho, r⟩ := hL
      exact ⟨o, (Heap.hide_ne _ hl7).trans ho, r⟩
    refine law_b (dp := 1 + claimMargin + 1) (un := 4 + 3) (gd := some []) l vs ns hL2 hi hnl #[] (by first | trivial | exact .nil | decide | simp [TriplesOk]) hb0 hBM' (in_hide X) (top_hide T) F₁ (lookup1 _) N₁ (by decide) (by decide) (fun h' tk' g' ps' more eps htr hab hE e7' => ?_)
    refine hret h' tk' g' ?_ hab
    subst eps
    refine OldK.step_table (OldK.refl s.heap) (table_at X e7) (table_at X e7) (table_at ((in_hide X).keeps hE) e7') (fun b o hb e => hE b o ((Heap.hide_ne _ hb).trans e)) (by decide)
  · intro x hx
    revert x
    dsimp only [fdOf, t915, fnS, nth, pw, PySem.Challenge.pw_ez0016_01]
    decide
end Mine
set_option maxHeartbeats 8000000
namespace Mine
theorem kx_of {w : World} {h : Heap} (X : (KH2 w.params).In h) : (KH w.params).In h := fun a o e => X a o (by
  have hne : (a == 767) = false := by
    cases q : (a == 767) with
    | false => rfl
    | true =>
      have := eq_of_beq q
      subst this
      rw [kh_no] at e; cases e
  show List.lookup a ((767, _) :: KH w.params) = some o
  rw [List.lookup_cons, hne]; exact e)
theorem all_bare0 : AllBare #[] := .of_eq rfl
theorem law_whole : PySem.Challenge.rw_ez0016_01.Holds := by
  w_on
  o_law
  refine holds_open (q := q) (loose := loose) (Xt := Mine.Xt) (XP := XL q []) (Yf := hk.obs) (Ya := hk.val) (YP := hk.says) (N := 12872) left hk.of hk.keeps (fun s e => xl_of s (Bool.and_eq_true_iff.mp e).1) XL.keeps (by rfl) (by rfl) (by rfl) (fun s e => recFacts_of (Bool.and_eq_true_iff.mp e).2) (by rfl) (by first | assumption | decide +kernel) (by decide +kernel) ⟨rfl, rfl, rfl, rfl, rfl, by decide +kernel⟩ ?hw ?hc
  case hw => w_witness2
  intro w s₀ s₁ mg mb G Y fa o pm cd doc dV kV ho hd hcd hD hmg hg args vals as hpre hlay hrd hwl hlo
  have KX2 := kIn_of Y
  have KX := kx_of KX2
  have X := (Ground.X G).1
  have V := (Ground.X G).2
  refine Ground.open G ?_
  intro T B D TE TW
  wrow_args hpre hlay hrd hwl hlo
  rename Heap.IsList _ _ _ => hL
  rename IntsAre _ _ => hI
  have hfa : fa = 915 := by
    have h := mg_of KX T.g (n := Str.ofString "law") (v := .ref 915) (by rfl)
    have h2 := hmg.symm.trans h
    cases h2; rfl
  subst hfa
  refine law_p _ _ _ hL hI (by omega) KX (topRead_of T) (KX2 767 _ rfl) (by rw [hg]; exact all_bare0) T.bmain (fun h' tk' g' hK hab => ?_)
  refine ⟨.inl ⟨.bool true, .bool true, [], rfl, fun cls => ?_, .bool true, ?_, unshared_nil⟩, hK, rfl, hab⟩
  · rfl
  · first | rfl | wrow_post
end Mine
theorem PySem.Challenge.cw_ez0016_01_holds : PySem.Challenge.rw_ez0016_01.Holds :=
  Mine.law_whole
