import PyProof.Rows.All
import Wide.All
import OpenK.AllK
import Wide.FinOn
import PyProof.NeKinds
import Lean
import PySem.Challenge.RW_op0238_01
set_option Elab.async false
set_option maxRecDepth 100000
set_option compiler.extract_closed false
namespace Mine
section KK_
open PySem PySem.W PyProof.Rows
set_option maxRecDepth 100000
set_option maxHeartbeats 8000000

noncomputable abbrev pp : Program := PySem.Challenge.pw_op0238_01
noncomputable abbrev S (x : String) : PySem.Str := PySem.Str.ofString x
noncomputable def stA (i : Nat) : Stmt := (pp.main.body[i]?).getD (.Pass default)
noncomputable def stB (i j : Nat) : Stmt := match stA i with
  | .ClassDef _ _ _ b .. => (b[j]?).getD (.Pass default)
  | _ => .Pass default
noncomputable def prmOf : Stmt → Arguments
  | .FunctionDef _ a .. => a
  | _ => default
noncomputable def bodOf : Stmt → List Stmt
  | .FunctionDef _ _ b .. => b
  | _ => []
noncomputable def scpOf : Stmt → Scope
  | .FunctionDef _ _ _ _ _ _ s .. => s
  | _ => default
noncomputable def q1 : Program := { pp with main := { pp.main with body := [0, 1, 3, 4, 5, 6, 7, 8, 9, 10, 12, 13, 14, 15, 16, 17, 19, 22, 23, 24, 25, 26, 27, 28, 29, 30, 31, 32, 33, 34, 35, 36, 37, 38, 39, 40, 41, 42, 43, 45, 47, 48, 49, 50, 51, 52, 53, 54].map stA } }
noncomputable def K1 : Params → Frag := fun P =>
(nat_lit 2, (@PySem.Obj.mk @PySem.Value.none (@Option.none @Nat) (@PySem.Data.dict (@List.toArray @PySem.DictEntry [(@PySem.DictEntry.mk (@PySem.PyData.keyHash P (S "\x69mport.loaded._collections")) (@PySem.Value.str (S "\x69mport.loaded._collections") 185) (@PySem.Value.bool @Bool.true)), (@PySem.DictEntry.mk (@PySem.PyData.keyHash P (S "class._frozen_importlib.BuiltinImporter")) (@PySem.Value.str (S "class._frozen_importlib.BuiltinImporter") 187) (@PySem.Value.ref 15)), (@PySem.DictEntry.mk (@PySem.PyData.keyHash P (S "watched.\x69mport")) (@PySem.Value.str (S "watched.\x69mport") 208) (@PySem.Value.ref 19)), (@PySem.DictEntry.mk (@PySem.PyData.keyHash P (S "class._frozen_importlib.ModuleSpec")) (@PySem.Value.str (S "class._frozen_importlib.ModuleSpec") 218) (@PySem.Value.ref 23)), (@PySem.DictEntry.mk (@PySem.PyData.keyHash P (S "sys.modules.booked-epoch")) (@PySem.Value.str (S "sys.modules.booked-epoch") 247) (@PySem.Value.int 3 0)), (@PySem.DictEntry.mk (@PySem.PyData.keyHash P (S "sys.modules.landed._collections")) (@PySem.Value.str (S "sys.modules.landed._collections") 248) (@PySem.Value.bool @Bool.true)), (@PySem.DictEntry.mk (@PySem.PyData.keyHash P (S "\x69mport.later-laid._collections")) (@PySem.Value.str (S "\x69mport.later-laid._collections") 263) (@PySem.Value.bool @Bool.true)), (@PySem.DictEntry.mk (@PySem.PyData.keyHash P (S "watched.library")) (@PySem.Value.str (S "watched.library") 265) (@PySem.Value.ref 28)), (@PySem.DictEntry.mk (@PySem.PyData.keyHash P (S "watched.library-objects")) (@PySem.Value.str (S "watched.library-objects") 0) (@PySem.Value.str (S "\x0d") 0)), (@PySem.DictEntry.mk (@PySem.PyData.keyHash P (S "watched.library-deep._collections")) (@PySem.Value.str (S "watched.library-deep._collections") 266) (@PySem.Value.str (S "\x04\x00\x00\x0c\x04\x00\x00\x0c\x04\x00\x00\x03\x04\x00\x00\x0c\x08\x04dict\x02") 0)), (@PySem.DictEntry.mk (@PySem.PyData.keyHash P (S "type.__subclasses__.OSError.0")) (@PySem.Value.str (S "type.__subclasses__.OSError.0") 322) (@PySem.Value.int 63 0)), (@PySem.DictEntry.mk (@PySem.PyData.keyHash P (S "type.__subclasses__.OSError.n")) (@PySem.Value.str (S "type.__subclasses__.OSError.n") 323) (@PySem.Value.int 1 0))]) 12) (@List.toArray (@Option @PySem.Value) []))) ::
(nat_lit 3, (@PySem.Obj.mk (@PySem.Value.type "dict") (@Option.none @Nat) (@PySem.Data.dict (@List.toArray @PySem.DictEntry [(@PySem.DictEntry.mk (@PySem.PyData.keyHash P (S "__name__")) (@PySem.Value.str (S "__name__") 165) (@PySem.Value.str (S "law_op0238_01") 1250)), (@PySem.DictEntry.mk (@PySem.PyData.keyHash P (S "__doc__")) (@PySem.Value.str (S "__doc__") 166) @PySem.Value.none), (@PySem.DictEntry.mk (@PySem.PyData.keyHash P (S "__package__")) (@PySem.Value.str (S "__package__") 167) @PySem.Value.none), (@PySem.DictEntry.mk (@PySem.PyData.keyHash P (S "__loader__")) (@PySem.Value.str (S "__loader__") 168) (@PySem.Value.builtin "__main__.__loader__#opaque")), (@PySem.DictEntry.mk (@PySem.PyData.keyHash P (S "__spec__")) (@PySem.Value.str (S "__spec__") 169) @PySem.Value.none), (@PySem.DictEntry.mk (@PySem.PyData.keyHash P (S "__annotations__")) (@PySem.Value.str (S "__annotations__") 170) (@PySem.Value.ref 6)), (@PySem.DictEntry.mk (@PySem.PyData.keyHash P (S "__builtins__")) (@PySem.Value.str (S "__builtins__") 171) (@PySem.Value.ref 4)), (@PySem.DictEntry.mk (@PySem.PyData.keyHash P (S "__file__")) (@PySem.Value.str (S "__file__") 173) (@PySem.Value.str (S "/claim/cut.py") 172)), (@PySem.DictEntry.mk (@PySem.PyData.keyHash P (S "__cached__")) (@PySem.Value.str (S "__cached__") 174) @PySem.Value.none), (@PySem.DictEntry.mk (@PySem.PyData.keyHash P (S "deque")) (@PySem.Value.str (S "deque") 272) (@PySem.Value.type "collections.deque")), (@PySem.DictEntry.mk (@PySem.PyData.keyHash P (S "_wall")) (@PySem.Value.str (S "_wall") 285) (@PySem.Value.ref 39)), (@PySem.DictEntry.mk (@PySem.PyData.keyHash P (S "_whence")) (@PySem.Value.str (S "_whence") 295) (@PySem.Value.ref 46)), (@PySem.DictEntry.mk (@PySem.PyData.keyHash P (S "_index")) (@PySem.Value.str (S "_index") 303) (@PySem.Value.ref 53)), (@PySem.DictEntry.mk (@PySem.PyData.keyHash P (S "UnsupportedOperation")) (@PySem.Value.str (S "UnsupportedOperation") 325) (@PySem.Value.ref 63)), (@PySem.DictEntry.mk (@PySem.PyData.keyHash P (S "IOBase")) (@PySem.Value.str (S "IOBase") 357) (@PySem.Value.ref 83)), (@PySem.DictEntry.mk (@PySem.PyData.keyHash P (S "BufferedIOBase")) (@PySem.Value.str (S "BufferedIOBase") 375) (@PySem.Value.ref 98)), (@PySem.DictEntry.mk (@PySem.PyData.keyHash P (S "TextIOBase")) (@PySem.Value.str (S "TextIOBase") 393) (@PySem.Value.ref 110)), (@PySem.DictEntry.mk (@PySem.PyData.keyHash P (S "BytesIO")) (@PySem.Value.str (S "BytesIO") 655) (@PySem.Value.ref 340)), (@PySem.DictEntry.mk (@PySem.PyData.keyHash P (S "StringIO")) (@PySem.Value.str (S "StringIO") 942) (@PySem.Value.ref 587)), (@PySem.DictEntry.mk (@PySem.PyData.keyHash P (S "_kind")) (@PySem.Value.str (S "_kind") 953) (@PySem.Value.ref 596)), (@PySem.DictEntry.mk (@PySem.PyData.keyHash P (S "_fspath")) (@PySem.Value.str (S "_fspath") 962) (@PySem.Value.ref 603)), (@PySem.DictEntry.mk (@PySem.PyData.keyHash P (S "_check_arg_types")) (@PySem.Value.str (S "_check_arg_types") 972) (@PySem.Value.ref 610)), (@PySem.DictEntry.mk (@PySem.PyData.keyHash P (S "isabs")) (@PySem.Value.str (S "isabs") 979) (@PySem.Value.ref 617)), (@PySem.DictEntry.mk (@PySem.PyData.keyHash P (S "join")) (@PySem.Value.str (S "join") 990) (@PySem.Value.ref 624)), (@PySem.DictEntry.mk (@PySem.PyData.keyHash P (S "dirname")) (@PySem.Value.str (S "dirname") 1000) (@PySem.Value.ref 631)), (@PySem.DictEntry.mk (@PySem.PyData.keyHash P (S "shlex")) (@PySem.Value.str (S "shlex") 1141) (@PySem.Value.ref 722)), (@PySem.DictEntry.mk (@PySem.PyData.keyHash P (S "split")) (@PySem.Value.str (S "split") 1151) (@PySem.Value.ref 734)), (@PySem.DictEntry.mk (@PySem.PyData.keyHash P (S "S_IFMT")) (@PySem.Value.str (S "S_IFMT") 1160) (@PySem.Value.ref 741)), (@PySem.DictEntry.mk (@PySem.PyData.keyHash P (S "S_IFDIR")) (@PySem.Value.str (S "S_IFDIR") 1162) (@PySem.Value.int 16384 1161)), (@PySem.DictEntry.mk (@PySem.PyData.keyHash P (S "S_IFCHR")) (@PySem.Value.str (S "S_IFCHR") 1164) (@PySem.Value.int 8192 1163)), (@PySem.DictEntry.mk (@PySem.PyData.keyHash P (S "S_IFBLK")) (@PySem.Value.str (S "S_IFBLK") 1166) (@PySem.Value.int 24576 1165)), (@PySem.DictEntry.mk (@PySem.PyData.keyHash P (S "S_IFREG")) (@PySem.Value.str (S "S_IFREG") 1168) (@PySem.Value.int 32768 1167)), (@PySem.DictEntry.mk (@PySem.PyData.keyHash P (S "S_IFIFO")) (@PySem.Value.str (S "S_IFIFO") 1170) (@PySem.Value.int 4096 1169)), (@PySem.DictEntry.mk (@PySem.PyData.keyHash P (S "S_IFLNK")) (@PySem.Value.str (S "S_IFLNK") 1172) (@PySem.Value.int 40960 1171)), (@PySem.DictEntry.mk (@PySem.PyData.keyHash P (S "S_IFSOCK")) (@PySem.Value.str (S "S_IFSOCK") 1174) (@PySem.Value.int 49152 1173)), (@PySem.DictEntry.mk (@PySem.PyData.keyHash P (S "S_ISUID")) (@PySem.Value.str (S "S_ISUID") 1176) (@PySem.Value.int 2048 1175)), (@PySem.DictEntry.mk (@PySem.PyData.keyHash P (S "S_ISGID")) (@PySem.Value.str (S "S_ISGID") 1178) (@PySem.Value.int 1024 1177)), (@PySem.DictEntry.mk (@PySem.PyData.keyHash P (S "S_ISVTX")) (@PySem.Value.str (S "S_ISVTX") 1180) (@PySem.Value.int 512 1179)), (@PySem.DictEntry.mk (@PySem.PyData.keyHash P (S "S_IRUSR")) (@PySem.Value.str (S "S_IRUSR") 1182) (@PySem.Value.int 256 1181)), (@PySem.DictEntry.mk (@PySem.PyData.keyHash P (S "S_IWUSR")) (@PySem.Value.str (S "S_IWUSR") 1184) (@PySem.Value.int 128 1183)), (@PySem.DictEntry.mk (@PySem.PyData.keyHash P (S "S_IXUSR")) (@PySem.Value.str (S "S_IXUSR") 1186) (@PySem.Value.int 64 1185)), (@PySem.DictEntry.mk (@PySem.PyData.keyHash P (S "S_IRGRP")) (@PySem.Value.str (S "S_IRGRP") 1188) (@PySem.Value.int 32 1187)), (@PySem.DictEntry.mk (@PySem.PyData.keyHash P (S "S_IWGRP")) (@PySem.Value.str (S "S_IWGRP") 1190) (@PySem.Value.int 16 1189)), (@PySem.DictEntry.mk (@PySem.PyData.keyHash P (S "S_IXGRP")) (@PySem.Value.str (S "S_IXGRP") 1192) (@PySem.Value.int 8 1191)), (@PySem.DictEntry.mk (@PySem.PyData.keyHash P (S "S_IROTH")) (@PySem.Value.str (S "S_IROTH") 1194) (@PySem.Value.int 4 1193)), (@PySem.DictEntry.mk (@PySem.PyData.keyHash P (S "S_IWOTH")) (@PySem.Value.str (S "S_IWOTH") 1196) (@PySem.Value.int 2 1195)), (@PySem.DictEntry.mk (@PySem.PyData.keyHash P (S "S_IXOTH")) (@PySem.Value.str (S "S_IXOTH") 1198) (@PySem.Value.int 1 1197)), (@PySem.DictEntry.mk (@PySem.PyData.keyHash P (S "_filemode_table")) (@PySem.Value.str (S "_filemode_table") 1224) (@PySem.Value.ref 774)), (@PySem.DictEntry.mk (@PySem.PyData.keyHash P (S "filemode")) (@PySem.Value.str (S "filemode") 1236) (@PySem.Value.ref 781)), (@PySem.DictEntry.mk (@PySem.PyData.keyHash P (S "_byteswap")) (@PySem.Value.str (S "_byteswap") 1249) (@PySem.Value.ref 788)), (@PySem.DictEntry.mk (@PySem.PyData.keyHash P (S "_law_sign")) (@PySem.Value.str (S "_law_sign") 1259) (@PySem.Value.ref 795)), (@PySem.DictEntry.mk (@PySem.PyData.keyHash P (S "_law_split")) (@PySem.Value.str (S "_law_split") 1266) (@PySem.Value.ref 802)), (@PySem.DictEntry.mk (@PySem.PyData.keyHash P (S "_law_read")) (@PySem.Value.str (S "_law_read") 1277) (@PySem.Value.ref 809)), (@PySem.DictEntry.mk (@PySem.PyData.keyHash P (S "_law_mirror")) (@PySem.Value.str (S "_law_mirror") 1283) (@PySem.Value.ref 814)), (@PySem.DictEntry.mk (@PySem.PyData.keyHash P (S "_law_moved")) (@PySem.Value.str (S "_law_moved") 1294) (@PySem.Value.ref 821)), (@PySem.DictEntry.mk (@PySem.PyData.keyHash P (S "_law_row")) (@PySem.Value.str (S "_law_row") 1306) (@PySem.Value.ref 828)), (@PySem.DictEntry.mk (@PySem.PyData.keyHash P (S "_law_mode")) (@PySem.Value.str (S "_law_mode") 1314) (@PySem.Value.ref 835)), (@PySem.DictEntry.mk (@PySem.PyData.keyHash P (S "law")) (@PySem.Value.str (S "law") 1320) (@PySem.Value.ref 840))]) 58) (@List.toArray (@Option @PySem.Value) []))) ::
(nat_lit 33, (@PySem.Obj.mk (@PySem.Value.type "tuple") (@Option.none @Nat) (@PySem.Data.seq (@List.toArray @PySem.Value []) 0) (@List.toArray (@Option @PySem.Value) []))) ::
(nat_lit 35, (@PySem.Obj.mk (@PySem.Value.type "tuple") (@Option.none @Nat) (@PySem.Data.seq (@List.toArray @PySem.Value [(@PySem.Value.str (S "k") 282)]) 0) (@List.toArray (@Option @PySem.Value) []))) ::
(nat_lit 36, (@PySem.Obj.mk (@PySem.Value.type "tuple") (@Option.none @Nat) (@PySem.Data.seq (@List.toArray @PySem.Value []) 0) (@List.toArray (@Option @PySem.Value) []))) ::
(nat_lit 38, (@PySem.Obj.mk (@PySem.Value.type "code") (@Option.none @Nat) (@PySem.Data.fields (@List.toArray @PySem.Value [(@PySem.Value.str (S "_wall") 279), (@PySem.Value.str (S "_wall") 280), (@PySem.Value.str (S "/claim/cut.py") 281), (@PySem.Value.int 2 0), (@PySem.Value.int 1 0), (@PySem.Value.int 0 0), (@PySem.Value.int 0 0), (@PySem.Value.int 3 0), (@PySem.Value.ref 33), (@PySem.Value.bool @Bool.true), (@PySem.Value.int 273 0), (@PySem.Value.ref 34), @PySem.Value.none, (@PySem.Value.ref 35), (@PySem.Value.ref 36), (@PySem.Value.ref 37), (@PySem.Value.int 283 0), (@PySem.Value.int 2 0), (@PySem.Value.str (S "/claim/cut.py") 284)])) (@List.toArray (@Option @PySem.Value) []))) ::
(nat_lit 39, (@Obj.mk (@PySem.Value.type "function") (@Option.none @Nat) (Data.func (@FuncData.mk (S "_wall") (S "_wall") (prmOf (stA 1)) (FuncBody.stmts (bodOf (stA 1))) (scpOf (stA 1)) 3 [] @PySem.Value.none @PySem.Value.none @PySem.Value.none (@PySem.Value.str (S "__main__") 164) (@Option.none @Nat) (@PySem.Value.ref 38) @PySem.Value.none 0)) (@List.toArray (@Option @PySem.Value) []))) ::
(nat_lit 40, (@PySem.Obj.mk (@PySem.Value.type "tuple") (@Option.none @Nat) (@PySem.Data.seq (@List.toArray @PySem.Value []) 0) (@List.toArray (@Option @PySem.Value) []))) ::
(nat_lit 42, (@PySem.Obj.mk (@PySem.Value.type "tuple") (@Option.none @Nat) (@PySem.Data.seq (@List.toArray @PySem.Value [(@PySem.Value.str (S "n") 291), (@PySem.Value.str (S "what") 292)]) 0) (@List.toArray (@Option @PySem.Value) []))) ::
(nat_lit 43, (@PySem.Obj.mk (@PySem.Value.type "tuple") (@Option.none @Nat) (@PySem.Data.seq (@List.toArray @PySem.Value []) 0) (@List.toArray (@Option @PySem.Value) []))) ::
(nat_lit 45, (@PySem.Obj.mk (@PySem.Value.type "code") (@Option.none @Nat) (@PySem.Data.fields (@List.toArray @PySem.Value [(@PySem.Value.str (S "_whence") 288), (@PySem.Value.str (S "_whence") 289), (@PySem.Value.str (S "/claim/cut.py") 290), (@PySem.Value.int 6 0), (@PySem.Value.int 2 0), (@PySem.Value.int 0 0), (@PySem.Value.int 0 0), (@PySem.Value.int 3 0), (@PySem.Value.ref 40), (@PySem.Value.bool @Bool.true), (@PySem.Value.int 273 0), (@PySem.Value.ref 41), @PySem.Value.none, (@PySem.Value.ref 42), (@PySem.Value.ref 43), (@PySem.Value.ref 44), (@PySem.Value.int 293 0), (@PySem.Value.int 6 0), (@PySem.Value.str (S "/claim/cut.py") 294)])) (@List.toArray (@Option @PySem.Value) []))) ::
(nat_lit 46, (@Obj.mk (@PySem.Value.type "function") (@Option.none @Nat) (Data.func (@FuncData.mk (S "_whence") (S "_whence") (prmOf (stA 3)) (FuncBody.stmts (bodOf (stA 3))) (scpOf (stA 3)) 3 [] @PySem.Value.none @PySem.Value.none @PySem.Value.none (@PySem.Value.str (S "io") 286) (@Option.none @Nat) (@PySem.Value.ref 45) @PySem.Value.none 0)) (@List.toArray (@Option @PySem.Value) []))) ::
(nat_lit 47, (@PySem.Obj.mk (@PySem.Value.type "tuple") (@Option.none @Nat) (@PySem.Data.seq (@List.toArray @PySem.Value []) 0) (@List.toArray (@Option @PySem.Value) []))) ::
(nat_lit 49, (@PySem.Obj.mk (@PySem.Value.type "tuple") (@Option.none @Nat) (@PySem.Data.seq (@List.toArray @PySem.Value [(@PySem.Value.str (S "n") 299), (@PySem.Value.str (S "what") 300)]) 0) (@List.toArray (@Option @PySem.Value) []))) ::
(nat_lit 50, (@PySem.Obj.mk (@PySem.Value.type "tuple") (@Option.none @Nat) (@PySem.Data.seq (@List.toArray @PySem.Value []) 0) (@List.toArray (@Option @PySem.Value) []))) ::
(nat_lit 52, (@PySem.Obj.mk (@PySem.Value.type "code") (@Option.none @Nat) (@PySem.Data.fields (@List.toArray @PySem.Value [(@PySem.Value.str (S "_index") 296), (@PySem.Value.str (S "_index") 297), (@PySem.Value.str (S "/claim/cut.py") 298), (@PySem.Value.int 11 0), (@PySem.Value.int 2 0), (@PySem.Value.int 0 0), (@PySem.Value.int 0 0), (@PySem.Value.int 3 0), (@PySem.Value.ref 47), (@PySem.Value.bool @Bool.true), (@PySem.Value.int 273 0), (@PySem.Value.ref 48), @PySem.Value.none, (@PySem.Value.ref 49), (@PySem.Value.ref 50), (@PySem.Value.ref 51), (@PySem.Value.int 301 0), (@PySem.Value.int 11 0), (@PySem.Value.str (S "/claim/cut.py") 302)])) (@List.toArray (@Option @PySem.Value) []))) ::
(nat_lit 53, (@Obj.mk (@PySem.Value.type "function") (@Option.none @Nat) (Data.func (@FuncData.mk (S "_index") (S "_index") (prmOf (stA 4)) (FuncBody.stmts (bodOf (stA 4))) (scpOf (stA 4)) 3 [] @PySem.Value.none @PySem.Value.none @PySem.Value.none (@PySem.Value.str (S "io") 286) (@Option.none @Nat) (@PySem.Value.ref 52) @PySem.Value.none 0)) (@List.toArray (@Option @PySem.Value) []))) ::
(nat_lit 62, (@PySem.Obj.mk (@PySem.Value.type "dict") (@Option.none @Nat) (@PySem.Data.dict (@List.toArray @PySem.DictEntry [(@PySem.DictEntry.mk (@PySem.PyData.keyHash P (S "__module__")) (@PySem.Value.str (S "__module__") 311) (@PySem.Value.str (S "io") 316)), (@PySem.DictEntry.mk (@PySem.PyData.keyHash P (S "__firstlineno__")) (@PySem.Value.str (S "__firstlineno__") 315) (@PySem.Value.int 18 314)), (@PySem.DictEntry.mk (@PySem.PyData.keyHash P (S "__static_attributes__")) (@PySem.Value.str (S "__static_attributes__") 318) (@PySem.Value.ref 61)), (@PySem.DictEntry.mk (@PySem.PyData.keyHash P (S "__weakref__")) (@PySem.Value.str (S "__weakref__") 320) (@PySem.Value.ref 64)), (@PySem.DictEntry.mk (@PySem.PyData.keyHash P (S "__doc__")) (@PySem.Value.str (S "__doc__") 321) @PySem.Value.none)]) 3) (@List.toArray (@Option @PySem.Value) []))) ::
(nat_lit 63, (@PySem.Obj.mk (@PySem.Value.type "type") (@Option.none @Nat) (@PySem.Data.cls (@PySem.ClassData.mk (S "UnsupportedOperation") [(@PySem.Value.type "OSError"), (@PySem.Value.type "ValueError")] [(@PySem.Value.ref 63), (@PySem.Value.type "OSError"), (@PySem.Value.type "ValueError"), (@PySem.Value.type "Exception"), (@PySem.Value.type "BaseException"), (@PySem.Value.type "object")] 62 (S "UnsupportedOperation") @Bool.true [] [] @Bool.false (@Option.none @Bool) @Bool.false)) (@List.toArray (@Option @PySem.Value) [(@Option.some @PySem.Value (@PySem.Value.ref 54)), (@Option.none @PySem.Value), (@Option.some @PySem.Value (@PySem.Value.str (S "UnsupportedOperation") 304)), (@Option.some @PySem.Value (@PySem.Value.str (S "UnsupportedOperation") 312)), (@Option.some @PySem.Value (@PySem.Value.builtin "OSError.__new__")), (@Option.some @PySem.Value (@PySem.Value.bool @Bool.true))]))) ::
(nat_lit 64, (@PySem.Obj.mk (@PySem.Value.type "getset_descriptor") (@Option.none @Nat) (@PySem.Data.fields (@List.toArray @PySem.Value [(@PySem.Value.str (S "__weakref__") 319), (@PySem.Value.ref 63), (@PySem.Value.builtin "ExceptionGroup.__weakref__"), @PySem.Value.none])) (@List.toArray (@Option @PySem.Value) []))) ::
(nat_lit 74, (@PySem.Obj.mk (@PySem.Value.type "tuple") (@Option.none @Nat) (@PySem.Data.seq (@List.toArray @PySem.Value []) 0) (@List.toArray (@Option @PySem.Value) []))) ::
(nat_lit 76, (@PySem.Obj.mk (@PySem.Value.type "tuple") (@Option.none @Nat) (@PySem.Data.seq (@List.toArray @PySem.Value [(@PySem.Value.str (S "cls") 343), (@PySem.Value.str (S "args") 344), (@PySem.Value.str (S "kwargs") 345)]) 0) (@List.toArray (@Option @PySem.Value) []))) ::
(nat_lit 77, (@PySem.Obj.mk (@PySem.Value.type "tuple") (@Option.none @Nat) (@PySem.Data.seq (@List.toArray @PySem.Value []) 0) (@List.toArray (@Option @PySem.Value) []))) ::
(nat_lit 79, (@PySem.Obj.mk (@PySem.Value.type "code") (@Option.none @Nat) (@PySem.Data.fields (@List.toArray @PySem.Value [(@PySem.Value.str (S "__new__") 340), (@PySem.Value.str (S "IOBase.__new__") 341), (@PySem.Value.str (S "/claim/cut.py") 342), (@PySem.Value.int 23 0), (@PySem.Value.int 1 0), (@PySem.Value.int 1 0), (@PySem.Value.int 0 0), (@PySem.Value.int 15 0), (@PySem.Value.ref 74), (@PySem.Value.bool @Bool.true), (@PySem.Value.int 273 0), (@PySem.Value.ref 75), @PySem.Value.none, (@PySem.Value.ref 76), (@PySem.Value.ref 77), (@PySem.Value.ref 78), (@PySem.Value.int 346 0), (@PySem.Value.int 23 0), (@PySem.Value.str (S "/claim/cut.py") 347)])) (@List.toArray (@Option @PySem.Value) []))) ::
(nat_lit 80, (@Obj.mk (@PySem.Value.type "function") (@Option.none @Nat) (Data.func (@FuncData.mk (S "__new__") (S "IOBase.__new__") (prmOf (stB 6 1)) (FuncBody.stmts (bodOf (stB 6 1))) (scpOf (stB 6 1)) 3 [] @PySem.Value.none @PySem.Value.none @PySem.Value.none (@PySem.Value.str (S "io") 286) (@Option.none @Nat) (@PySem.Value.ref 79) @PySem.Value.none 0)) (@List.toArray (@Option @PySem.Value) []))) ::
(nat_lit 82, (@PySem.Obj.mk (@PySem.Value.type "dict") (@Option.none @Nat) (@PySem.Data.dict (@List.toArray @PySem.DictEntry [(@PySem.DictEntry.mk (@PySem.PyData.keyHash P (S "__module__")) (@PySem.Value.str (S "__module__") 333) (@PySem.Value.str (S "io") 338)), (@PySem.DictEntry.mk (@PySem.PyData.keyHash P (S "__firstlineno__")) (@PySem.Value.str (S "__firstlineno__") 337) (@PySem.Value.int 20 336)), (@PySem.DictEntry.mk (@PySem.PyData.keyHash P (S "__new__")) (@PySem.Value.str (S "__new__") 348) (@PySem.Value.ref 84)), (@PySem.DictEntry.mk (@PySem.PyData.keyHash P (S "__static_attributes__")) (@PySem.Value.str (S "__static_attributes__") 349) (@PySem.Value.ref 81)), (@PySem.DictEntry.mk (@PySem.PyData.keyHash P (S "__dict__")) (@PySem.Value.str (S "__dict__") 352) (@PySem.Value.ref 85)), (@PySem.DictEntry.mk (@PySem.PyData.keyHash P (S "__weakref__")) (@PySem.Value.str (S "__weakref__") 354) (@PySem.Value.ref 86)), (@PySem.DictEntry.mk (@PySem.PyData.keyHash P (S "__doc__")) (@PySem.Value.str (S "__doc__") 355) @PySem.Value.none)]) 4) (@List.toArray (@Option @PySem.Value) []))) ::
(nat_lit 83, (@PySem.Obj.mk (@PySem.Value.type "type") (@Option.none @Nat) (@PySem.Data.cls (@PySem.ClassData.mk (S "IOBase") [(@PySem.Value.type "object")] [(@PySem.Value.ref 83), (@PySem.Value.type "object")] 82 (S "IOBase") @Bool.true [] [(@PySem.Value.ref 98), (@PySem.Value.ref 110)] @Bool.false (@Option.none @Bool) @Bool.false)) (@List.toArray (@Option @PySem.Value) [(@Option.none @PySem.Value), (@Option.none @PySem.Value), (@Option.some @PySem.Value (@PySem.Value.str (S "IOBase") 326)), (@Option.some @PySem.Value (@PySem.Value.str (S "IOBase") 334)), (@Option.some @PySem.Value @PySem.Value.none), (@Option.some @PySem.Value (@PySem.Value.bool @Bool.true))]))) ::
(nat_lit 84, (@PySem.Obj.mk (@PySem.Value.type "staticmethod") (@Option.none @Nat) (@PySem.Data.fields (@List.toArray @PySem.Value [(@PySem.Value.ref 80)])) (@List.toArray (@Option @PySem.Value) []))) ::
(nat_lit 85, (@PySem.Obj.mk (@PySem.Value.type "getset_descriptor") (@Option.none @Nat) (@PySem.Data.fields (@List.toArray @PySem.Value [(@PySem.Value.str (S "__dict__") 351), (@PySem.Value.ref 83), (@PySem.Value.builtin "function.__dict__"), (@PySem.Value.builtin "function.__dict__#set")])) (@List.toArray (@Option @PySem.Value) []))) ::
(nat_lit 86, (@PySem.Obj.mk (@PySem.Value.type "getset_descriptor") (@Option.none @Nat) (@PySem.Data.fields (@List.toArray @PySem.Value [(@PySem.Value.str (S "__weakref__") 353), (@PySem.Value.ref 83), (@PySem.Value.builtin "ExceptionGroup.__weakref__"), @PySem.Value.none])) (@List.toArray (@Option @PySem.Value) []))) ::
(nat_lit 97, (@PySem.Obj.mk (@PySem.Value.type "dict") (@Option.none @Nat) (@PySem.Data.dict (@List.toArray @PySem.DictEntry [(@PySem.DictEntry.mk (@PySem.PyData.keyHash P (S "__module__")) (@PySem.Value.str (S "__module__") 365) (@PySem.Value.str (S "io") 370)), (@PySem.DictEntry.mk (@PySem.PyData.keyHash P (S "__firstlineno__")) (@PySem.Value.str (S "__firstlineno__") 369) (@PySem.Value.int 27 368)), (@PySem.DictEntry.mk (@PySem.PyData.keyHash P (S "__static_attributes__")) (@PySem.Value.str (S "__static_attributes__") 372) (@PySem.Value.ref 96)), (@PySem.DictEntry.mk (@PySem.PyData.keyHash P (S "__doc__")) (@PySem.Value.str (S "__doc__") 373) @PySem.Value.none)]) 2) (@List.toArray (@Option @PySem.Value) []))) ::
(nat_lit 98, (@PySem.Obj.mk (@PySem.Value.type "type") (@Option.none @Nat) (@PySem.Data.cls (@PySem.ClassData.mk (S "BufferedIOBase") [(@PySem.Value.ref 83)] [(@PySem.Value.ref 98), (@PySem.Value.ref 83), (@PySem.Value.type "object")] 97 (S "BufferedIOBase") @Bool.true [] [(@PySem.Value.ref 340)] @Bool.false (@Option.none @Bool) @Bool.false)) (@List.toArray (@Option @PySem.Value) [(@Option.some @PySem.Value (@PySem.Value.ref 89)), (@Option.none @PySem.Value), (@Option.some @PySem.Value (@PySem.Value.str (S "BufferedIOBase") 358)), (@Option.some @PySem.Value (@PySem.Value.str (S "BufferedIOBase") 366)), (@Option.some @PySem.Value @PySem.Value.none), (@Option.some @PySem.Value (@PySem.Value.bool @Bool.true))]))) ::
(nat_lit 109, (@PySem.Obj.mk (@PySem.Value.type "dict") (@Option.none @Nat) (@PySem.Data.dict (@List.toArray @PySem.DictEntry [(@PySem.DictEntry.mk (@PySem.PyData.keyHash P (S "__module__")) (@PySem.Value.str (S "__module__") 383) (@PySem.Value.str (S "io") 388)), (@PySem.DictEntry.mk (@PySem.PyData.keyHash P (S "__firstlineno__")) (@PySem.Value.str (S "__firstlineno__") 387) (@PySem.Value.int 29 386)), (@PySem.DictEntry.mk (@PySem.PyData.keyHash P (S "__static_attributes__")) (@PySem.Value.str (S "__static_attributes__") 390) (@PySem.Value.ref 108)), (@PySem.DictEntry.mk (@PySem.PyData.keyHash P (S "__doc__")) (@PySem.Value.str (S "__doc__") 391) @PySem.Value.none)]) 2) (@List.toArray (@Option @PySem.Value) []))) ::
(nat_lit 110, (@PySem.Obj.mk (@PySem.Value.type "type") (@Option.none @Nat) (@PySem.Data.cls (@PySem.ClassData.mk (S "TextIOBase") [(@PySem.Value.ref 83)] [(@PySem.Value.ref 110), (@PySem.Value.ref 83), (@PySem.Value.type "object")] 109 (S "TextIOBase") @Bool.true [] [(@PySem.Value.ref 587)] @Bool.false (@Option.none @Bool) @Bool.false)) (@List.toArray (@Option @PySem.Value) [(@Option.some @PySem.Value (@PySem.Value.ref 101)), (@Option.none @PySem.Value), (@Option.some @PySem.Value (@PySem.Value.str (S "TextIOBase") 376)), (@Option.some @PySem.Value (@PySem.Value.str (S "TextIOBase") 384)), (@Option.some @PySem.Value @PySem.Value.none), (@Option.some @PySem.Value (@PySem.Value.bool @Bool.true))]))) ::
(nat_lit 339, (@PySem.Obj.mk (@PySem.Value.type "dict") (@Option.none @Nat) (@PySem.Data.dict (@List.toArray @PySem.DictEntry [(@PySem.DictEntry.mk (@PySem.PyData.keyHash P (S "__module__")) (@PySem.Value.str (S "__module__") 401) (@PySem.Value.str (S "_io") 406)), (@PySem.DictEntry.mk (@PySem.PyData.keyHash P (S "__firstlineno__")) (@PySem.Value.str (S "__firstlineno__") 405) (@PySem.Value.int 31 404)), (@PySem.DictEntry.mk (@PySem.PyData.keyHash P (S "__init__")) (@PySem.Value.str (S "__init__") 415) (@PySem.Value.ref 127)), (@PySem.DictEntry.mk (@PySem.PyData.keyHash P (S "_BytesIO__check")) (@PySem.Value.str (S "_BytesIO__check") 422) (@PySem.Value.ref 134)), (@PySem.DictEntry.mk (@PySem.PyData.keyHash P (S "_BytesIO__line")) (@PySem.Value.str (S "_BytesIO__line") 433) (@PySem.Value.ref 141)), (@PySem.DictEntry.mk (@PySem.PyData.keyHash P (S "closed")) (@PySem.Value.str (S "closed") 441) (@PySem.Value.ref 149)), (@PySem.DictEntry.mk (@PySem.PyData.keyHash P (S "close")) (@PySem.Value.str (S "close") 448) (@PySem.Value.ref 156)), (@PySem.DictEntry.mk (@PySem.PyData.keyHash P (S "__enter__")) (@PySem.Value.str (S "__enter__") 455) (@PySem.Value.ref 163)), (@PySem.DictEntry.mk (@PySem.PyData.keyHash P (S "__exit__")) (@PySem.Value.str (S "__exit__") 463) (@PySem.Value.ref 170)), (@PySem.DictEntry.mk (@PySem.PyData.keyHash P (S "readable")) (@PySem.Value.str (S "readable") 470) (@PySem.Value.ref 177)), (@PySem.DictEntry.mk (@PySem.PyData.keyHash P (S "writable")) (@PySem.Value.str (S "writable") 477) (@PySem.Value.ref 184)), (@PySem.DictEntry.mk (@PySem.PyData.keyHash P (S "seekable")) (@PySem.Value.str (S "seekable") 484) (@PySem.Value.ref 191)), (@PySem.DictEntry.mk (@PySem.PyData.keyHash P (S "isatty")) (@PySem.Value.str (S "isatty") 491) (@PySem.Value.ref 198)), (@PySem.DictEntry.mk (@PySem.PyData.keyHash P (S "flush")) (@PySem.Value.str (S "flush") 498) (@PySem.Value.ref 205)), (@PySem.DictEntry.mk (@PySem.PyData.keyHash P (S "fileno")) (@PySem.Value.str (S "fileno") 505) (@PySem.Value.ref 212)), (@PySem.DictEntry.mk (@PySem.PyData.keyHash P (S "detach")) (@PySem.Value.str (S "detach") 512) (@PySem.Value.ref 219)), (@PySem.DictEntry.mk (@PySem.PyData.keyHash P (S "getvalue")) (@PySem.Value.str (S "getvalue") 519) (@PySem.Value.ref 226)), (@PySem.DictEntry.mk (@PySem.PyData.keyHash P (S "getbuffer")) (@PySem.Value.str (S "getbuffer") 526) (@PySem.Value.ref 233)), (@PySem.DictEntry.mk (@PySem.PyData.keyHash P (S "tell")) (@PySem.Value.str (S "tell") 533) (@PySem.Value.ref 240)), (@PySem.DictEntry.mk (@PySem.PyData.keyHash P (S "seek")) (@PySem.Value.str (S "seek") 543) (@PySem.Value.ref 248)), (@PySem.DictEntry.mk (@PySem.PyData.keyHash P (S "truncate")) (@PySem.Value.str (S "truncate") 551) (@PySem.Value.ref 256)), (@PySem.DictEntry.mk (@PySem.PyData.keyHash P (S "read")) (@PySem.Value.str (S "read") 563) (@PySem.Value.ref 264)), (@PySem.DictEntry.mk (@PySem.PyData.keyHash P (S "read1")) (@PySem.Value.str (S "read1") 573) (@PySem.Value.ref 272)), (@PySem.DictEntry.mk (@PySem.PyData.keyHash P (S "readinto")) (@PySem.Value.str (S "readinto") 583) (@PySem.Value.ref 279)), (@PySem.DictEntry.mk (@PySem.PyData.keyHash P (S "readinto1")) (@PySem.Value.str (S "readinto1") 591) (@PySem.Value.ref 286)), (@PySem.DictEntry.mk (@PySem.PyData.keyHash P (S "readline")) (@PySem.Value.str (S "readline") 601) (@PySem.Value.ref 294)), (@PySem.DictEntry.mk (@PySem.PyData.keyHash P (S "readlines")) (@PySem.Value.str (S "readlines") 609) (@PySem.Value.ref 302)), (@PySem.DictEntry.mk (@PySem.PyData.keyHash P (S "__iter__")) (@PySem.Value.str (S "__iter__") 616) (@PySem.Value.ref 309)), (@PySem.DictEntry.mk (@PySem.PyData.keyHash P (S "__next__")) (@PySem.Value.str (S "__next__") 624) (@PySem.Value.ref 316)), (@PySem.DictEntry.mk (@PySem.PyData.keyHash P (S "write")) (@PySem.Value.str (S "write") 634) (@PySem.Value.ref 323)), (@PySem.DictEntry.mk (@PySem.PyData.keyHash P (S "writelines")) (@PySem.Value.str (S "writelines") 642) (@PySem.Value.ref 330)), (@PySem.DictEntry.mk (@PySem.PyData.keyHash P (S "__repr__")) (@PySem.Value.str (S "__repr__") 649) (@PySem.Value.ref 337)), (@PySem.DictEntry.mk (@PySem.PyData.keyHash P (S "__static_attributes__")) (@PySem.Value.str (S "__static_attributes__") 652) (@PySem.Value.ref 338)), (@PySem.DictEntry.mk (@PySem.PyData.keyHash P (S "__doc__")) (@PySem.Value.str (S "__doc__") 653) @PySem.Value.none)]) 2) (@List.toArray (@Option @PySem.Value) []))) ::
(nat_lit 340, (@PySem.Obj.mk (@PySem.Value.type "type") (@Option.none @Nat) (@PySem.Data.cls (@PySem.ClassData.mk (S "BytesIO") [(@PySem.Value.ref 98)] [(@PySem.Value.ref 340), (@PySem.Value.ref 98), (@PySem.Value.ref 83), (@PySem.Value.type "object")] 339 (S "BytesIO") @Bool.true [] [] @Bool.false (@Option.none @Bool) @Bool.false)) (@List.toArray (@Option @PySem.Value) [(@Option.some @PySem.Value (@PySem.Value.ref 113)), (@Option.none @PySem.Value), (@Option.some @PySem.Value (@PySem.Value.str (S "BytesIO") 394)), (@Option.some @PySem.Value (@PySem.Value.str (S "BytesIO") 402)), (@Option.some @PySem.Value @PySem.Value.none), (@Option.some @PySem.Value (@PySem.Value.bool @Bool.true))]))) ::
(nat_lit 350, (@PySem.Obj.mk (@PySem.Value.type "tuple") (@Option.none @Nat) (@PySem.Data.seq (@List.toArray @PySem.Value [(@PySem.Value.str (S "") 670), (@PySem.Value.str (S "\n") 671)]) 0) (@List.toArray (@Option @PySem.Value) []))) ::
(nat_lit 351, (@PySem.Obj.mk (@PySem.Value.type "tuple") (@Option.none @Nat) (@PySem.Data.seq (@List.toArray @PySem.Value []) 0) (@List.toArray (@Option @PySem.Value) []))) ::
(nat_lit 353, (@PySem.Obj.mk (@PySem.Value.type "tuple") (@Option.none @Nat) (@PySem.Data.seq (@List.toArray @PySem.Value [(@PySem.Value.str (S "self") 675), (@PySem.Value.str (S "initial_value") 676), (@PySem.Value.str (S "newline") 677)]) 0) (@List.toArray (@Option @PySem.Value) []))) ::
(nat_lit 354, (@PySem.Obj.mk (@PySem.Value.type "tuple") (@Option.none @Nat) (@PySem.Data.seq (@List.toArray @PySem.Value []) 0) (@List.toArray (@Option @PySem.Value) []))) ::
(nat_lit 356, (@PySem.Obj.mk (@PySem.Value.type "code") (@Option.none @Nat) (@PySem.Data.fields (@List.toArray @PySem.Value [(@PySem.Value.str (S "__init__") 672), (@PySem.Value.str (S "StringIO.__init__") 673), (@PySem.Value.str (S "/claim/cut.py") 674), (@PySem.Value.int 204 0), (@PySem.Value.int 3 0), (@PySem.Value.int 0 0), (@PySem.Value.int 0 0), (@PySem.Value.int 3 0), (@PySem.Value.ref 351), (@PySem.Value.bool @Bool.true), (@PySem.Value.int 273 0), (@PySem.Value.ref 352), @PySem.Value.none, (@PySem.Value.ref 353), (@PySem.Value.ref 354), (@PySem.Value.ref 355), (@PySem.Value.int 678 0), (@PySem.Value.int 204 0), (@PySem.Value.str (S "/claim/cut.py") 679)])) (@List.toArray (@Option @PySem.Value) []))) ::
(nat_lit 357, (@Obj.mk (@PySem.Value.type "function") (@Option.none @Nat) (Data.func (@FuncData.mk (S "__init__") (S "StringIO.__init__") (prmOf (stB 10 1)) (FuncBody.stmts (bodOf (stB 10 1))) (scpOf (stB 10 1)) 3 [] (@PySem.Value.ref 350) @PySem.Value.none @PySem.Value.none (@PySem.Value.str (S "io") 286) (@Option.none @Nat) (@PySem.Value.ref 356) @PySem.Value.none 0)) (@List.toArray (@Option @PySem.Value) []))) ::
(nat_lit 358, (@PySem.Obj.mk (@PySem.Value.type "tuple") (@Option.none @Nat) (@PySem.Data.seq (@List.toArray @PySem.Value []) 0) (@List.toArray (@Option @PySem.Value) []))) ::
(nat_lit 360, (@PySem.Obj.mk (@PySem.Value.type "tuple") (@Option.none @Nat) (@PySem.Data.seq (@List.toArray @PySem.Value [(@PySem.Value.str (S "self") 684), (@PySem.Value.str (S "s") 685), (@PySem.Value.str (S "newline") 686)]) 0) (@List.toArray (@Option @PySem.Value) []))) ::
(nat_lit 361, (@PySem.Obj.mk (@PySem.Value.type "tuple") (@Option.none @Nat) (@PySem.Data.seq (@List.toArray @PySem.Value []) 0) (@List.toArray (@Option @PySem.Value) []))) ::
(nat_lit 363, (@PySem.Obj.mk (@PySem.Value.type "code") (@Option.none @Nat) (@PySem.Data.fields (@List.toArray @PySem.Value [(@PySem.Value.str (S "__translated") 681), (@PySem.Value.str (S "StringIO.__translated") 682), (@PySem.Value.str (S "/claim/cut.py") 683), (@PySem.Value.int 217 0), (@PySem.Value.int 2 0), (@PySem.Value.int 0 0), (@PySem.Value.int 0 0), (@PySem.Value.int 3 0), (@PySem.Value.ref 358), (@PySem.Value.bool @Bool.true), (@PySem.Value.int 273 0), (@PySem.Value.ref 359), @PySem.Value.none, (@PySem.Value.ref 360), (@PySem.Value.ref 361), (@PySem.Value.ref 362), (@PySem.Value.int 687 0), (@PySem.Value.int 217 0), (@PySem.Value.str (S "/claim/cut.py") 688)])) (@List.toArray (@Option @PySem.Value) []))) ::
(nat_lit 364, (@Obj.mk (@PySem.Value.type "function") (@Option.none @Nat) (Data.func (@FuncData.mk (S "__translated") (S "StringIO.__translated") (prmOf (stB 10 2)) (FuncBody.stmts (bodOf (stB 10 2))) (scpOf (stB 10 2)) 3 [] @PySem.Value.none @PySem.Value.none @PySem.Value.none (@PySem.Value.str (S "io") 286) (@Option.none @Nat) (@PySem.Value.ref 363) @PySem.Value.none 0)) (@List.toArray (@Option @PySem.Value) []))) ::
(nat_lit 365, (@PySem.Obj.mk (@PySem.Value.type "tuple") (@Option.none @Nat) (@PySem.Data.seq (@List.toArray @PySem.Value []) 0) (@List.toArray (@Option @PySem.Value) []))) ::
(nat_lit 367, (@PySem.Obj.mk (@PySem.Value.type "tuple") (@Option.none @Nat) (@PySem.Data.seq (@List.toArray @PySem.Value [(@PySem.Value.str (S "self") 693)]) 0) (@List.toArray (@Option @PySem.Value) []))) ::
(nat_lit 368, (@PySem.Obj.mk (@PySem.Value.type "tuple") (@Option.none @Nat) (@PySem.Data.seq (@List.toArray @PySem.Value []) 0) (@List.toArray (@Option @PySem.Value) []))) ::
(nat_lit 370, (@PySem.Obj.mk (@PySem.Value.type "code") (@Option.none @Nat) (@PySem.Data.fields (@List.toArray @PySem.Value [(@PySem.Value.str (S "__check") 690), (@PySem.Value.str (S "StringIO.__check") 691), (@PySem.Value.str (S "/claim/cut.py") 692), (@PySem.Value.int 225 0), (@PySem.Value.int 1 0), (@PySem.Value.int 0 0), (@PySem.Value.int 0 0), (@PySem.Value.int 3 0), (@PySem.Value.ref 365), (@PySem.Value.bool @Bool.true), (@PySem.Value.int 273 0), (@PySem.Value.ref 366), @PySem.Value.none, (@PySem.Value.ref 367), (@PySem.Value.ref 368), (@PySem.Value.ref 369), (@PySem.Value.int 694 0), (@PySem.Value.int 225 0), (@PySem.Value.str (S "/claim/cut.py") 695)])) (@List.toArray (@Option @PySem.Value) []))) ::
(nat_lit 371, (@Obj.mk (@PySem.Value.type "function") (@Option.none @Nat) (Data.func (@FuncData.mk (S "__check") (S "StringIO.__check") (prmOf (stB 10 3)) (FuncBody.stmts (bodOf (stB 10 3))) (scpOf (stB 10 3)) 3 [] @PySem.Value.none @PySem.Value.none @PySem.Value.none (@PySem.Value.str (S "io") 286) (@Option.none @Nat) (@PySem.Value.ref 370) @PySem.Value.none 0)) (@List.toArray (@Option @PySem.Value) []))) ::
(nat_lit 526, (@PySem.Obj.mk (@PySem.Value.type "tuple") (@Option.none @Nat) (@PySem.Data.seq (@List.toArray @PySem.Value [(@PySem.Value.int (@Neg.neg @Int @Int.instNegInt 1) 863)]) 0) (@List.toArray (@Option @PySem.Value) []))) ::
(nat_lit 527, (@PySem.Obj.mk (@PySem.Value.type "tuple") (@Option.none @Nat) (@PySem.Data.seq (@List.toArray @PySem.Value []) 0) (@List.toArray (@Option @PySem.Value) []))) ::
(nat_lit 529, (@PySem.Obj.mk (@PySem.Value.type "tuple") (@Option.none @Nat) (@PySem.Data.seq (@List.toArray @PySem.Value [(@PySem.Value.str (S "self") 867), (@PySem.Value.str (S "size") 868), (@PySem.Value.str (S "start") 869), (@PySem.Value.str (S "stop") 870)]) 0) (@List.toArray (@Option @PySem.Value) []))) ::
(nat_lit 530, (@PySem.Obj.mk (@PySem.Value.type "tuple") (@Option.none @Nat) (@PySem.Data.seq (@List.toArray @PySem.Value []) 0) (@List.toArray (@Option @PySem.Value) []))) ::
(nat_lit 532, (@PySem.Obj.mk (@PySem.Value.type "code") (@Option.none @Nat) (@PySem.Data.fields (@List.toArray @PySem.Value [(@PySem.Value.str (S "read") 864), (@PySem.Value.str (S "StringIO.read") 865), (@PySem.Value.str (S "/claim/cut.py") 866), (@PySem.Value.int 347 0), (@PySem.Value.int 2 0), (@PySem.Value.int 2 0), (@PySem.Value.int 0 0), (@PySem.Value.int 3 0), (@PySem.Value.ref 527), (@PySem.Value.bool @Bool.true), (@PySem.Value.int 273 0), (@PySem.Value.ref 528), @PySem.Value.none, (@PySem.Value.ref 529), (@PySem.Value.ref 530), (@PySem.Value.ref 531), (@PySem.Value.int 871 0), (@PySem.Value.int 347 0), (@PySem.Value.str (S "/claim/cut.py") 872)])) (@List.toArray (@Option @PySem.Value) []))) ::
(nat_lit 533, (@Obj.mk (@PySem.Value.type "function") (@Option.none @Nat) (Data.func (@FuncData.mk (S "read") (S "StringIO.read") (prmOf (stB 10 25)) (FuncBody.stmts (bodOf (stB 10 25))) (scpOf (stB 10 25)) 3 [] (@PySem.Value.ref 526) @PySem.Value.none @PySem.Value.none (@PySem.Value.str (S "io") 286) (@Option.none @Nat) (@PySem.Value.ref 532) @PySem.Value.none 0)) (@List.toArray (@Option @PySem.Value) []))) ::
(nat_lit 586, (@PySem.Obj.mk (@PySem.Value.type "dict") (@Option.none @Nat) (@PySem.Data.dict (@List.toArray @PySem.DictEntry [(@PySem.DictEntry.mk (@PySem.PyData.keyHash P (S "__module__")) (@PySem.Value.str (S "__module__") 663) (@PySem.Value.str (S "_io") 668)), (@PySem.DictEntry.mk (@PySem.PyData.keyHash P (S "__firstlineno__")) (@PySem.Value.str (S "__firstlineno__") 667) (@PySem.Value.int 201 666)), (@PySem.DictEntry.mk (@PySem.PyData.keyHash P (S "__init__")) (@PySem.Value.str (S "__init__") 680) (@PySem.Value.ref 357)), (@PySem.DictEntry.mk (@PySem.PyData.keyHash P (S "_StringIO__translated")) (@PySem.Value.str (S "_StringIO__translated") 689) (@PySem.Value.ref 364)), (@PySem.DictEntry.mk (@PySem.PyData.keyHash P (S "_StringIO__check")) (@PySem.Value.str (S "_StringIO__check") 696) (@PySem.Value.ref 371)), (@PySem.DictEntry.mk (@PySem.PyData.keyHash P (S "_StringIO__check_dot")) (@PySem.Value.str (S "_StringIO__check_dot") 703) (@PySem.Value.ref 378)), (@PySem.DictEntry.mk (@PySem.PyData.keyHash P (S "_StringIO__line")) (@PySem.Value.str (S "_StringIO__line") 718) (@PySem.Value.ref 385)), (@PySem.DictEntry.mk (@PySem.PyData.keyHash P (S "closed")) (@PySem.Value.str (S "closed") 726) (@PySem.Value.ref 393)), (@PySem.DictEntry.mk (@PySem.PyData.keyHash P (S "line_buffering")) (@PySem.Value.str (S "line_buffering") 734) (@PySem.Value.ref 401)), (@PySem.DictEntry.mk (@PySem.PyData.keyHash P (S "newlines")) (@PySem.Value.str (S "newlines") 742) (@PySem.Value.ref 409)), (@PySem.DictEntry.mk (@PySem.PyData.keyHash P (S "encoding")) (@PySem.Value.str (S "encoding") 750) (@PySem.Value.ref 417)), (@PySem.DictEntry.mk (@PySem.PyData.keyHash P (S "errors")) (@PySem.Value.str (S "errors") 758) (@PySem.Value.ref 425)), (@PySem.DictEntry.mk (@PySem.PyData.keyHash P (S "close")) (@PySem.Value.str (S "close") 765) (@PySem.Value.ref 432)), (@PySem.DictEntry.mk (@PySem.PyData.keyHash P (S "__enter__")) (@PySem.Value.str (S "__enter__") 772) (@PySem.Value.ref 439)), (@PySem.DictEntry.mk (@PySem.PyData.keyHash P (S "__exit__")) (@PySem.Value.str (S "__exit__") 780) (@PySem.Value.ref 446)), (@PySem.DictEntry.mk (@PySem.PyData.keyHash P (S "readable")) (@PySem.Value.str (S "readable") 787) (@PySem.Value.ref 453)), (@PySem.DictEntry.mk (@PySem.PyData.keyHash P (S "writable")) (@PySem.Value.str (S "writable") 794) (@PySem.Value.ref 460)), (@PySem.DictEntry.mk (@PySem.PyData.keyHash P (S "seekable")) (@PySem.Value.str (S "seekable") 801) (@PySem.Value.ref 467)), (@PySem.DictEntry.mk (@PySem.PyData.keyHash P (S "isatty")) (@PySem.Value.str (S "isatty") 808) (@PySem.Value.ref 474)), (@PySem.DictEntry.mk (@PySem.PyData.keyHash P (S "flush")) (@PySem.Value.str (S "flush") 815) (@PySem.Value.ref 481)), (@PySem.DictEntry.mk (@PySem.PyData.keyHash P (S "fileno")) (@PySem.Value.str (S "fileno") 822) (@PySem.Value.ref 488)), (@PySem.DictEntry.mk (@PySem.PyData.keyHash P (S "detach")) (@PySem.Value.str (S "detach") 829) (@PySem.Value.ref 495)), (@PySem.DictEntry.mk (@PySem.PyData.keyHash P (S "getvalue")) (@PySem.Value.str (S "getvalue") 836) (@PySem.Value.ref 502)), (@PySem.DictEntry.mk (@PySem.PyData.keyHash P (S "tell")) (@PySem.Value.str (S "tell") 843) (@PySem.Value.ref 509)), (@PySem.DictEntry.mk (@PySem.PyData.keyHash P (S "seek")) (@PySem.Value.str (S "seek") 853) (@PySem.Value.ref 517)), (@PySem.DictEntry.mk (@PySem.PyData.keyHash P (S "truncate")) (@PySem.Value.str (S "truncate") 861) (@PySem.Value.ref 525)), (@PySem.DictEntry.mk (@PySem.PyData.keyHash P (S "read")) (@PySem.Value.str (S "read") 873) (@PySem.Value.ref 533)), (@PySem.DictEntry.mk (@PySem.PyData.keyHash P (S "readline")) (@PySem.Value.str (S "readline") 883) (@PySem.Value.ref 541)), (@PySem.DictEntry.mk (@PySem.PyData.keyHash P (S "readlines")) (@PySem.Value.str (S "readlines") 893) (@PySem.Value.ref 549)), (@PySem.DictEntry.mk (@PySem.PyData.keyHash P (S "__iter__")) (@PySem.Value.str (S "__iter__") 900) (@PySem.Value.ref 556)), (@PySem.DictEntry.mk (@PySem.PyData.keyHash P (S "__next__")) (@PySem.Value.str (S "__next__") 908) (@PySem.Value.ref 563)), (@PySem.DictEntry.mk (@PySem.PyData.keyHash P (S "write")) (@PySem.Value.str (S "write") 920) (@PySem.Value.ref 570)), (@PySem.DictEntry.mk (@PySem.PyData.keyHash P (S "writelines")) (@PySem.Value.str (S "writelines") 928) (@PySem.Value.ref 577)), (@PySem.DictEntry.mk (@PySem.PyData.keyHash P (S "__repr__")) (@PySem.Value.str (S "__repr__") 935) (@PySem.Value.ref 584)), (@PySem.DictEntry.mk (@PySem.PyData.keyHash P (S "__static_attributes__")) (@PySem.Value.str (S "__static_attributes__") 939) (@PySem.Value.ref 585)), (@PySem.DictEntry.mk (@PySem.PyData.keyHash P (S "__doc__")) (@PySem.Value.str (S "__doc__") 940) @PySem.Value.none)]) 2) (@List.toArray (@Option @PySem.Value) []))) ::
(nat_lit 587, (@PySem.Obj.mk (@PySem.Value.type "type") (@Option.none @Nat) (@PySem.Data.cls (@PySem.ClassData.mk (S "StringIO") [(@PySem.Value.ref 110)] [(@PySem.Value.ref 587), (@PySem.Value.ref 110), (@PySem.Value.ref 83), (@PySem.Value.type "object")] 586 (S "StringIO") @Bool.true [] [] @Bool.false (@Option.none @Bool) @Bool.false)) (@List.toArray (@Option @PySem.Value) [(@Option.some @PySem.Value (@PySem.Value.ref 343)), (@Option.none @PySem.Value), (@Option.some @PySem.Value (@PySem.Value.str (S "StringIO") 656)), (@Option.some @PySem.Value (@PySem.Value.str (S "StringIO") 664)), (@Option.some @PySem.Value @PySem.Value.none), (@Option.some @PySem.Value (@PySem.Value.bool @Bool.true))]))) ::
(nat_lit 590, (@PySem.Obj.mk (@PySem.Value.type "tuple") (@Option.none @Nat) (@PySem.Data.seq (@List.toArray @PySem.Value []) 0) (@List.toArray (@Option @PySem.Value) []))) ::
(nat_lit 592, (@PySem.Obj.mk (@PySem.Value.type "tuple") (@Option.none @Nat) (@PySem.Data.seq (@List.toArray @PySem.Value [(@PySem.Value.str (S "name") 948), (@PySem.Value.str (S "x") 949), (@PySem.Value.str (S "t") 950)]) 0) (@List.toArray (@Option @PySem.Value) []))) ::
(nat_lit 593, (@PySem.Obj.mk (@PySem.Value.type "tuple") (@Option.none @Nat) (@PySem.Data.seq (@List.toArray @PySem.Value []) 0) (@List.toArray (@Option @PySem.Value) []))) ::
(nat_lit 595, (@PySem.Obj.mk (@PySem.Value.type "code") (@Option.none @Nat) (@PySem.Data.fields (@List.toArray @PySem.Value [(@PySem.Value.str (S "_kind") 945), (@PySem.Value.str (S "_kind") 946), (@PySem.Value.str (S "/claim/cut.py") 947), (@PySem.Value.int 407 0), (@PySem.Value.int 2 0), (@PySem.Value.int 0 0), (@PySem.Value.int 0 0), (@PySem.Value.int 3 0), (@PySem.Value.ref 590), (@PySem.Value.bool @Bool.true), (@PySem.Value.int 273 0), (@PySem.Value.ref 591), @PySem.Value.none, (@PySem.Value.ref 592), (@PySem.Value.ref 593), (@PySem.Value.ref 594), (@PySem.Value.int 951 0), (@PySem.Value.int 407 0), (@PySem.Value.str (S "/claim/cut.py") 952)])) (@List.toArray (@Option @PySem.Value) []))) ::
(nat_lit 596, (@Obj.mk (@PySem.Value.type "function") (@Option.none @Nat) (Data.func (@FuncData.mk (S "_kind") (S "_kind") (prmOf (stA 12)) (FuncBody.stmts (bodOf (stA 12))) (scpOf (stA 12)) 3 [] @PySem.Value.none @PySem.Value.none @PySem.Value.none (@PySem.Value.str (S "os.path") 943) (@Option.none @Nat) (@PySem.Value.ref 595) @PySem.Value.none 0)) (@List.toArray (@Option @PySem.Value) []))) ::
(nat_lit 597, (@PySem.Obj.mk (@PySem.Value.type "tuple") (@Option.none @Nat) (@PySem.Data.seq (@List.toArray @PySem.Value []) 0) (@List.toArray (@Option @PySem.Value) []))) ::
(nat_lit 599, (@PySem.Obj.mk (@PySem.Value.type "tuple") (@Option.none @Nat) (@PySem.Data.seq (@List.toArray @PySem.Value [(@PySem.Value.str (S "name") 957), (@PySem.Value.str (S "x") 958), (@PySem.Value.str (S "k") 959)]) 0) (@List.toArray (@Option @PySem.Value) []))) ::
(nat_lit 600, (@PySem.Obj.mk (@PySem.Value.type "tuple") (@Option.none @Nat) (@PySem.Data.seq (@List.toArray @PySem.Value []) 0) (@List.toArray (@Option @PySem.Value) []))) ::
(nat_lit 602, (@PySem.Obj.mk (@PySem.Value.type "code") (@Option.none @Nat) (@PySem.Data.fields (@List.toArray @PySem.Value [(@PySem.Value.str (S "_fspath") 954), (@PySem.Value.str (S "_fspath") 955), (@PySem.Value.str (S "/claim/cut.py") 956), (@PySem.Value.int 428 0), (@PySem.Value.int 2 0), (@PySem.Value.int 0 0), (@PySem.Value.int 0 0), (@PySem.Value.int 3 0), (@PySem.Value.ref 597), (@PySem.Value.bool @Bool.true), (@PySem.Value.int 273 0), (@PySem.Value.ref 598), @PySem.Value.none, (@PySem.Value.ref 599), (@PySem.Value.ref 600), (@PySem.Value.ref 601), (@PySem.Value.int 960 0), (@PySem.Value.int 428 0), (@PySem.Value.str (S "/claim/cut.py") 961)])) (@List.toArray (@Option @PySem.Value) []))) ::
(nat_lit 603, (@Obj.mk (@PySem.Value.type "function") (@Option.none @Nat) (Data.func (@FuncData.mk (S "_fspath") (S "_fspath") (prmOf (stA 13)) (FuncBody.stmts (bodOf (stA 13))) (scpOf (stA 13)) 3 [] @PySem.Value.none @PySem.Value.none @PySem.Value.none (@PySem.Value.str (S "os.path") 943) (@Option.none @Nat) (@PySem.Value.ref 602) @PySem.Value.none 0)) (@List.toArray (@Option @PySem.Value) []))) ::
(nat_lit 604, (@PySem.Obj.mk (@PySem.Value.type "tuple") (@Option.none @Nat) (@PySem.Data.seq (@List.toArray @PySem.Value []) 0) (@List.toArray (@Option @PySem.Value) []))) ::
(nat_lit 606, (@PySem.Obj.mk (@PySem.Value.type "tuple") (@Option.none @Nat) (@PySem.Data.seq (@List.toArray @PySem.Value [(@PySem.Value.str (S "funcname") 966), (@PySem.Value.str (S "args") 967), (@PySem.Value.str (S "s") 968), (@PySem.Value.str (S "k") 969)]) 0) (@List.toArray (@Option @PySem.Value) []))) ::
(nat_lit 607, (@PySem.Obj.mk (@PySem.Value.type "tuple") (@Option.none @Nat) (@PySem.Data.seq (@List.toArray @PySem.Value []) 0) (@List.toArray (@Option @PySem.Value) []))) ::
(nat_lit 609, (@PySem.Obj.mk (@PySem.Value.type "code") (@Option.none @Nat) (@PySem.Data.fields (@List.toArray @PySem.Value [(@PySem.Value.str (S "_check_arg_types") 963), (@PySem.Value.str (S "_check_arg_types") 964), (@PySem.Value.str (S "/claim/cut.py") 965), (@PySem.Value.int 433 0), (@PySem.Value.int 1 0), (@PySem.Value.int 0 0), (@PySem.Value.int 0 0), (@PySem.Value.int 7 0), (@PySem.Value.ref 604), (@PySem.Value.bool @Bool.true), (@PySem.Value.int 273 0), (@PySem.Value.ref 605), @PySem.Value.none, (@PySem.Value.ref 606), (@PySem.Value.ref 607), (@PySem.Value.ref 608), (@PySem.Value.int 970 0), (@PySem.Value.int 433 0), (@PySem.Value.str (S "/claim/cut.py") 971)])) (@List.toArray (@Option @PySem.Value) []))) ::
(nat_lit 610, (@Obj.mk (@PySem.Value.type "function") (@Option.none @Nat) (Data.func (@FuncData.mk (S "_check_arg_types") (S "_check_arg_types") (prmOf (stA 14)) (FuncBody.stmts (bodOf (stA 14))) (scpOf (stA 14)) 3 [] @PySem.Value.none @PySem.Value.none @PySem.Value.none (@PySem.Value.str (S "os.path") 943) (@Option.none @Nat) (@PySem.Value.ref 609) @PySem.Value.none 0)) (@List.toArray (@Option @PySem.Value) []))) ::
(nat_lit 611, (@PySem.Obj.mk (@PySem.Value.type "tuple") (@Option.none @Nat) (@PySem.Data.seq (@List.toArray @PySem.Value []) 0) (@List.toArray (@Option @PySem.Value) []))) ::
(nat_lit 613, (@PySem.Obj.mk (@PySem.Value.type "tuple") (@Option.none @Nat) (@PySem.Data.seq (@List.toArray @PySem.Value [(@PySem.Value.str (S "s") 976)]) 0) (@List.toArray (@Option @PySem.Value) []))) ::
(nat_lit 614, (@PySem.Obj.mk (@PySem.Value.type "tuple") (@Option.none @Nat) (@PySem.Data.seq (@List.toArray @PySem.Value []) 0) (@List.toArray (@Option @PySem.Value) []))) ::
(nat_lit 616, (@PySem.Obj.mk (@PySem.Value.type "code") (@Option.none @Nat) (@PySem.Data.fields (@List.toArray @PySem.Value [(@PySem.Value.str (S "isabs") 973), (@PySem.Value.str (S "isabs") 974), (@PySem.Value.str (S "/claim/cut.py") 975), (@PySem.Value.int 438 0), (@PySem.Value.int 1 0), (@PySem.Value.int 0 0), (@PySem.Value.int 0 0), (@PySem.Value.int 3 0), (@PySem.Value.ref 611), (@PySem.Value.bool @Bool.true), (@PySem.Value.int 273 0), (@PySem.Value.ref 612), @PySem.Value.none, (@PySem.Value.ref 613), (@PySem.Value.ref 614), (@PySem.Value.ref 615), (@PySem.Value.int 977 0), (@PySem.Value.int 438 0), (@PySem.Value.str (S "/claim/cut.py") 978)])) (@List.toArray (@Option @PySem.Value) []))) ::
(nat_lit 617, (@Obj.mk (@PySem.Value.type "function") (@Option.none @Nat) (Data.func (@FuncData.mk (S "isabs") (S "isabs") (prmOf (stA 15)) (FuncBody.stmts (bodOf (stA 15))) (scpOf (stA 15)) 3 [] @PySem.Value.none @PySem.Value.none @PySem.Value.none (@PySem.Value.str (S "os.path") 943) (@Option.none @Nat) (@PySem.Value.ref 616) @PySem.Value.none 0)) (@List.toArray (@Option @PySem.Value) []))) ::
(nat_lit 618, (@PySem.Obj.mk (@PySem.Value.type "tuple") (@Option.none @Nat) (@PySem.Data.seq (@List.toArray @PySem.Value []) 0) (@List.toArray (@Option @PySem.Value) []))) ::
(nat_lit 620, (@PySem.Obj.mk (@PySem.Value.type "tuple") (@Option.none @Nat) (@PySem.Data.seq (@List.toArray @PySem.Value [(@PySem.Value.str (S "a") 983), (@PySem.Value.str (S "p") 984), (@PySem.Value.str (S "b") 985), (@PySem.Value.str (S "sep") 986), (@PySem.Value.str (S "path") 987)]) 0) (@List.toArray (@Option @PySem.Value) []))) ::
(nat_lit 621, (@PySem.Obj.mk (@PySem.Value.type "tuple") (@Option.none @Nat) (@PySem.Data.seq (@List.toArray @PySem.Value []) 0) (@List.toArray (@Option @PySem.Value) []))) ::
(nat_lit 623, (@PySem.Obj.mk (@PySem.Value.type "code") (@Option.none @Nat) (@PySem.Data.fields (@List.toArray @PySem.Value [(@PySem.Value.str (S "join") 980), (@PySem.Value.str (S "join") 981), (@PySem.Value.str (S "/claim/cut.py") 982), (@PySem.Value.int 441 0), (@PySem.Value.int 1 0), (@PySem.Value.int 0 0), (@PySem.Value.int 0 0), (@PySem.Value.int 7 0), (@PySem.Value.ref 618), (@PySem.Value.bool @Bool.true), (@PySem.Value.int 273 0), (@PySem.Value.ref 619), @PySem.Value.none, (@PySem.Value.ref 620), (@PySem.Value.ref 621), (@PySem.Value.ref 622), (@PySem.Value.int 988 0), (@PySem.Value.int 441 0), (@PySem.Value.str (S "/claim/cut.py") 989)])) (@List.toArray (@Option @PySem.Value) []))) ::
(nat_lit 624, (@Obj.mk (@PySem.Value.type "function") (@Option.none @Nat) (Data.func (@FuncData.mk (S "join") (S "join") (prmOf (stA 16)) (FuncBody.stmts (bodOf (stA 16))) (scpOf (stA 16)) 3 [] @PySem.Value.none @PySem.Value.none @PySem.Value.none (@PySem.Value.str (S "os.path") 943) (@Option.none @Nat) (@PySem.Value.ref 623) @PySem.Value.none 0)) (@List.toArray (@Option @PySem.Value) []))) ::
(nat_lit 625, (@PySem.Obj.mk (@PySem.Value.type "tuple") (@Option.none @Nat) (@PySem.Data.seq (@List.toArray @PySem.Value []) 0) (@List.toArray (@Option @PySem.Value) []))) ::
(nat_lit 627, (@PySem.Obj.mk (@PySem.Value.type "tuple") (@Option.none @Nat) (@PySem.Data.seq (@List.toArray @PySem.Value [(@PySem.Value.str (S "p") 994), (@PySem.Value.str (S "sep") 995), (@PySem.Value.str (S "i") 996), (@PySem.Value.str (S "head") 997)]) 0) (@List.toArray (@Option @PySem.Value) []))) ::
(nat_lit 628, (@PySem.Obj.mk (@PySem.Value.type "tuple") (@Option.none @Nat) (@PySem.Data.seq (@List.toArray @PySem.Value []) 0) (@List.toArray (@Option @PySem.Value) []))) ::
(nat_lit 630, (@PySem.Obj.mk (@PySem.Value.type "code") (@Option.none @Nat) (@PySem.Data.fields (@List.toArray @PySem.Value [(@PySem.Value.str (S "dirname") 991), (@PySem.Value.str (S "dirname") 992), (@PySem.Value.str (S "/claim/cut.py") 993), (@PySem.Value.int 461 0), (@PySem.Value.int 1 0), (@PySem.Value.int 0 0), (@PySem.Value.int 0 0), (@PySem.Value.int 3 0), (@PySem.Value.ref 625), (@PySem.Value.bool @Bool.true), (@PySem.Value.int 273 0), (@PySem.Value.ref 626), @PySem.Value.none, (@PySem.Value.ref 627), (@PySem.Value.ref 628), (@PySem.Value.ref 629), (@PySem.Value.int 998 0), (@PySem.Value.int 461 0), (@PySem.Value.str (S "/claim/cut.py") 999)])) (@List.toArray (@Option @PySem.Value) []))) ::
(nat_lit 631, (@Obj.mk (@PySem.Value.type "function") (@Option.none @Nat) (Data.func (@FuncData.mk (S "dirname") (S "dirname") (prmOf (stA 17)) (FuncBody.stmts (bodOf (stA 17))) (scpOf (stA 17)) 3 [] @PySem.Value.none @PySem.Value.none @PySem.Value.none (@PySem.Value.str (S "os.path") 943) (@Option.none @Nat) (@PySem.Value.ref 630) @PySem.Value.none 0)) (@List.toArray (@Option @PySem.Value) []))) ::
(nat_lit 639, (@PySem.Obj.mk (@PySem.Value.type "tuple") (@Option.none @Nat) (@PySem.Data.seq (@List.toArray @PySem.Value [@PySem.Value.none, @PySem.Value.none, (@PySem.Value.bool @Bool.false), (@PySem.Value.bool @Bool.false)]) 0) (@List.toArray (@Option @PySem.Value) []))) ::
(nat_lit 640, (@PySem.Obj.mk (@PySem.Value.type "tuple") (@Option.none @Nat) (@PySem.Data.seq (@List.toArray @PySem.Value []) 0) (@List.toArray (@Option @PySem.Value) []))) ::
(nat_lit 642, (@PySem.Obj.mk (@PySem.Value.type "tuple") (@Option.none @Nat) (@PySem.Data.seq (@List.toArray @PySem.Value [(@PySem.Value.str (S "self") 1018), (@PySem.Value.str (S "instream") 1019), (@PySem.Value.str (S "infile") 1020), (@PySem.Value.str (S "posix") 1021), (@PySem.Value.str (S "punctuation_chars") 1022), (@PySem.Value.str (S "t") 1023)]) 0) (@List.toArray (@Option @PySem.Value) []))) ::
(nat_lit 643, (@PySem.Obj.mk (@PySem.Value.type "tuple") (@Option.none @Nat) (@PySem.Data.seq (@List.toArray @PySem.Value []) 0) (@List.toArray (@Option @PySem.Value) []))) ::
(nat_lit 645, (@PySem.Obj.mk (@PySem.Value.type "code") (@Option.none @Nat) (@PySem.Data.fields (@List.toArray @PySem.Value [(@PySem.Value.str (S "__init__") 1015), (@PySem.Value.str (S "shlex.__init__") 1016), (@PySem.Value.str (S "/claim/cut.py") 1017), (@PySem.Value.int 472 0), (@PySem.Value.int 5 0), (@PySem.Value.int 0 0), (@PySem.Value.int 0 0), (@PySem.Value.int 3 0), (@PySem.Value.ref 640), (@PySem.Value.bool @Bool.true), (@PySem.Value.int 273 0), (@PySem.Value.ref 641), @PySem.Value.none, (@PySem.Value.ref 642), (@PySem.Value.ref 643), (@PySem.Value.ref 644), (@PySem.Value.int 1024 0), (@PySem.Value.int 472 0), (@PySem.Value.str (S "/claim/cut.py") 1025)])) (@List.toArray (@Option @PySem.Value) []))) ::
(nat_lit 646, (@Obj.mk (@PySem.Value.type "function") (@Option.none @Nat) (Data.func (@FuncData.mk (S "__init__") (S "shlex.__init__") (prmOf (stB 19 0)) (FuncBody.stmts (bodOf (stB 19 0))) (scpOf (stB 19 0)) 3 [] (@PySem.Value.ref 639) @PySem.Value.none @PySem.Value.none (@PySem.Value.str (S "cpy313.shlex") 1001) (@Option.none @Nat) (@PySem.Value.ref 645) @PySem.Value.none 0)) (@List.toArray (@Option @PySem.Value) []))) ::
(nat_lit 647, (@PySem.Obj.mk (@PySem.Value.type "tuple") (@Option.none @Nat) (@PySem.Data.seq (@List.toArray @PySem.Value []) 0) (@List.toArray (@Option @PySem.Value) []))) ::
(nat_lit 649, (@PySem.Obj.mk (@PySem.Value.type "tuple") (@Option.none @Nat) (@PySem.Data.seq (@List.toArray @PySem.Value [(@PySem.Value.str (S "self") 1030)]) 0) (@List.toArray (@Option @PySem.Value) []))) ::
(nat_lit 650, (@PySem.Obj.mk (@PySem.Value.type "tuple") (@Option.none @Nat) (@PySem.Data.seq (@List.toArray @PySem.Value []) 0) (@List.toArray (@Option @PySem.Value) []))) ::
(nat_lit 652, (@PySem.Obj.mk (@PySem.Value.type "code") (@Option.none @Nat) (@PySem.Data.fields (@List.toArray @PySem.Value [(@PySem.Value.str (S "punctuation_chars") 1027), (@PySem.Value.str (S "shlex.punctuation_chars") 1028), (@PySem.Value.str (S "/claim/cut.py") 1029), (@PySem.Value.int 513 0), (@PySem.Value.int 1 0), (@PySem.Value.int 0 0), (@PySem.Value.int 0 0), (@PySem.Value.int 3 0), (@PySem.Value.ref 647), (@PySem.Value.bool @Bool.true), (@PySem.Value.int 273 0), (@PySem.Value.ref 648), @PySem.Value.none, (@PySem.Value.ref 649), (@PySem.Value.ref 650), (@PySem.Value.ref 651), (@PySem.Value.int 1031 0), (@PySem.Value.int 513 0), (@PySem.Value.str (S "/claim/cut.py") 1032)])) (@List.toArray (@Option @PySem.Value) []))) ::
(nat_lit 653, (@Obj.mk (@PySem.Value.type "function") (@Option.none @Nat) (Data.func (@FuncData.mk (S "punctuation_chars") (S "shlex.punctuation_chars") (prmOf (stB 19 1)) (FuncBody.stmts (bodOf (stB 19 1))) (scpOf (stB 19 1)) 3 [] @PySem.Value.none @PySem.Value.none @PySem.Value.none (@PySem.Value.str (S "cpy313.shlex") 1001) (@Option.none @Nat) (@PySem.Value.ref 652) @PySem.Value.none 0)) (@List.toArray (@Option @PySem.Value) []))) ::
(nat_lit 654, (@PySem.Obj.mk (@PySem.Value.type "property") (@Option.none @Nat) (@PySem.Data.fields (@List.toArray @PySem.Value [(@PySem.Value.ref 653), @PySem.Value.none, @PySem.Value.none, @PySem.Value.none, (@PySem.Value.str (S "punctuation_chars") 1034), (@PySem.Value.bool @Bool.false)])) (@List.toArray (@Option @PySem.Value) []))) ::
(nat_lit 655, (@PySem.Obj.mk (@PySem.Value.type "tuple") (@Option.none @Nat) (@PySem.Data.seq (@List.toArray @PySem.Value []) 0) (@List.toArray (@Option @PySem.Value) []))) ::
(nat_lit 657, (@PySem.Obj.mk (@PySem.Value.type "tuple") (@Option.none @Nat) (@PySem.Data.seq (@List.toArray @PySem.Value [(@PySem.Value.str (S "self") 1038), (@PySem.Value.str (S "tok") 1039)]) 0) (@List.toArray (@Option @PySem.Value) []))) ::
(nat_lit 658, (@PySem.Obj.mk (@PySem.Value.type "tuple") (@Option.none @Nat) (@PySem.Data.seq (@List.toArray @PySem.Value []) 0) (@List.toArray (@Option @PySem.Value) []))) ::
(nat_lit 660, (@PySem.Obj.mk (@PySem.Value.type "code") (@Option.none @Nat) (@PySem.Data.fields (@List.toArray @PySem.Value [(@PySem.Value.str (S "push_token") 1035), (@PySem.Value.str (S "shlex.push_token") 1036), (@PySem.Value.str (S "/claim/cut.py") 1037), (@PySem.Value.int 517 0), (@PySem.Value.int 2 0), (@PySem.Value.int 0 0), (@PySem.Value.int 0 0), (@PySem.Value.int 3 0), (@PySem.Value.ref 655), (@PySem.Value.bool @Bool.true), (@PySem.Value.int 273 0), (@PySem.Value.ref 656), @PySem.Value.none, (@PySem.Value.ref 657), (@PySem.Value.ref 658), (@PySem.Value.ref 659), (@PySem.Value.int 1040 0), (@PySem.Value.int 517 0), (@PySem.Value.str (S "/claim/cut.py") 1041)])) (@List.toArray (@Option @PySem.Value) []))) ::
(nat_lit 661, (@Obj.mk (@PySem.Value.type "function") (@Option.none @Nat) (Data.func (@FuncData.mk (S "push_token") (S "shlex.push_token") (prmOf (stB 19 2)) (FuncBody.stmts (bodOf (stB 19 2))) (scpOf (stB 19 2)) 3 [] @PySem.Value.none @PySem.Value.none @PySem.Value.none (@PySem.Value.str (S "cpy313.shlex") 1001) (@Option.none @Nat) (@PySem.Value.ref 660) @PySem.Value.none 0)) (@List.toArray (@Option @PySem.Value) []))) ::
(nat_lit 662, (@PySem.Obj.mk (@PySem.Value.type "tuple") (@Option.none @Nat) (@PySem.Data.seq (@List.toArray @PySem.Value [@PySem.Value.none]) 0) (@List.toArray (@Option @PySem.Value) []))) ::
(nat_lit 663, (@PySem.Obj.mk (@PySem.Value.type "tuple") (@Option.none @Nat) (@PySem.Data.seq (@List.toArray @PySem.Value []) 0) (@List.toArray (@Option @PySem.Value) []))) ::
(nat_lit 665, (@PySem.Obj.mk (@PySem.Value.type "tuple") (@Option.none @Nat) (@PySem.Data.seq (@List.toArray @PySem.Value [(@PySem.Value.str (S "self") 1046), (@PySem.Value.str (S "newstream") 1047), (@PySem.Value.str (S "newfile") 1048)]) 0) (@List.toArray (@Option @PySem.Value) []))) ::
(nat_lit 666, (@PySem.Obj.mk (@PySem.Value.type "tuple") (@Option.none @Nat) (@PySem.Data.seq (@List.toArray @PySem.Value []) 0) (@List.toArray (@Option @PySem.Value) []))) ::
(nat_lit 668, (@PySem.Obj.mk (@PySem.Value.type "code") (@Option.none @Nat) (@PySem.Data.fields (@List.toArray @PySem.Value [(@PySem.Value.str (S "push_source") 1043), (@PySem.Value.str (S "shlex.push_source") 1044), (@PySem.Value.str (S "/claim/cut.py") 1045), (@PySem.Value.int 520 0), (@PySem.Value.int 3 0), (@PySem.Value.int 0 0), (@PySem.Value.int 0 0), (@PySem.Value.int 3 0), (@PySem.Value.ref 663), (@PySem.Value.bool @Bool.true), (@PySem.Value.int 273 0), (@PySem.Value.ref 664), @PySem.Value.none, (@PySem.Value.ref 665), (@PySem.Value.ref 666), (@PySem.Value.ref 667), (@PySem.Value.int 1049 0), (@PySem.Value.int 520 0), (@PySem.Value.str (S "/claim/cut.py") 1050)])) (@List.toArray (@Option @PySem.Value) []))) ::
(nat_lit 669, (@Obj.mk (@PySem.Value.type "function") (@Option.none @Nat) (Data.func (@FuncData.mk (S "push_source") (S "shlex.push_source") (prmOf (stB 19 3)) (FuncBody.stmts (bodOf (stB 19 3))) (scpOf (stB 19 3)) 3 [] (@PySem.Value.ref 662) @PySem.Value.none @PySem.Value.none (@PySem.Value.str (S "cpy313.shlex") 1001) (@Option.none @Nat) (@PySem.Value.ref 668) @PySem.Value.none 0)) (@List.toArray (@Option @PySem.Value) []))) ::
(nat_lit 670, (@PySem.Obj.mk (@PySem.Value.type "tuple") (@Option.none @Nat) (@PySem.Data.seq (@List.toArray @PySem.Value []) 0) (@List.toArray (@Option @PySem.Value) []))) ::
(nat_lit 672, (@PySem.Obj.mk (@PySem.Value.type "tuple") (@Option.none @Nat) (@PySem.Data.seq (@List.toArray @PySem.Value [(@PySem.Value.str (S "self") 1055)]) 0) (@List.toArray (@Option @PySem.Value) []))) ::
(nat_lit 673, (@PySem.Obj.mk (@PySem.Value.type "tuple") (@Option.none @Nat) (@PySem.Data.seq (@List.toArray @PySem.Value []) 0) (@List.toArray (@Option @PySem.Value) []))) ::
(nat_lit 675, (@PySem.Obj.mk (@PySem.Value.type "code") (@Option.none @Nat) (@PySem.Data.fields (@List.toArray @PySem.Value [(@PySem.Value.str (S "pop_source") 1052), (@PySem.Value.str (S "shlex.pop_source") 1053), (@PySem.Value.str (S "/claim/cut.py") 1054), (@PySem.Value.int 533 0), (@PySem.Value.int 1 0), (@PySem.Value.int 0 0), (@PySem.Value.int 0 0), (@PySem.Value.int 3 0), (@PySem.Value.ref 670), (@PySem.Value.bool @Bool.true), (@PySem.Value.int 273 0), (@PySem.Value.ref 671), @PySem.Value.none, (@PySem.Value.ref 672), (@PySem.Value.ref 673), (@PySem.Value.ref 674), (@PySem.Value.int 1056 0), (@PySem.Value.int 533 0), (@PySem.Value.str (S "/claim/cut.py") 1057)])) (@List.toArray (@Option @PySem.Value) []))) ::
(nat_lit 676, (@Obj.mk (@PySem.Value.type "function") (@Option.none @Nat) (Data.func (@FuncData.mk (S "pop_source") (S "shlex.pop_source") (prmOf (stB 19 4)) (FuncBody.stmts (bodOf (stB 19 4))) (scpOf (stB 19 4)) 3 [] @PySem.Value.none @PySem.Value.none @PySem.Value.none (@PySem.Value.str (S "cpy313.shlex") 1001) (@Option.none @Nat) (@PySem.Value.ref 675) @PySem.Value.none 0)) (@List.toArray (@Option @PySem.Value) []))) ::
(nat_lit 677, (@PySem.Obj.mk (@PySem.Value.type "tuple") (@Option.none @Nat) (@PySem.Data.seq (@List.toArray @PySem.Value []) 0) (@List.toArray (@Option @PySem.Value) []))) ::
(nat_lit 679, (@PySem.Obj.mk (@PySem.Value.type "tuple") (@Option.none @Nat) (@PySem.Data.seq (@List.toArray @PySem.Value [(@PySem.Value.str (S "self") 1062), (@PySem.Value.str (S "tok") 1063), (@PySem.Value.str (S "raw") 1064), (@PySem.Value.str (S "spec") 1065), (@PySem.Value.str (S "newfile") 1066), (@PySem.Value.str (S "newstream") 1067)]) 0) (@List.toArray (@Option @PySem.Value) []))) ::
(nat_lit 680, (@PySem.Obj.mk (@PySem.Value.type "tuple") (@Option.none @Nat) (@PySem.Data.seq (@List.toArray @PySem.Value []) 0) (@List.toArray (@Option @PySem.Value) []))) ::
(nat_lit 682, (@PySem.Obj.mk (@PySem.Value.type "code") (@Option.none @Nat) (@PySem.Data.fields (@List.toArray @PySem.Value [(@PySem.Value.str (S "get_token") 1059), (@PySem.Value.str (S "shlex.get_token") 1060), (@PySem.Value.str (S "/claim/cut.py") 1061), (@PySem.Value.int 540 0), (@PySem.Value.int 1 0), (@PySem.Value.int 0 0), (@PySem.Value.int 0 0), (@PySem.Value.int 3 0), (@PySem.Value.ref 677), (@PySem.Value.bool @Bool.true), (@PySem.Value.int 273 0), (@PySem.Value.ref 678), @PySem.Value.none, (@PySem.Value.ref 679), (@PySem.Value.ref 680), (@PySem.Value.ref 681), (@PySem.Value.int 1068 0), (@PySem.Value.int 540 0), (@PySem.Value.str (S "/claim/cut.py") 1069)])) (@List.toArray (@Option @PySem.Value) []))) ::
(nat_lit 683, (@Obj.mk (@PySem.Value.type "function") (@Option.none @Nat) (Data.func (@FuncData.mk (S "get_token") (S "shlex.get_token") (prmOf (stB 19 5)) (FuncBody.stmts (bodOf (stB 19 5))) (scpOf (stB 19 5)) 3 [] @PySem.Value.none @PySem.Value.none @PySem.Value.none (@PySem.Value.str (S "cpy313.shlex") 1001) (@Option.none @Nat) (@PySem.Value.ref 682) @PySem.Value.none 0)) (@List.toArray (@Option @PySem.Value) []))) ::
(nat_lit 684, (@PySem.Obj.mk (@PySem.Value.type "tuple") (@Option.none @Nat) (@PySem.Data.seq (@List.toArray @PySem.Value []) 0) (@List.toArray (@Option @PySem.Value) []))) ::
(nat_lit 686, (@PySem.Obj.mk (@PySem.Value.type "tuple") (@Option.none @Nat) (@PySem.Data.seq (@List.toArray @PySem.Value [(@PySem.Value.str (S "self") 1074), (@PySem.Value.str (S "quoted") 1075), (@PySem.Value.str (S "escapedstate") 1076), (@PySem.Value.str (S "nextchar") 1077), (@PySem.Value.str (S "result") 1078)]) 0) (@List.toArray (@Option @PySem.Value) []))) ::
(nat_lit 687, (@PySem.Obj.mk (@PySem.Value.type "tuple") (@Option.none @Nat) (@PySem.Data.seq (@List.toArray @PySem.Value []) 0) (@List.toArray (@Option @PySem.Value) []))) ::
(nat_lit 689, (@PySem.Obj.mk (@PySem.Value.type "code") (@Option.none @Nat) (@PySem.Data.fields (@List.toArray @PySem.Value [(@PySem.Value.str (S "read_token") 1071), (@PySem.Value.str (S "shlex.read_token") 1072), (@PySem.Value.str (S "/claim/cut.py") 1073), (@PySem.Value.int 567 0), (@PySem.Value.int 1 0), (@PySem.Value.int 0 0), (@PySem.Value.int 0 0), (@PySem.Value.int 3 0), (@PySem.Value.ref 684), (@PySem.Value.bool @Bool.true), (@PySem.Value.int 273 0), (@PySem.Value.ref 685), @PySem.Value.none, (@PySem.Value.ref 686), (@PySem.Value.ref 687), (@PySem.Value.ref 688), (@PySem.Value.int 1079 0), (@PySem.Value.int 567 0), (@PySem.Value.str (S "/claim/cut.py") 1080)])) (@List.toArray (@Option @PySem.Value) []))) ::
(nat_lit 690, (@Obj.mk (@PySem.Value.type "function") (@Option.none @Nat) (Data.func (@FuncData.mk (S "read_token") (S "shlex.read_token") (prmOf (stB 19 6)) (FuncBody.stmts (bodOf (stB 19 6))) (scpOf (stB 19 6)) 3 [] @PySem.Value.none @PySem.Value.none @PySem.Value.none (@PySem.Value.str (S "cpy313.shlex") 1001) (@Option.none @Nat) (@PySem.Value.ref 689) @PySem.Value.none 0)) (@List.toArray (@Option @PySem.Value) []))) ::
(nat_lit 691, (@PySem.Obj.mk (@PySem.Value.type "tuple") (@Option.none @Nat) (@PySem.Data.seq (@List.toArray @PySem.Value []) 0) (@List.toArray (@Option @PySem.Value) []))) ::
(nat_lit 693, (@PySem.Obj.mk (@PySem.Value.type "tuple") (@Option.none @Nat) (@PySem.Data.seq (@List.toArray @PySem.Value [(@PySem.Value.str (S "self") 1085), (@PySem.Value.str (S "newfile") 1086)]) 0) (@List.toArray (@Option @PySem.Value) []))) ::
(nat_lit 694, (@PySem.Obj.mk (@PySem.Value.type "tuple") (@Option.none @Nat) (@PySem.Data.seq (@List.toArray @PySem.Value []) 0) (@List.toArray (@Option @PySem.Value) []))) ::
(nat_lit 696, (@PySem.Obj.mk (@PySem.Value.type "code") (@Option.none @Nat) (@PySem.Data.fields (@List.toArray @PySem.Value [(@PySem.Value.str (S "sourcehook") 1082), (@PySem.Value.str (S "shlex.sourcehook") 1083), (@PySem.Value.str (S "/claim/cut.py") 1084), (@PySem.Value.int 704 0), (@PySem.Value.int 2 0), (@PySem.Value.int 0 0), (@PySem.Value.int 0 0), (@PySem.Value.int 3 0), (@PySem.Value.ref 691), (@PySem.Value.bool @Bool.true), (@PySem.Value.int 273 0), (@PySem.Value.ref 692), @PySem.Value.none, (@PySem.Value.ref 693), (@PySem.Value.ref 694), (@PySem.Value.ref 695), (@PySem.Value.int 1087 0), (@PySem.Value.int 704 0), (@PySem.Value.str (S "/claim/cut.py") 1088)])) (@List.toArray (@Option @PySem.Value) []))) ::
(nat_lit 697, (@Obj.mk (@PySem.Value.type "function") (@Option.none @Nat) (Data.func (@FuncData.mk (S "sourcehook") (S "shlex.sourcehook") (prmOf (stB 19 7)) (FuncBody.stmts (bodOf (stB 19 7))) (scpOf (stB 19 7)) 3 [] @PySem.Value.none @PySem.Value.none @PySem.Value.none (@PySem.Value.str (S "cpy313.shlex") 1001) (@Option.none @Nat) (@PySem.Value.ref 696) @PySem.Value.none 0)) (@List.toArray (@Option @PySem.Value) []))) ::
(nat_lit 698, (@PySem.Obj.mk (@PySem.Value.type "tuple") (@Option.none @Nat) (@PySem.Data.seq (@List.toArray @PySem.Value [@PySem.Value.none, @PySem.Value.none]) 0) (@List.toArray (@Option @PySem.Value) []))) ::
(nat_lit 699, (@PySem.Obj.mk (@PySem.Value.type "tuple") (@Option.none @Nat) (@PySem.Data.seq (@List.toArray @PySem.Value []) 0) (@List.toArray (@Option @PySem.Value) []))) ::
(nat_lit 701, (@PySem.Obj.mk (@PySem.Value.type "tuple") (@Option.none @Nat) (@PySem.Data.seq (@List.toArray @PySem.Value [(@PySem.Value.str (S "self") 1093), (@PySem.Value.str (S "infile") 1094), (@PySem.Value.str (S "lineno") 1095)]) 0) (@List.toArray (@Option @PySem.Value) []))) ::
(nat_lit 702, (@PySem.Obj.mk (@PySem.Value.type "tuple") (@Option.none @Nat) (@PySem.Data.seq (@List.toArray @PySem.Value []) 0) (@List.toArray (@Option @PySem.Value) []))) ::
(nat_lit 704, (@PySem.Obj.mk (@PySem.Value.type "code") (@Option.none @Nat) (@PySem.Data.fields (@List.toArray @PySem.Value [(@PySem.Value.str (S "error_leader") 1090), (@PySem.Value.str (S "shlex.error_leader") 1091), (@PySem.Value.str (S "/claim/cut.py") 1092), (@PySem.Value.int 711 0), (@PySem.Value.int 3 0), (@PySem.Value.int 0 0), (@PySem.Value.int 0 0), (@PySem.Value.int 3 0), (@PySem.Value.ref 699), (@PySem.Value.bool @Bool.true), (@PySem.Value.int 273 0), (@PySem.Value.ref 700), @PySem.Value.none, (@PySem.Value.ref 701), (@PySem.Value.ref 702), (@PySem.Value.ref 703), (@PySem.Value.int 1096 0), (@PySem.Value.int 711 0), (@PySem.Value.str (S "/claim/cut.py") 1097)])) (@List.toArray (@Option @PySem.Value) []))) ::
(nat_lit 705, (@Obj.mk (@PySem.Value.type "function") (@Option.none @Nat) (Data.func (@FuncData.mk (S "error_leader") (S "shlex.error_leader") (prmOf (stB 19 8)) (FuncBody.stmts (bodOf (stB 19 8))) (scpOf (stB 19 8)) 3 [] (@PySem.Value.ref 698) @PySem.Value.none @PySem.Value.none (@PySem.Value.str (S "cpy313.shlex") 1001) (@Option.none @Nat) (@PySem.Value.ref 704) @PySem.Value.none 0)) (@List.toArray (@Option @PySem.Value) []))) ::
(nat_lit 706, (@PySem.Obj.mk (@PySem.Value.type "tuple") (@Option.none @Nat) (@PySem.Data.seq (@List.toArray @PySem.Value []) 0) (@List.toArray (@Option @PySem.Value) []))) ::
(nat_lit 708, (@PySem.Obj.mk (@PySem.Value.type "tuple") (@Option.none @Nat) (@PySem.Data.seq (@List.toArray @PySem.Value [(@PySem.Value.str (S "self") 1102)]) 0) (@List.toArray (@Option @PySem.Value) []))) ::
(nat_lit 709, (@PySem.Obj.mk (@PySem.Value.type "tuple") (@Option.none @Nat) (@PySem.Data.seq (@List.toArray @PySem.Value []) 0) (@List.toArray (@Option @PySem.Value) []))) ::
(nat_lit 711, (@PySem.Obj.mk (@PySem.Value.type "code") (@Option.none @Nat) (@PySem.Data.fields (@List.toArray @PySem.Value [(@PySem.Value.str (S "__iter__") 1099), (@PySem.Value.str (S "shlex.__iter__") 1100), (@PySem.Value.str (S "/claim/cut.py") 1101), (@PySem.Value.int 714 0), (@PySem.Value.int 1 0), (@PySem.Value.int 0 0), (@PySem.Value.int 0 0), (@PySem.Value.int 3 0), (@PySem.Value.ref 706), (@PySem.Value.bool @Bool.true), (@PySem.Value.int 273 0), (@PySem.Value.ref 707), @PySem.Value.none, (@PySem.Value.ref 708), (@PySem.Value.ref 709), (@PySem.Value.ref 710), (@PySem.Value.int 1103 0), (@PySem.Value.int 714 0), (@PySem.Value.str (S "/claim/cut.py") 1104)])) (@List.toArray (@Option @PySem.Value) []))) ::
(nat_lit 712, (@Obj.mk (@PySem.Value.type "function") (@Option.none @Nat) (Data.func (@FuncData.mk (S "__iter__") (S "shlex.__iter__") (prmOf (stB 19 9)) (FuncBody.stmts (bodOf (stB 19 9))) (scpOf (stB 19 9)) 3 [] @PySem.Value.none @PySem.Value.none @PySem.Value.none (@PySem.Value.str (S "cpy313.shlex") 1001) (@Option.none @Nat) (@PySem.Value.ref 711) @PySem.Value.none 0)) (@List.toArray (@Option @PySem.Value) []))) ::
(nat_lit 713, (@PySem.Obj.mk (@PySem.Value.type "tuple") (@Option.none @Nat) (@PySem.Data.seq (@List.toArray @PySem.Value []) 0) (@List.toArray (@Option @PySem.Value) []))) ::
(nat_lit 715, (@PySem.Obj.mk (@PySem.Value.type "tuple") (@Option.none @Nat) (@PySem.Data.seq (@List.toArray @PySem.Value [(@PySem.Value.str (S "self") 1109), (@PySem.Value.str (S "token") 1110)]) 0) (@List.toArray (@Option @PySem.Value) []))) ::
(nat_lit 716, (@PySem.Obj.mk (@PySem.Value.type "tuple") (@Option.none @Nat) (@PySem.Data.seq (@List.toArray @PySem.Value []) 0) (@List.toArray (@Option @PySem.Value) []))) ::
(nat_lit 718, (@PySem.Obj.mk (@PySem.Value.type "code") (@Option.none @Nat) (@PySem.Data.fields (@List.toArray @PySem.Value [(@PySem.Value.str (S "__next__") 1106), (@PySem.Value.str (S "shlex.__next__") 1107), (@PySem.Value.str (S "/claim/cut.py") 1108), (@PySem.Value.int 717 0), (@PySem.Value.int 1 0), (@PySem.Value.int 0 0), (@PySem.Value.int 0 0), (@PySem.Value.int 3 0), (@PySem.Value.ref 713), (@PySem.Value.bool @Bool.true), (@PySem.Value.int 273 0), (@PySem.Value.ref 714), @PySem.Value.none, (@PySem.Value.ref 715), (@PySem.Value.ref 716), (@PySem.Value.ref 717), (@PySem.Value.int 1111 0), (@PySem.Value.int 717 0), (@PySem.Value.str (S "/claim/cut.py") 1112)])) (@List.toArray (@Option @PySem.Value) []))) ::
(nat_lit 719, (@Obj.mk (@PySem.Value.type "function") (@Option.none @Nat) (Data.func (@FuncData.mk (S "__next__") (S "shlex.__next__") (prmOf (stB 19 10)) (FuncBody.stmts (bodOf (stB 19 10))) (scpOf (stB 19 10)) 3 [] @PySem.Value.none @PySem.Value.none @PySem.Value.none (@PySem.Value.str (S "cpy313.shlex") 1001) (@Option.none @Nat) (@PySem.Value.ref 718) @PySem.Value.none 0)) (@List.toArray (@Option @PySem.Value) []))) ::
(nat_lit 721, (@PySem.Obj.mk (@PySem.Value.type "dict") (@Option.none @Nat) (@PySem.Data.dict (@List.toArray @PySem.DictEntry [(@PySem.DictEntry.mk (@PySem.PyData.keyHash P (S "__module__")) (@PySem.Value.str (S "__module__") 1010) (@PySem.Value.str (S "cpy313.shlex") 1001)), (@PySem.DictEntry.mk (@PySem.PyData.keyHash P (S "__firstlineno__")) (@PySem.Value.str (S "__firstlineno__") 1014) (@PySem.Value.int 470 1013)), (@PySem.DictEntry.mk (@PySem.PyData.keyHash P (S "__init__")) (@PySem.Value.str (S "__init__") 1026) (@PySem.Value.ref 646)), (@PySem.DictEntry.mk (@PySem.PyData.keyHash P (S "punctuation_chars")) (@PySem.Value.str (S "punctuation_chars") 1034) (@PySem.Value.ref 654)), (@PySem.DictEntry.mk (@PySem.PyData.keyHash P (S "push_token")) (@PySem.Value.str (S "push_token") 1042) (@PySem.Value.ref 661)), (@PySem.DictEntry.mk (@PySem.PyData.keyHash P (S "push_source")) (@PySem.Value.str (S "push_source") 1051) (@PySem.Value.ref 669)), (@PySem.DictEntry.mk (@PySem.PyData.keyHash P (S "pop_source")) (@PySem.Value.str (S "pop_source") 1058) (@PySem.Value.ref 676)), (@PySem.DictEntry.mk (@PySem.PyData.keyHash P (S "get_token")) (@PySem.Value.str (S "get_token") 1070) (@PySem.Value.ref 683)), (@PySem.DictEntry.mk (@PySem.PyData.keyHash P (S "read_token")) (@PySem.Value.str (S "read_token") 1081) (@PySem.Value.ref 690)), (@PySem.DictEntry.mk (@PySem.PyData.keyHash P (S "sourcehook")) (@PySem.Value.str (S "sourcehook") 1089) (@PySem.Value.ref 697)), (@PySem.DictEntry.mk (@PySem.PyData.keyHash P (S "error_leader")) (@PySem.Value.str (S "error_leader") 1098) (@PySem.Value.ref 705)), (@PySem.DictEntry.mk (@PySem.PyData.keyHash P (S "__iter__")) (@PySem.Value.str (S "__iter__") 1105) (@PySem.Value.ref 712)), (@PySem.DictEntry.mk (@PySem.PyData.keyHash P (S "__next__")) (@PySem.Value.str (S "__next__") 1113) (@PySem.Value.ref 719)), (@PySem.DictEntry.mk (@PySem.PyData.keyHash P (S "__static_attributes__")) (@PySem.Value.str (S "__static_attributes__") 1134) (@PySem.Value.ref 720)), (@PySem.DictEntry.mk (@PySem.PyData.keyHash P (S "__dict__")) (@PySem.Value.str (S "__dict__") 1136) (@PySem.Value.ref 723)), (@PySem.DictEntry.mk (@PySem.PyData.keyHash P (S "__weakref__")) (@PySem.Value.str (S "__weakref__") 1138) (@PySem.Value.ref 724)), (@PySem.DictEntry.mk (@PySem.PyData.keyHash P (S "__doc__")) (@PySem.Value.str (S "__doc__") 1139) @PySem.Value.none)]) 4) (@List.toArray (@Option @PySem.Value) []))) ::
(nat_lit 722, (@PySem.Obj.mk (@PySem.Value.type "type") (@Option.none @Nat) (@PySem.Data.cls (@PySem.ClassData.mk (S "shlex") [(@PySem.Value.type "object")] [(@PySem.Value.ref 722), (@PySem.Value.type "object")] 721 (S "shlex") @Bool.true [] [] @Bool.false (@Option.none @Bool) @Bool.false)) (@List.toArray (@Option @PySem.Value) [(@Option.none @PySem.Value), (@Option.none @PySem.Value), (@Option.some @PySem.Value (@PySem.Value.str (S "shlex") 1003)), (@Option.some @PySem.Value (@PySem.Value.str (S "shlex") 1011)), (@Option.some @PySem.Value (@PySem.Value.builtin "object.__new__")), (@Option.some @PySem.Value (@PySem.Value.bool @Bool.true))]))) ::
(nat_lit 723, (@PySem.Obj.mk (@PySem.Value.type "getset_descriptor") (@Option.none @Nat) (@PySem.Data.fields (@List.toArray @PySem.Value [(@PySem.Value.str (S "__dict__") 1135), (@PySem.Value.ref 722), (@PySem.Value.builtin "function.__dict__"), (@PySem.Value.builtin "function.__dict__#set")])) (@List.toArray (@Option @PySem.Value) []))) ::
(nat_lit 724, (@PySem.Obj.mk (@PySem.Value.type "getset_descriptor") (@Option.none @Nat) (@PySem.Data.fields (@List.toArray @PySem.Value [(@PySem.Value.str (S "__weakref__") 1137), (@PySem.Value.ref 722), (@PySem.Value.builtin "ExceptionGroup.__weakref__"), @PySem.Value.none])) (@List.toArray (@Option @PySem.Value) []))) ::
(nat_lit 727, (@PySem.Obj.mk (@PySem.Value.type "tuple") (@Option.none @Nat) (@PySem.Data.seq (@List.toArray @PySem.Value [(@PySem.Value.bool @Bool.false), (@PySem.Value.bool @Bool.true)]) 0) (@List.toArray (@Option @PySem.Value) []))) ::
(nat_lit 728, (@PySem.Obj.mk (@PySem.Value.type "tuple") (@Option.none @Nat) (@PySem.Data.seq (@List.toArray @PySem.Value []) 0) (@List.toArray (@Option @PySem.Value) []))) ::
(nat_lit 730, (@PySem.Obj.mk (@PySem.Value.type "tuple") (@Option.none @Nat) (@PySem.Data.seq (@List.toArray @PySem.Value [(@PySem.Value.str (S "s") 1145), (@PySem.Value.str (S "comments") 1146), (@PySem.Value.str (S "posix") 1147), (@PySem.Value.str (S "lex") 1148)]) 0) (@List.toArray (@Option @PySem.Value) []))) ::
(nat_lit 731, (@PySem.Obj.mk (@PySem.Value.type "tuple") (@Option.none @Nat) (@PySem.Data.seq (@List.toArray @PySem.Value []) 0) (@List.toArray (@Option @PySem.Value) []))) ::
(nat_lit 733, (@PySem.Obj.mk (@PySem.Value.type "code") (@Option.none @Nat) (@PySem.Data.fields (@List.toArray @PySem.Value [(@PySem.Value.str (S "split") 1142), (@PySem.Value.str (S "split") 1143), (@PySem.Value.str (S "/claim/cut.py") 1144), (@PySem.Value.int 722 0), (@PySem.Value.int 3 0), (@PySem.Value.int 0 0), (@PySem.Value.int 0 0), (@PySem.Value.int 3 0), (@PySem.Value.ref 728), (@PySem.Value.bool @Bool.true), (@PySem.Value.int 273 0), (@PySem.Value.ref 729), @PySem.Value.none, (@PySem.Value.ref 730), (@PySem.Value.ref 731), (@PySem.Value.ref 732), (@PySem.Value.int 1149 0), (@PySem.Value.int 722 0), (@PySem.Value.str (S "/claim/cut.py") 1150)])) (@List.toArray (@Option @PySem.Value) []))) ::
(nat_lit 734, (@Obj.mk (@PySem.Value.type "function") (@Option.none @Nat) (Data.func (@FuncData.mk (S "split") (S "split") (prmOf (stA 20)) (FuncBody.stmts (bodOf (stA 20))) (scpOf (stA 20)) 3 [] (@PySem.Value.ref 727) @PySem.Value.none @PySem.Value.none (@PySem.Value.str (S "cpy313.shlex") 1001) (@Option.none @Nat) (@PySem.Value.ref 733) @PySem.Value.none 0)) (@List.toArray (@Option @PySem.Value) []))) ::
(nat_lit 735, (@PySem.Obj.mk (@PySem.Value.type "tuple") (@Option.none @Nat) (@PySem.Data.seq (@List.toArray @PySem.Value []) 0) (@List.toArray (@Option @PySem.Value) []))) ::
(nat_lit 737, (@PySem.Obj.mk (@PySem.Value.type "tuple") (@Option.none @Nat) (@PySem.Data.seq (@List.toArray @PySem.Value [(@PySem.Value.str (S "mode") 1157)]) 0) (@List.toArray (@Option @PySem.Value) []))) ::
(nat_lit 738, (@PySem.Obj.mk (@PySem.Value.type "tuple") (@Option.none @Nat) (@PySem.Data.seq (@List.toArray @PySem.Value []) 0) (@List.toArray (@Option @PySem.Value) []))) ::
(nat_lit 740, (@PySem.Obj.mk (@PySem.Value.type "code") (@Option.none @Nat) (@PySem.Data.fields (@List.toArray @PySem.Value [(@PySem.Value.str (S "S_IFMT") 1154), (@PySem.Value.str (S "S_IFMT") 1155), (@PySem.Value.str (S "/claim/cut.py") 1156), (@PySem.Value.int 731 0), (@PySem.Value.int 1 0), (@PySem.Value.int 0 0), (@PySem.Value.int 0 0), (@PySem.Value.int 3 0), (@PySem.Value.ref 735), (@PySem.Value.bool @Bool.true), (@PySem.Value.int 273 0), (@PySem.Value.ref 736), @PySem.Value.none, (@PySem.Value.ref 737), (@PySem.Value.ref 738), (@PySem.Value.ref 739), (@PySem.Value.int 1158 0), (@PySem.Value.int 731 0), (@PySem.Value.str (S "/claim/cut.py") 1159)])) (@List.toArray (@Option @PySem.Value) []))) ::
(nat_lit 741, (@Obj.mk (@PySem.Value.type "function") (@Option.none @Nat) (Data.func (@FuncData.mk (S "S_IFMT") (S "S_IFMT") (prmOf (stA 22)) (FuncBody.stmts (bodOf (stA 22))) (scpOf (stA 22)) 3 [] @PySem.Value.none @PySem.Value.none @PySem.Value.none (@PySem.Value.str (S "cpy313.stat") 1152) (@Option.none @Nat) (@PySem.Value.ref 740) @PySem.Value.none 0)) (@List.toArray (@Option @PySem.Value) []))) ::
(nat_lit 742, (@PySem.Obj.mk (@PySem.Value.type "tuple") (@Option.none @Nat) (@PySem.Data.seq (@List.toArray @PySem.Value [(@PySem.Value.int 40960 1171), (@PySem.Value.str (S "l") 1199)]) 0) (@List.toArray (@Option @PySem.Value) []))) ::
(nat_lit 743, (@PySem.Obj.mk (@PySem.Value.type "tuple") (@Option.none @Nat) (@PySem.Data.seq (@List.toArray @PySem.Value [(@PySem.Value.int 49152 1173), (@PySem.Value.str (S "s") 1200)]) 0) (@List.toArray (@Option @PySem.Value) []))) ::
(nat_lit 744, (@PySem.Obj.mk (@PySem.Value.type "tuple") (@Option.none @Nat) (@PySem.Data.seq (@List.toArray @PySem.Value [(@PySem.Value.int 32768 1167), (@PySem.Value.str (S "-") 1201)]) 0) (@List.toArray (@Option @PySem.Value) []))) ::
(nat_lit 745, (@PySem.Obj.mk (@PySem.Value.type "tuple") (@Option.none @Nat) (@PySem.Data.seq (@List.toArray @PySem.Value [(@PySem.Value.int 24576 1165), (@PySem.Value.str (S "b") 1202)]) 0) (@List.toArray (@Option @PySem.Value) []))) ::
(nat_lit 746, (@PySem.Obj.mk (@PySem.Value.type "tuple") (@Option.none @Nat) (@PySem.Data.seq (@List.toArray @PySem.Value [(@PySem.Value.int 16384 1161), (@PySem.Value.str (S "d") 1203)]) 0) (@List.toArray (@Option @PySem.Value) []))) ::
(nat_lit 747, (@PySem.Obj.mk (@PySem.Value.type "tuple") (@Option.none @Nat) (@PySem.Data.seq (@List.toArray @PySem.Value [(@PySem.Value.int 8192 1163), (@PySem.Value.str (S "c") 1204)]) 0) (@List.toArray (@Option @PySem.Value) []))) ::
(nat_lit 748, (@PySem.Obj.mk (@PySem.Value.type "tuple") (@Option.none @Nat) (@PySem.Data.seq (@List.toArray @PySem.Value [(@PySem.Value.int 4096 1169), (@PySem.Value.str (S "p") 1205)]) 0) (@List.toArray (@Option @PySem.Value) []))) ::
(nat_lit 749, (@PySem.Obj.mk (@PySem.Value.type "tuple") (@Option.none @Nat) (@PySem.Data.seq (@List.toArray @PySem.Value [(@PySem.Value.ref 742), (@PySem.Value.ref 743), (@PySem.Value.ref 744), (@PySem.Value.ref 745), (@PySem.Value.ref 746), (@PySem.Value.ref 747), (@PySem.Value.ref 748)]) 0) (@List.toArray (@Option @PySem.Value) []))) ::
(nat_lit 750, (@PySem.Obj.mk (@PySem.Value.type "tuple") (@Option.none @Nat) (@PySem.Data.seq (@List.toArray @PySem.Value [(@PySem.Value.int 256 1181), (@PySem.Value.str (S "r") 1206)]) 0) (@List.toArray (@Option @PySem.Value) []))) ::
(nat_lit 751, (@PySem.Obj.mk (@PySem.Value.type "tuple") (@Option.none @Nat) (@PySem.Data.seq (@List.toArray @PySem.Value [(@PySem.Value.ref 750)]) 0) (@List.toArray (@Option @PySem.Value) []))) ::
(nat_lit 752, (@PySem.Obj.mk (@PySem.Value.type "tuple") (@Option.none @Nat) (@PySem.Data.seq (@List.toArray @PySem.Value [(@PySem.Value.int 128 1183), (@PySem.Value.str (S "w") 1207)]) 0) (@List.toArray (@Option @PySem.Value) []))) ::
(nat_lit 753, (@PySem.Obj.mk (@PySem.Value.type "tuple") (@Option.none @Nat) (@PySem.Data.seq (@List.toArray @PySem.Value [(@PySem.Value.ref 752)]) 0) (@List.toArray (@Option @PySem.Value) []))) ::
(nat_lit 754, (@PySem.Obj.mk (@PySem.Value.type "tuple") (@Option.none @Nat) (@PySem.Data.seq (@List.toArray @PySem.Value [(@PySem.Value.int 2112 1208), (@PySem.Value.str (S "s") 1209)]) 0) (@List.toArray (@Option @PySem.Value) []))) ::
(nat_lit 755, (@PySem.Obj.mk (@PySem.Value.type "tuple") (@Option.none @Nat) (@PySem.Data.seq (@List.toArray @PySem.Value [(@PySem.Value.int 2048 1175), (@PySem.Value.str (S "S") 1210)]) 0) (@List.toArray (@Option @PySem.Value) []))) ::
(nat_lit 756, (@PySem.Obj.mk (@PySem.Value.type "tuple") (@Option.none @Nat) (@PySem.Data.seq (@List.toArray @PySem.Value [(@PySem.Value.int 64 1185), (@PySem.Value.str (S "x") 1211)]) 0) (@List.toArray (@Option @PySem.Value) []))) ::
(nat_lit 757, (@PySem.Obj.mk (@PySem.Value.type "tuple") (@Option.none @Nat) (@PySem.Data.seq (@List.toArray @PySem.Value [(@PySem.Value.ref 754), (@PySem.Value.ref 755), (@PySem.Value.ref 756)]) 0) (@List.toArray (@Option @PySem.Value) []))) ::
(nat_lit 758, (@PySem.Obj.mk (@PySem.Value.type "tuple") (@Option.none @Nat) (@PySem.Data.seq (@List.toArray @PySem.Value [(@PySem.Value.int 32 1187), (@PySem.Value.str (S "r") 1212)]) 0) (@List.toArray (@Option @PySem.Value) []))) ::
(nat_lit 759, (@PySem.Obj.mk (@PySem.Value.type "tuple") (@Option.none @Nat) (@PySem.Data.seq (@List.toArray @PySem.Value [(@PySem.Value.ref 758)]) 0) (@List.toArray (@Option @PySem.Value) []))) ::
(nat_lit 760, (@PySem.Obj.mk (@PySem.Value.type "tuple") (@Option.none @Nat) (@PySem.Data.seq (@List.toArray @PySem.Value [(@PySem.Value.int 16 1189), (@PySem.Value.str (S "w") 1213)]) 0) (@List.toArray (@Option @PySem.Value) []))) ::
(nat_lit 761, (@PySem.Obj.mk (@PySem.Value.type "tuple") (@Option.none @Nat) (@PySem.Data.seq (@List.toArray @PySem.Value [(@PySem.Value.ref 760)]) 0) (@List.toArray (@Option @PySem.Value) []))) ::
(nat_lit 762, (@PySem.Obj.mk (@PySem.Value.type "tuple") (@Option.none @Nat) (@PySem.Data.seq (@List.toArray @PySem.Value [(@PySem.Value.int 1032 1214), (@PySem.Value.str (S "s") 1215)]) 0) (@List.toArray (@Option @PySem.Value) []))) ::
(nat_lit 763, (@PySem.Obj.mk (@PySem.Value.type "tuple") (@Option.none @Nat) (@PySem.Data.seq (@List.toArray @PySem.Value [(@PySem.Value.int 1024 1177), (@PySem.Value.str (S "S") 1216)]) 0) (@List.toArray (@Option @PySem.Value) []))) ::
(nat_lit 764, (@PySem.Obj.mk (@PySem.Value.type "tuple") (@Option.none @Nat) (@PySem.Data.seq (@List.toArray @PySem.Value [(@PySem.Value.int 8 1191), (@PySem.Value.str (S "x") 1217)]) 0) (@List.toArray (@Option @PySem.Value) []))) ::
(nat_lit 765, (@PySem.Obj.mk (@PySem.Value.type "tuple") (@Option.none @Nat) (@PySem.Data.seq (@List.toArray @PySem.Value [(@PySem.Value.ref 762), (@PySem.Value.ref 763), (@PySem.Value.ref 764)]) 0) (@List.toArray (@Option @PySem.Value) []))) ::
(nat_lit 766, (@PySem.Obj.mk (@PySem.Value.type "tuple") (@Option.none @Nat) (@PySem.Data.seq (@List.toArray @PySem.Value [(@PySem.Value.int 4 1193), (@PySem.Value.str (S "r") 1218)]) 0) (@List.toArray (@Option @PySem.Value) []))) ::
(nat_lit 767, (@PySem.Obj.mk (@PySem.Value.type "tuple") (@Option.none @Nat) (@PySem.Data.seq (@List.toArray @PySem.Value [(@PySem.Value.ref 766)]) 0) (@List.toArray (@Option @PySem.Value) []))) ::
(nat_lit 768, (@PySem.Obj.mk (@PySem.Value.type "tuple") (@Option.none @Nat) (@PySem.Data.seq (@List.toArray @PySem.Value [(@PySem.Value.int 2 1195), (@PySem.Value.str (S "w") 1219)]) 0) (@List.toArray (@Option @PySem.Value) []))) ::
(nat_lit 769, (@PySem.Obj.mk (@PySem.Value.type "tuple") (@Option.none @Nat) (@PySem.Data.seq (@List.toArray @PySem.Value [(@PySem.Value.ref 768)]) 0) (@List.toArray (@Option @PySem.Value) []))) ::
(nat_lit 770, (@PySem.Obj.mk (@PySem.Value.type "tuple") (@Option.none @Nat) (@PySem.Data.seq (@List.toArray @PySem.Value [(@PySem.Value.int 513 1220), (@PySem.Value.str (S "t") 1221)]) 0) (@List.toArray (@Option @PySem.Value) []))) ::
(nat_lit 771, (@PySem.Obj.mk (@PySem.Value.type "tuple") (@Option.none @Nat) (@PySem.Data.seq (@List.toArray @PySem.Value [(@PySem.Value.int 512 1179), (@PySem.Value.str (S "T") 1222)]) 0) (@List.toArray (@Option @PySem.Value) []))) ::
(nat_lit 772, (@PySem.Obj.mk (@PySem.Value.type "tuple") (@Option.none @Nat) (@PySem.Data.seq (@List.toArray @PySem.Value [(@PySem.Value.int 1 1197), (@PySem.Value.str (S "x") 1223)]) 0) (@List.toArray (@Option @PySem.Value) []))) ::
(nat_lit 773, (@PySem.Obj.mk (@PySem.Value.type "tuple") (@Option.none @Nat) (@PySem.Data.seq (@List.toArray @PySem.Value [(@PySem.Value.ref 770), (@PySem.Value.ref 771), (@PySem.Value.ref 772)]) 0) (@List.toArray (@Option @PySem.Value) []))) ::
(nat_lit 774, (@PySem.Obj.mk (@PySem.Value.type "tuple") (@Option.none @Nat) (@PySem.Data.seq (@List.toArray @PySem.Value [(@PySem.Value.ref 749), (@PySem.Value.ref 751), (@PySem.Value.ref 753), (@PySem.Value.ref 757), (@PySem.Value.ref 759), (@PySem.Value.ref 761), (@PySem.Value.ref 765), (@PySem.Value.ref 767), (@PySem.Value.ref 769), (@PySem.Value.ref 773)]) 0) (@List.toArray (@Option @PySem.Value) []))) ::
(nat_lit 775, (@PySem.Obj.mk (@PySem.Value.type "tuple") (@Option.none @Nat) (@PySem.Data.seq (@List.toArray @PySem.Value []) 0) (@List.toArray (@Option @PySem.Value) []))) ::
(nat_lit 777, (@PySem.Obj.mk (@PySem.Value.type "tuple") (@Option.none @Nat) (@PySem.Data.seq (@List.toArray @PySem.Value [(@PySem.Value.str (S "mode") 1228), (@PySem.Value.str (S "perm") 1229), (@PySem.Value.str (S "index") 1230), (@PySem.Value.str (S "table") 1231), (@PySem.Value.str (S "bit") 1232), (@PySem.Value.str (S "char") 1233)]) 0) (@List.toArray (@Option @PySem.Value) []))) ::
(nat_lit 778, (@PySem.Obj.mk (@PySem.Value.type "tuple") (@Option.none @Nat) (@PySem.Data.seq (@List.toArray @PySem.Value []) 0) (@List.toArray (@Option @PySem.Value) []))) ::
(nat_lit 780, (@PySem.Obj.mk (@PySem.Value.type "code") (@Option.none @Nat) (@PySem.Data.fields (@List.toArray @PySem.Value [(@PySem.Value.str (S "filemode") 1225), (@PySem.Value.str (S "filemode") 1226), (@PySem.Value.str (S "/claim/cut.py") 1227), (@PySem.Value.int 753 0), (@PySem.Value.int 1 0), (@PySem.Value.int 0 0), (@PySem.Value.int 0 0), (@PySem.Value.int 3 0), (@PySem.Value.ref 775), (@PySem.Value.bool @Bool.true), (@PySem.Value.int 273 0), (@PySem.Value.ref 776), @PySem.Value.none, (@PySem.Value.ref 777), (@PySem.Value.ref 778), (@PySem.Value.ref 779), (@PySem.Value.int 1234 0), (@PySem.Value.int 753 0), (@PySem.Value.str (S "/claim/cut.py") 1235)])) (@List.toArray (@Option @PySem.Value) []))) ::
(nat_lit 781, (@Obj.mk (@PySem.Value.type "function") (@Option.none @Nat) (Data.func (@FuncData.mk (S "filemode") (S "filemode") (prmOf (stA 43)) (FuncBody.stmts (bodOf (stA 43))) (scpOf (stA 43)) 3 [] @PySem.Value.none @PySem.Value.none @PySem.Value.none (@PySem.Value.str (S "cpy313.stat") 1152) (@Option.none @Nat) (@PySem.Value.ref 780) @PySem.Value.none 0)) (@List.toArray (@Option @PySem.Value) []))) ::
(nat_lit 782, (@PySem.Obj.mk (@PySem.Value.type "tuple") (@Option.none @Nat) (@PySem.Data.seq (@List.toArray @PySem.Value []) 0) (@List.toArray (@Option @PySem.Value) []))) ::
(nat_lit 784, (@PySem.Obj.mk (@PySem.Value.type "tuple") (@Option.none @Nat) (@PySem.Data.seq (@List.toArray @PySem.Value [(@PySem.Value.str (S "data") 1242), (@PySem.Value.str (S "width") 1243), (@PySem.Value.str (S "swapped_data") 1244), (@PySem.Value.str (S "i") 1245), (@PySem.Value.str (S "j") 1246)]) 0) (@List.toArray (@Option @PySem.Value) []))) ::
(nat_lit 785, (@PySem.Obj.mk (@PySem.Value.type "tuple") (@Option.none @Nat) (@PySem.Data.seq (@List.toArray @PySem.Value []) 0) (@List.toArray (@Option @PySem.Value) []))) ::
(nat_lit 787, (@PySem.Obj.mk (@PySem.Value.type "code") (@Option.none @Nat) (@PySem.Data.fields (@List.toArray @PySem.Value [(@PySem.Value.str (S "_byteswap") 1239), (@PySem.Value.str (S "_byteswap") 1240), (@PySem.Value.str (S "/claim/cut.py") 1241), (@PySem.Value.int 771 0), (@PySem.Value.int 2 0), (@PySem.Value.int 0 0), (@PySem.Value.int 0 0), (@PySem.Value.int 3 0), (@PySem.Value.ref 782), (@PySem.Value.bool @Bool.true), (@PySem.Value.int 273 0), (@PySem.Value.ref 783), @PySem.Value.none, (@PySem.Value.ref 784), (@PySem.Value.ref 785), (@PySem.Value.ref 786), (@PySem.Value.int 1247 0), (@PySem.Value.int 771 0), (@PySem.Value.str (S "/claim/cut.py") 1248)])) (@List.toArray (@Option @PySem.Value) []))) ::
(nat_lit 788, (@Obj.mk (@PySem.Value.type "function") (@Option.none @Nat) (Data.func (@FuncData.mk (S "_byteswap") (S "_byteswap") (prmOf (stA 45)) (FuncBody.stmts (bodOf (stA 45))) (scpOf (stA 45)) 3 [] @PySem.Value.none @PySem.Value.none @PySem.Value.none (@PySem.Value.str (S "cpy313.wave") 1237) (@Option.none @Nat) (@PySem.Value.ref 787) @PySem.Value.none 0)) (@List.toArray (@Option @PySem.Value) []))) ::
(nat_lit 789, (@PySem.Obj.mk (@PySem.Value.type "tuple") (@Option.none @Nat) (@PySem.Data.seq (@List.toArray @PySem.Value []) 0) (@List.toArray (@Option @PySem.Value) []))) ::
(nat_lit 791, (@PySem.Obj.mk (@PySem.Value.type "tuple") (@Option.none @Nat) (@PySem.Data.seq (@List.toArray @PySem.Value [(@PySem.Value.str (S "x") 1255), (@PySem.Value.str (S "sign") 1256)]) 0) (@List.toArray (@Option @PySem.Value) []))) ::
(nat_lit 792, (@PySem.Obj.mk (@PySem.Value.type "tuple") (@Option.none @Nat) (@PySem.Data.seq (@List.toArray @PySem.Value []) 0) (@List.toArray (@Option @PySem.Value) []))) ::
(nat_lit 794, (@PySem.Obj.mk (@PySem.Value.type "code") (@Option.none @Nat) (@PySem.Data.fields (@List.toArray @PySem.Value [(@PySem.Value.str (S "_law_sign") 1252), (@PySem.Value.str (S "_law_sign") 1253), (@PySem.Value.str (S "/claim/cut.py") 1254), (@PySem.Value.int 778 0), (@PySem.Value.int 1 0), (@PySem.Value.int 0 0), (@PySem.Value.int 0 0), (@PySem.Value.int 3 0), (@PySem.Value.ref 789), (@PySem.Value.bool @Bool.true), (@PySem.Value.int 273 0), (@PySem.Value.ref 790), @PySem.Value.none, (@PySem.Value.ref 791), (@PySem.Value.ref 792), (@PySem.Value.ref 793), (@PySem.Value.int 1257 0), (@PySem.Value.int 778 0), (@PySem.Value.str (S "/claim/cut.py") 1258)])) (@List.toArray (@Option @PySem.Value) []))) ::
(nat_lit 795, (@Obj.mk (@PySem.Value.type "function") (@Option.none @Nat) (Data.func (@FuncData.mk (S "_law_sign") (S "_law_sign") (prmOf (stA 47)) (FuncBody.stmts (bodOf (stA 47))) (scpOf (stA 47)) 3 [] @PySem.Value.none @PySem.Value.none @PySem.Value.none (@PySem.Value.str (S "law_op0238_01") 1250) (@Option.none @Nat) (@PySem.Value.ref 794) @PySem.Value.none 0)) (@List.toArray (@Option @PySem.Value) []))) ::
(nat_lit 796, (@PySem.Obj.mk (@PySem.Value.type "tuple") (@Option.none @Nat) (@PySem.Data.seq (@List.toArray @PySem.Value []) 0) (@List.toArray (@Option @PySem.Value) []))) ::
(nat_lit 798, (@PySem.Obj.mk (@PySem.Value.type "tuple") (@Option.none @Nat) (@PySem.Data.seq (@List.toArray @PySem.Value [(@PySem.Value.str (S "text") 1263)]) 0) (@List.toArray (@Option @PySem.Value) []))) ::
(nat_lit 799, (@PySem.Obj.mk (@PySem.Value.type "tuple") (@Option.none @Nat) (@PySem.Data.seq (@List.toArray @PySem.Value []) 0) (@List.toArray (@Option @PySem.Value) []))) ::
(nat_lit 801, (@PySem.Obj.mk (@PySem.Value.type "code") (@Option.none @Nat) (@PySem.Data.fields (@List.toArray @PySem.Value [(@PySem.Value.str (S "_law_split") 1260), (@PySem.Value.str (S "_law_split") 1261), (@PySem.Value.str (S "/claim/cut.py") 1262), (@PySem.Value.int 787 0), (@PySem.Value.int 1 0), (@PySem.Value.int 0 0), (@PySem.Value.int 0 0), (@PySem.Value.int 3 0), (@PySem.Value.ref 796), (@PySem.Value.bool @Bool.true), (@PySem.Value.int 273 0), (@PySem.Value.ref 797), @PySem.Value.none, (@PySem.Value.ref 798), (@PySem.Value.ref 799), (@PySem.Value.ref 800), (@PySem.Value.int 1264 0), (@PySem.Value.int 787 0), (@PySem.Value.str (S "/claim/cut.py") 1265)])) (@List.toArray (@Option @PySem.Value) []))) ::
(nat_lit 802, (@Obj.mk (@PySem.Value.type "function") (@Option.none @Nat) (Data.func (@FuncData.mk (S "_law_split") (S "_law_split") (prmOf (stA 48)) (FuncBody.stmts (bodOf (stA 48))) (scpOf (stA 48)) 3 [] @PySem.Value.none @PySem.Value.none @PySem.Value.none (@PySem.Value.str (S "law_op0238_01") 1250) (@Option.none @Nat) (@PySem.Value.ref 801) @PySem.Value.none 0)) (@List.toArray (@Option @PySem.Value) []))) ::
(nat_lit 803, (@PySem.Obj.mk (@PySem.Value.type "tuple") (@Option.none @Nat) (@PySem.Data.seq (@List.toArray @PySem.Value []) 0) (@List.toArray (@Option @PySem.Value) []))) ::
(nat_lit 805, (@PySem.Obj.mk (@PySem.Value.type "tuple") (@Option.none @Nat) (@PySem.Data.seq (@List.toArray @PySem.Value [(@PySem.Value.str (S "text") 1270), (@PySem.Value.str (S "words") 1271), (@PySem.Value.str (S "word") 1272), (@PySem.Value.str (S "k") 1273), (@PySem.Value.str (S "end") 1274)]) 0) (@List.toArray (@Option @PySem.Value) []))) ::
(nat_lit 806, (@PySem.Obj.mk (@PySem.Value.type "tuple") (@Option.none @Nat) (@PySem.Data.seq (@List.toArray @PySem.Value []) 0) (@List.toArray (@Option @PySem.Value) []))) ::
(nat_lit 808, (@PySem.Obj.mk (@PySem.Value.type "code") (@Option.none @Nat) (@PySem.Data.fields (@List.toArray @PySem.Value [(@PySem.Value.str (S "_law_read") 1267), (@PySem.Value.str (S "_law_read") 1268), (@PySem.Value.str (S "/claim/cut.py") 1269), (@PySem.Value.int 792 0), (@PySem.Value.int 1 0), (@PySem.Value.int 0 0), (@PySem.Value.int 0 0), (@PySem.Value.int 3 0), (@PySem.Value.ref 803), (@PySem.Value.bool @Bool.true), (@PySem.Value.int 273 0), (@PySem.Value.ref 804), @PySem.Value.none, (@PySem.Value.ref 805), (@PySem.Value.ref 806), (@PySem.Value.ref 807), (@PySem.Value.int 1275 0), (@PySem.Value.int 792 0), (@PySem.Value.str (S "/claim/cut.py") 1276)])) (@List.toArray (@Option @PySem.Value) []))) ::
(nat_lit 809, (@Obj.mk (@PySem.Value.type "function") (@Option.none @Nat) (Data.func (@FuncData.mk (S "_law_read") (S "_law_read") (prmOf (stA 49)) (FuncBody.stmts (bodOf (stA 49))) (scpOf (stA 49)) 3 [] @PySem.Value.none @PySem.Value.none @PySem.Value.none (@PySem.Value.str (S "law_op0238_01") 1250) (@Option.none @Nat) (@PySem.Value.ref 808) @PySem.Value.none 0)) (@List.toArray (@Option @PySem.Value) []))) ::
(nat_lit 810, (@PySem.Obj.mk (@PySem.Value.type "tuple") (@Option.none @Nat) (@PySem.Data.seq (@List.toArray @PySem.Value []) 0) (@List.toArray (@Option @PySem.Value) []))) ::
(nat_lit 813, (@PySem.Obj.mk (@PySem.Value.type "code") (@Option.none @Nat) (@PySem.Data.fields (@List.toArray @PySem.Value [(@PySem.Value.str (S "_law_mirror") 1278), (@PySem.Value.str (S "_law_mirror") 1279), (@PySem.Value.str (S "/claim/cut.py") 1280), (@PySem.Value.int 813 0), (@PySem.Value.int 1 0), (@PySem.Value.int 0 0), (@PySem.Value.int 0 0), (@PySem.Value.int 3 0), (@PySem.Value.ref 810), (@PySem.Value.bool @Bool.true), (@PySem.Value.int 273 0), (@PySem.Value.ref 811), @PySem.Value.none, @PySem.Value.none, @PySem.Value.none, (@PySem.Value.ref 812), (@PySem.Value.int 1281 0), (@PySem.Value.int 813 0), (@PySem.Value.str (S "/claim/cut.py") 1282)])) (@List.toArray (@Option @PySem.Value) []))) ::
(nat_lit 814, (@Obj.mk (@PySem.Value.type "function") (@Option.none @Nat) (Data.func (@FuncData.mk (S "_law_mirror") (S "_law_mirror") (prmOf (stA 50)) (FuncBody.stmts (bodOf (stA 50))) (scpOf (stA 50)) 3 [] @PySem.Value.none @PySem.Value.none @PySem.Value.none (@PySem.Value.str (S "law_op0238_01") 1250) (@Option.none @Nat) (@PySem.Value.ref 813) @PySem.Value.none 0)) (@List.toArray (@Option @PySem.Value) []))) ::
(nat_lit 815, (@PySem.Obj.mk (@PySem.Value.type "tuple") (@Option.none @Nat) (@PySem.Data.seq (@List.toArray @PySem.Value []) 0) (@List.toArray (@Option @PySem.Value) []))) ::
(nat_lit 817, (@PySem.Obj.mk (@PySem.Value.type "tuple") (@Option.none @Nat) (@PySem.Data.seq (@List.toArray @PySem.Value [(@PySem.Value.str (S "text") 1287), (@PySem.Value.str (S "owner") 1288), (@PySem.Value.str (S "group") 1289), (@PySem.Value.str (S "others") 1290), (@PySem.Value.str (S "sign") 1291)]) 0) (@List.toArray (@Option @PySem.Value) []))) ::
(nat_lit 818, (@PySem.Obj.mk (@PySem.Value.type "tuple") (@Option.none @Nat) (@PySem.Data.seq (@List.toArray @PySem.Value []) 0) (@List.toArray (@Option @PySem.Value) []))) ::
(nat_lit 820, (@PySem.Obj.mk (@PySem.Value.type "code") (@Option.none @Nat) (@PySem.Data.fields (@List.toArray @PySem.Value [(@PySem.Value.str (S "_law_moved") 1284), (@PySem.Value.str (S "_law_moved") 1285), (@PySem.Value.str (S "/claim/cut.py") 1286), (@PySem.Value.int 817 0), (@PySem.Value.int 1 0), (@PySem.Value.int 0 0), (@PySem.Value.int 0 0), (@PySem.Value.int 3 0), (@PySem.Value.ref 815), (@PySem.Value.bool @Bool.true), (@PySem.Value.int 273 0), (@PySem.Value.ref 816), @PySem.Value.none, (@PySem.Value.ref 817), (@PySem.Value.ref 818), (@PySem.Value.ref 819), (@PySem.Value.int 1292 0), (@PySem.Value.int 817 0), (@PySem.Value.str (S "/claim/cut.py") 1293)])) (@List.toArray (@Option @PySem.Value) []))) ::
(nat_lit 821, (@Obj.mk (@PySem.Value.type "function") (@Option.none @Nat) (Data.func (@FuncData.mk (S "_law_moved") (S "_law_moved") (prmOf (stA 51)) (FuncBody.stmts (bodOf (stA 51))) (scpOf (stA 51)) 3 [] @PySem.Value.none @PySem.Value.none @PySem.Value.none (@PySem.Value.str (S "law_op0238_01") 1250) (@Option.none @Nat) (@PySem.Value.ref 820) @PySem.Value.none 0)) (@List.toArray (@Option @PySem.Value) []))) ::
(nat_lit 822, (@PySem.Obj.mk (@PySem.Value.type "tuple") (@Option.none @Nat) (@PySem.Data.seq (@List.toArray @PySem.Value []) 0) (@List.toArray (@Option @PySem.Value) []))) ::
(nat_lit 824, (@PySem.Obj.mk (@PySem.Value.type "tuple") (@Option.none @Nat) (@PySem.Data.seq (@List.toArray @PySem.Value [(@PySem.Value.str (S "upper") 1298), (@PySem.Value.str (S "rights") 1299), (@PySem.Value.str (S "row") 1300), (@PySem.Value.str (S "place") 1301), (@PySem.Value.str (S "last") 1302), (@PySem.Value.str (S "figure") 1303)]) 0) (@List.toArray (@Option @PySem.Value) []))) ::
(nat_lit 825, (@PySem.Obj.mk (@PySem.Value.type "tuple") (@Option.none @Nat) (@PySem.Data.seq (@List.toArray @PySem.Value []) 0) (@List.toArray (@Option @PySem.Value) []))) ::
(nat_lit 827, (@PySem.Obj.mk (@PySem.Value.type "code") (@Option.none @Nat) (@PySem.Data.fields (@List.toArray @PySem.Value [(@PySem.Value.str (S "_law_row") 1295), (@PySem.Value.str (S "_law_row") 1296), (@PySem.Value.str (S "/claim/cut.py") 1297), (@PySem.Value.int 825 0), (@PySem.Value.int 2 0), (@PySem.Value.int 0 0), (@PySem.Value.int 0 0), (@PySem.Value.int 3 0), (@PySem.Value.ref 822), (@PySem.Value.bool @Bool.true), (@PySem.Value.int 273 0), (@PySem.Value.ref 823), @PySem.Value.none, (@PySem.Value.ref 824), (@PySem.Value.ref 825), (@PySem.Value.ref 826), (@PySem.Value.int 1304 0), (@PySem.Value.int 825 0), (@PySem.Value.str (S "/claim/cut.py") 1305)])) (@List.toArray (@Option @PySem.Value) []))) ::
(nat_lit 828, (@Obj.mk (@PySem.Value.type "function") (@Option.none @Nat) (Data.func (@FuncData.mk (S "_law_row") (S "_law_row") (prmOf (stA 52)) (FuncBody.stmts (bodOf (stA 52))) (scpOf (stA 52)) 3 [] @PySem.Value.none @PySem.Value.none @PySem.Value.none (@PySem.Value.str (S "law_op0238_01") 1250) (@Option.none @Nat) (@PySem.Value.ref 827) @PySem.Value.none 0)) (@List.toArray (@Option @PySem.Value) []))) ::
(nat_lit 829, (@PySem.Obj.mk (@PySem.Value.type "tuple") (@Option.none @Nat) (@PySem.Data.seq (@List.toArray @PySem.Value []) 0) (@List.toArray (@Option @PySem.Value) []))) ::
(nat_lit 831, (@PySem.Obj.mk (@PySem.Value.type "tuple") (@Option.none @Nat) (@PySem.Data.seq (@List.toArray @PySem.Value [(@PySem.Value.str (S "upper") 1310), (@PySem.Value.str (S "rights") 1311)]) 0) (@List.toArray (@Option @PySem.Value) []))) ::
(nat_lit 832, (@PySem.Obj.mk (@PySem.Value.type "tuple") (@Option.none @Nat) (@PySem.Data.seq (@List.toArray @PySem.Value []) 0) (@List.toArray (@Option @PySem.Value) []))) ::
(nat_lit 834, (@PySem.Obj.mk (@PySem.Value.type "code") (@Option.none @Nat) (@PySem.Data.fields (@List.toArray @PySem.Value [(@PySem.Value.str (S "_law_mode") 1307), (@PySem.Value.str (S "_law_mode") 1308), (@PySem.Value.str (S "/claim/cut.py") 1309), (@PySem.Value.int 834 0), (@PySem.Value.int 2 0), (@PySem.Value.int 0 0), (@PySem.Value.int 0 0), (@PySem.Value.int 3 0), (@PySem.Value.ref 829), (@PySem.Value.bool @Bool.true), (@PySem.Value.int 273 0), (@PySem.Value.ref 830), @PySem.Value.none, (@PySem.Value.ref 831), (@PySem.Value.ref 832), (@PySem.Value.ref 833), (@PySem.Value.int 1312 0), (@PySem.Value.int 834 0), (@PySem.Value.str (S "/claim/cut.py") 1313)])) (@List.toArray (@Option @PySem.Value) []))) ::
(nat_lit 835, (@Obj.mk (@PySem.Value.type "function") (@Option.none @Nat) (Data.func (@FuncData.mk (S "_law_mode") (S "_law_mode") (prmOf (stA 53)) (FuncBody.stmts (bodOf (stA 53))) (scpOf (stA 53)) 3 [] @PySem.Value.none @PySem.Value.none @PySem.Value.none (@PySem.Value.str (S "law_op0238_01") 1250) (@Option.none @Nat) (@PySem.Value.ref 834) @PySem.Value.none 0)) (@List.toArray (@Option @PySem.Value) []))) ::
(nat_lit 836, (@PySem.Obj.mk (@PySem.Value.type "tuple") (@Option.none @Nat) (@PySem.Data.seq (@List.toArray @PySem.Value []) 0) (@List.toArray (@Option @PySem.Value) []))) ::
(nat_lit 839, (@PySem.Obj.mk (@PySem.Value.type "code") (@Option.none @Nat) (@PySem.Data.fields (@List.toArray @PySem.Value [(@PySem.Value.str (S "law") 1315), (@PySem.Value.str (S "law") 1316), (@PySem.Value.str (S "/claim/cut.py") 1317), (@PySem.Value.int 836 0), (@PySem.Value.int 1 0), (@PySem.Value.int 0 0), (@PySem.Value.int 0 0), (@PySem.Value.int 3 0), (@PySem.Value.ref 836), (@PySem.Value.bool @Bool.true), (@PySem.Value.int 273 0), (@PySem.Value.ref 837), @PySem.Value.none, @PySem.Value.none, @PySem.Value.none, (@PySem.Value.ref 838), (@PySem.Value.int 1318 0), (@PySem.Value.int 836 0), (@PySem.Value.str (S "/claim/cut.py") 1319)])) (@List.toArray (@Option @PySem.Value) []))) ::
(nat_lit 840, (@Obj.mk (@PySem.Value.type "function") (@Option.none @Nat) (Data.func (@FuncData.mk (S "law") (S "law") (prmOf (stA 54)) (FuncBody.stmts (bodOf (stA 54))) (scpOf (stA 54)) 3 [] @PySem.Value.none @PySem.Value.none @PySem.Value.none (@PySem.Value.str (S "law_op0238_01") 1250) (@Option.none @Nat) (@PySem.Value.ref 839) @PySem.Value.none 0)) (@List.toArray (@Option @PySem.Value) []))) :: []
noncomputable def as1 : List Addr := [2, 3, 33, 35, 36, 38, 39, 40, 42, 43, 45, 46, 47, 49, 50, 52, 53, 62, 63, 64, 74, 76, 77, 79, 80, 82, 83, 84, 85, 86, 97, 98, 109, 110, 339, 340, 350, 351, 353, 354, 356, 357, 358, 360, 361, 363, 364, 365, 367, 368, 370, 371, 526, 527, 529, 530, 532, 533, 586, 587, 590, 592, 593, 595, 596, 597, 599, 600, 602, 603, 604, 606, 607, 609, 610, 611, 613, 614, 616, 617, 618, 620, 621, 623, 624, 625, 627, 628, 630, 631, 639, 640, 642, 643, 645, 646, 647, 649, 650, 652, 653, 654, 655, 657, 658, 660, 661, 662, 663, 665, 666, 668, 669, 670, 672, 673, 675, 676, 677, 679, 680, 682, 683, 684, 686, 687, 689, 690, 691, 693, 694, 696, 697, 698, 699, 701, 702, 704, 705, 706, 708, 709, 711, 712, 713, 715, 716, 718, 719, 721, 722, 723, 724, 727, 728, 730, 731, 733, 734, 735, 737, 738, 740, 741, 742, 743, 744, 745, 746, 747, 748, 749, 750, 751, 752, 753, 754, 755, 756, 757, 758, 759, 760, 761, 762, 763, 764, 765, 766, 767, 768, 769, 770, 771, 772, 773, 774, 775, 777, 778, 780, 781, 782, 784, 785, 787, 788, 789, 791, 792, 794, 795, 796, 798, 799, 801, 802, 803, 805, 806, 808, 809, 810, 813, 814, 815, 817, 818, 820, 821, 822, 824, 825, 827, 828, 829, 831, 832, 834, 835, 836, 839, 840]
theorem as1_eq (P : Params) : as1 = (K1 P).map (·.1) := by kernel_rfl
end KK_
section HeadA_
open PySem PySem.W PyProof.Rows

noncomputable def build : BT → Nat → List Obj → BT
  | t, _, [] => t
  | t, n, o :: l => build (t.ins n o) (n + 1) l
noncomputable def toT (s : Shared) : SharedT := ⟨build .nil 0 s.heap.objs.toList, s.heap.objs.size, s.heap.life, s.gens, s.drawn, s.toks, s.os⟩
theorem ins_some (o : Obj) : ∀ (t : BT) (n : Nat), (∀ i, i < n → (t.get i).isSome = true) → ((t.ins n o).get n).isSome = true
  | .nil, n, h => by
    cases n with
    | zero => rfl
    | succ n => have := h 0 (Nat.succ_pos _); cases this
  | .node v l r, n, h => by
    rw [BT.ins_node]
    by_cases e : n = 0
    · subst e; rfl
    · rw [if_neg e]
      by_cases q : n % 2 = 1
      · rw [if_pos q, BT.get_node, if_neg e, if_pos q]
        refine ins_some o l _ fun i hi => ?_
        have := h (2 * i + 1) (by omega)
        rw [BT.get_node, if_neg (by omega), if_pos (by omega), show (2 * i + 1) / 2 = i by omega] at this
        exact this
      · rw [if_neg q, BT.get_node, if_neg e, if_neg q]
        refine ins_some o r _ fun i hi => ?_
        have := h (2 * i + 2) (by omega)
        rw [BT.get_node, if_neg (by omega), if_neg (by omega), show (2 * i + 2) / 2 - 1 = i by omega] at this
        exact this
theorem abs_build (life : Life) : ∀ (l : List Obj) (t : BT) (n : Nat), (∀ i, i < n → (t.get i).isSome = true) → absHeap (build t n l) (n + l.length) life = ⟨(absHeap t n life).objs ++ l.toArray, life⟩
  | [], t, n, h => by simp [build, absHeap]
  | o :: l, t, n, h => by
    have g := ins_some o t n h
    have h' : ∀ i, i < n + 1 → ((t.ins n o).get i).isSome = true := fun i hi => by
      rw [BT.get_ins o t n g]
      by_cases e : i = n
      · simp [e]
      · rw [if_neg e]; exact h i (by omega)
    have := abs_build life l (t.ins n o) (n + 1) h'
    rw [show n + (o :: l).length = n + 1 + l.length by simp; omega]
    show absHeap (build (t.ins n o) (n + 1) l) _ _ = _
    rw [this, absHeap_ins g]
    show Heap.mk _ _ = Heap.mk _ _
    congr 1
    show (absHeap t n life).objs.push o ++ _ = _
    simp
theorem abs_toT (s : Shared) : (toT s).abs = s := by
  obtain ⟨⟨objs, life⟩, gens, drawn, toks, os⟩ := s
  have := abs_build life objs.toList .nil 0 (fun i hi => absurd hi (Nat.not_lt_zero _))
  unfold toT SharedT.abs
  dsimp only
  rw [show objs.size = 0 + objs.toList.length by simp, this]
  simp [absHeap, BT.list]
end HeadA_
section HeadB_
open PySem PySem.W PyProof.Rows
set_option maxRecDepth 100000
set_option maxHeartbeats 8000000

noncomputable abbrev tbF := PySem.W.Fast.tw14364793385576792824
noncomputable def topRunT (p : Program) (w : World) (n₀ : Nat) (ann : Option Value) : Nat → SharedT → Thread → Option SharedT
  | 0, _, _ => none
  | n + 1, s, t => match through t with
    | true => some s
    | false => match PySem.W.Fast.tw6613529449190102663 n₀ ann t with
      | false => none
      | true => match PySem.W.Fast.tw10156331382660048174 (PySem.W.Fast.tw11892475500146522536 tbF) p w s t with
        | some (s', t') => topRunT p w n₀ ann n s' t'
        | none => none
theorem topRunT_of {p : Program} {w : World} {n₀ : Nat} {ann : Option Value} : ∀ {n : Nat} {s s' : SharedT} {t : Thread}, topRunT p w n₀ ann n s t = some s' → topRun treeTable p w n₀ ann n s.abs t = some s'.abs
  | 0, _, _, _, h => by cases h
  | n + 1, s, s', t, h => by
    unfold topRunT at h
    unfold topRun
    rw [← PySem.W.Fast.te6613529449190102663, ← PySem.W.Fast.te10156331382660048174, ← PySem.W.Fast.te11892475500146522536, show tbF = treeTable from PySem.W.Fast.te14364793385576792824.symm] at h
    cases he : through t with
    | true => rw [he] at h; cases h; rfl
    | false =>
      rw [he] at h
      cases hk : stepOk n₀ ann t with
      | false => rw [hk] at h; cases h
      | true =>
        rw [hk] at h
        cases hs : stepT (denote treeTable) p w s t with
        | none => rw [hs] at h; cases h
        | some r => obtain ⟨s₂, t₂⟩ := r; rw [hs] at h; rw [stepT_spec hs]; exact topRunT_of h
end HeadB_
section HeadC_
open PySem PySem.W PyProof.Rows
set_option maxRecDepth 100000
set_option maxHeartbeats 8000000

noncomputable abbrev lzz : List Str := [Str.ofString "UnsupportedOperation", Str.ofString "IOBase", Str.ofString "BufferedIOBase",
        Str.ofString "TextIOBase", Str.ofString "BytesIO", Str.ofString "StringIO", Str.ofString "shlex",
        Str.ofString "split", Str.ofString "_filemode_table"]
theorem k1_live (P : Params) : ((K1 P).all fun p => match p.2.data with | .freed => false | _ => true) = true := by kernel_rfl
/-- the top's run: ahead of it and behind it -/
noncomputable def theRun (w : World) : Option (Shared × SharedT) := ((PySem.W.Fast.tw10274390034422433532 tbF (opening pp) w 6000 (start (opening pp)).1 (start (opening pp)).2).bind (PySem.W.Fast.tw14289696077712309145 pp)).bind fun s0 =>
    (topRunT pp w 29 (some (.ref 6)) 6000 (toT s0) (topStub pp)).map fun sT => (s0, sT)
noncomputable abbrev seenT (s : Shared) := PySem.W.Fast.tw4187177175401517315 q1 lzz (importedModules pp.main.body) (fun _ => true) true s
theorem run_a : ∀ w : World, (theRun w).map (fun p => ((p.1.heap.isNs mainGlobals && p.1.gens.size == 0), p.1.heap.objs.size, p.1.heap.nsMap mainGlobals (Str.ofString "__annotations__"),
      (staticsOk (importedModules pp.main.body) p.1.heap p.2.abs.heap && namesBound pp p.2.abs.heap && gensDone p.2.abs && laidKept p.1.heap p.2.abs.heap),
      (as1.map fun a => (p.2.tree.get a, decide (a < p.2.n))), (seenT p.2.abs).2.1, (seenT p.2.abs).2.2.2.2.2.1, (seenT p.2.abs).2.2.2.2.2.2.1, (seenT p.2.abs).2.2.2.2.2.2.2.2, (seenT p.2.abs).2.2.2.1)) =
    some (true, 29, some (.ref 6), true, (K1 w.params).map (fun p => (some p.2, true)), bltViewBooted, plainGoodE q1 (looseW q1 lzz), plainGoodD q1 lzz, clsGoodW q1 lzz, true) := by
  intro w; kernel_rfl
theorem run_b : ∀ w : World, (theRun w).map (fun p => ((seenT p.2.abs).1, (seenT p.2.abs).2.2.2.2.1, (seenT p.2.abs).2.2.2.2.2.2.2.1)) = some (expectedOf q1, pinGoodD (drecsOf q1), wideGood q1) := by
  intro w; kernel_rfl
theorem run_c : ∀ w : World, (theRun w).map (fun p => (seenT p.2.abs).2.2.1) = some true := by
  intro w; kernel_rfl
theorem run_split {α β γ : Type} (A : Option α) (X : α → Option β) (g : α → β → γ) : (A.bind fun a => (X a).map fun b => g a b) = ((A.bind fun a => (X a).map fun b => (a, b)).map fun p => g p.1 p.2) := by
  cases A with
  | none => rfl
  | some a =>
    show (X a).map _ = ((X a).map _).map _
    cases X a <;> rfl
theorem seen_ext {A B C D E F G H I : Type} {x : A × B × C × D × E × F × G × H × I} {a : A} {b : B} {c : C} {d : D} {e : E} {f : F} {g : G} {h : H} {i : I} (h1 : x.1 = a) (h2 : x.2.1 = b) (h3 : x.2.2.1 = c) (h4 : x.2.2.2.1 = d) (h5 : x.2.2.2.2.1 = e) (h6 : x.2.2.2.2.2.1 = f) (h7 : x.2.2.2.2.2.2.1 = g) (h8 : x.2.2.2.2.2.2.2.1 = h) (h9 : x.2.2.2.2.2.2.2.2 = i) : x = (a, b, c, d, e, f, g, h, i) := by
  obtain ⟨_, _, _, _, _, _, _, _, _⟩ := x
  subst h1 h2 h3 h4 h5 h6 h7 h8 h9
  rfl
theorem run1 : ∀ w : World, (((PySem.W.Fast.tw10274390034422433532 tbF (opening pp) w 6000 (start (opening pp)).1 (start (opening pp)).2).bind (PySem.W.Fast.tw14289696077712309145 pp)).bind fun s0 =>
    (topRunT pp w 29 (some (.ref 6)) 6000 (toT s0) (topStub pp)).map fun sT => ((s0.heap.isNs mainGlobals && s0.gens.size == 0), s0.heap.objs.size, s0.heap.nsMap mainGlobals (Str.ofString "__annotations__"),
      (staticsOk (importedModules pp.main.body) s0.heap sT.abs.heap && namesBound pp sT.abs.heap && gensDone sT.abs && laidKept s0.heap sT.abs.heap),
      PySem.W.Fast.tw4187177175401517315 q1 lzz (importedModules pp.main.body) (fun _ => true) true sT.abs, as1.map fun a => (sT.tree.get a, decide (a < sT.n)))) =
    some (true, 29, some (.ref 6), true, openGood q1 lzz, (K1 w.params).map (fun p => (some p.2, true))) := by
  intro w
  rw [run_split]
  show (theRun w).map _ = _
  have ha := run_a w
  have hb := run_b w
  have hc := run_c w
  obtain ⟨p, hp, ea⟩ := Option.map_eq_some_iff.mp ha
  rw [hp] at hb hc ⊢
  have eb := Option.some.inj hb
  have ec := Option.some.inj hc
  clear ha hb hc hp
  refine congrArg some ?_
  simp only [Prod.mk.injEq] at ea eb
  obtain ⟨a1, a2, a3, a4, a5, a6, a7, a8, a9, c2⟩ := ea
  obtain ⟨b1, b2, b3⟩ := eb
  exact Prod.ext a1 (Prod.ext a2 (Prod.ext a3 (Prod.ext a4 (Prod.ext (seen_ext b1 a6 ec c2 b2 a7 a8 b3 a9) a5))))
end HeadC_
section HeadD_
open PySem PySem.W PyProof.Rows
set_option maxRecDepth 100000
set_option maxHeartbeats 8000000

theorem k_looks {w : World} {sT : SharedT} (h : (as1.map fun a => (sT.tree.get a, decide (a < sT.n))) = (K1 w.params).map (fun p => (some p.2, true))) : as1.map sT.abs.heap.get? = (K1 w.params).map (fun p => some p.2) := by
  rw [as1_eq w.params, List.map_map] at h ⊢
  have h := List.map_inj_left.mp h
  refine List.map_inj_left.mpr fun p hp => ?_
  have e := h p hp
  simp only [Function.comp, Prod.mk.injEq, decide_eq_true_eq] at e ⊢
  have hl := List.all_eq_true.mp (k1_live w.params) p hp
  have ha := absHeap_at sT.tree sT.n sT.life p.1
  rw [if_pos e.2, e.1, Option.getD_some] at ha
  show Heap.get? (absHeap sT.tree sT.n sT.life) p.1 = some p.2
  unfold Heap.get?
  rw [ha]
  obtain ⟨a, c, dd, data, sl⟩ := p
  cases data <;> first | rfl | cases hl
theorem left1 : LeftO pp q1 lzz (fun _ => true) (kHook K1 as1 as1_eq).obs (kHook K1 as1 as1_eq).val 6000 := by
  intro w
  have h := run1 w
  rw [← PySem.W.Fast.te10274390034422433532, ← PySem.W.Fast.te14289696077712309145, ← PySem.W.Fast.te4187177175401517315, show tbF = treeTable from PySem.W.Fast.te14364793385576792824.symm] at h
  obtain ⟨s0, h0, h1⟩ := Option.bind_eq_some_iff.mp h
  obtain ⟨sT, h2, h3⟩ := Option.map_eq_some_iff.mp h1
  simp only [Prod.mk.injEq] at h3
  obtain ⟨a1, a2, a3, a4, a5, a6⟩ := h3
  have r := topRunT_of h2
  rw [abs_toT] at r
  have t : topFrom treeTable pp w 6000 s0 = some sT.abs := by
    unfold topFrom
    rw [a1, a2, a3, r]
    show (match _ with | true => _ | false => _) = _
    rw [a4]
  unfold openEnds fencedOpening
  rw [h0]
  show (topFrom treeTable pp w 6000 s0).map _ = _
  rw [t]
  exact congrArg some (Prod.ext a5 (k_looks a6))
end HeadD_
section HeadE_
open PySem PySem.W PyProof.Rows PySem.Calls
set_option maxRecDepth 100000

open Sem in
/-- a code that no look of a bytearray's exports minds -/
noncomputable def calmC : Code → Bool
  | .builtin id _ => !(["bytearray.__contains__", "bytearray.__mod__", "bytearray.__rmod__", "_struct.pack_into.held", "bytearray.find.held"].contains id || PySem.Builtin.Bytes.decodersThatHold.contains id)
  | _ => true
noncomputable def Clean (Γ : Ctx) : Prop := calmC Γ.code = true ∧ ∀ x ∈ Γ.below, calmC x.1 = true
noncomputable def wpCl {α : Type} (M : Model) (A : Around) (t : Sem α) (Q : α → Shared → Prop) (E : Value → Shared → Prop) (s : Shared) : Prop :=
  ∀ Γ p, Γ.In A → Clean Γ → Sem.wp M Γ t (fun a _ s' => Q a s') (fun e _ s' => E e s') p s
noncomputable def codeCl (M : Model) (A : Around) (c : Code) (R : Result → Shared → Prop) (s : Shared) : Prop :=
  ∀ Γ p, Γ.code = c → Γ.Below A → Clean Γ → wpCode M Γ R p s
section
variable {α β : Type} {M : Model} {A : Around} {E : Value → Shared → Prop} {s : Shared}
theorem wpCl_any {t : Sem α} {Q : α → Shared → Prop} (h : wpAny M A t Q E s) : wpCl M A t Q E s := fun Γ p hΓ _ => h Γ p hΓ
theorem codeCl_any {c : Code} {R : Result → Shared → Prop} (h : codeAny M A c R s) : codeCl M A c R s := fun Γ p hc hΓ _ => h Γ p hc hΓ
theorem wpCl_mono {t : Sem α} {Q Q' : α → Shared → Prop} {E' : Value → Shared → Prop} (h : wpCl M A t Q E s)
    (hQ : ∀ a s, Q a s → Q' a s) (hE : ∀ e s, E e s → E' e s) : wpCl M A t Q' E' s :=
  fun Γ p hΓ hc => Sem.wp_mono M Γ t (fun a _ s => hQ a s) (fun e _ s => hE e s) p s (h Γ p hΓ hc)
theorem wpCl_bind {m : Sem α} {f : α → Sem β} {Q : β → Shared → Prop} (h : wpCl M A m (fun a s' => wpCl M A (f a) Q E s') E s) :
    wpCl M A (m >>= f) Q E s := fun Γ p hΓ hc => by
  rw [Sem.wp_bind']
  exact Sem.wp_mono M Γ m (fun a p' s' h' => h' Γ p' hΓ hc) (fun _ _ _ h' => h') p s (h Γ p hΓ hc)
theorem wpCl_onRaise {m : Sem α} {k : Value → Sem Unit} {Q : α → Shared → Prop}
    (h : wpCl M A m Q (fun e s' => wpCl M A (k e) (fun _ s'' => E e s'') E s') s) : wpCl M A (m.onRaise k) Q E s := fun Γ p hΓ hc => by
  rw [Sem.wp_onRaise]
  exact Sem.wp_mono M Γ m (fun _ _ _ h' => h') (fun e p' s' h' => h' Γ p' hΓ hc) p s (h Γ p hΓ hc)
theorem Clean.enter {Γ : Ctx} (h : Clean Γ) {c : Code} (hc : calmC c = true) (hd : Option Value) (p : Pos) : Clean (Γ.enter c hd p) :=
  ⟨hc, fun x hx => by
    rcases List.mem_cons.mp hx with rfl | hx
    · exact h.1
    · exact h.2 x hx⟩
theorem Clean.goto {Γ : Ctx} (h : Clean Γ) {c : Code} (hc : calmC c = true) : Clean (Γ.goto c) := ⟨hc, h.2⟩
theorem wpCl_run {c : Code} {h : Option Value} {Q : Flow → Shared → Prop} (hq : calmC c = true)
    (hc : codeCl M (A.mark h) c (fun r s' => match r with | .ok f => Q f s' | .error e => E e s') s) (hnb : h ≠ some byPass := by intro x; cases x) :
    wpCl M A (run c h) Q E s :=
  fun Γ p hΓ hΓc => by rw [Sem.wp_run]; exact hc _ p rfl (hΓ.enter c h p hnb) (hΓc.enter hq h p)
theorem wpCl_runValue {c : Code} {Q : Value → Shared → Prop} (hq : calmC c = true)
    (hc : codeCl M A c (fun r s' => match r with | .ok (.ret v) => Q v s' | .ok _ => False | .error e => E e s') s) :
    wpCl M A (runValue c) Q E s := fun Γ p hΓ hΓc => by rw [Sem.wp_runValue]; exact hc _ p rfl (hΓ.enter c none p (by intro x; cases x)) (hΓc.enter hq none p)
theorem wpCl_call {f : Value} {pos : List Value} {kw : List (Str × Value)} {Q : Value → Shared → Prop}
    (hc : codeCl M A (.call f ⟨pos, kw⟩) (fun r s' => match r with | .ok (.ret v) => Q v s' | .ok _ => False | .error e => E e s') s) :
    wpCl M A (call f pos kw) Q E s := wpCl_runValue rfl hc
theorem codeCl_mono {c : Code} {R R' : Result → Shared → Prop} (h : codeCl M A c R s) (hR : ∀ r s, R r s → R' r s) : codeCl M A c R' s :=
  fun Γ p hc hΓ hΓc => wpCode_mono hR (h Γ p hc hΓ hΓc)
theorem codeCl_of_tree {c : Code} {R : Result → Shared → Prop}
    (h : wpCl M (A.under c) (M.den c) (fun fin s' => match fin with | .done f => R (.ok f) s' | .again c' => c'.quiet = true ∧ calmC c' = true ∧ codeCl M A c' R s')
      (fun e s' => R (.error e) s') s) : codeCl M A c R s := fun Γ p hc hΓ hΓc => by
  rw [wpCode_iff_wp, hc]
  refine Sem.wp_mono M Γ _ (fun fin p' s' h' => ?_) (fun _ _ _ h' => h') p s (h Γ p (hc ▸ hΓ.in) hΓc)
  cases fin with
  | done f => exact h'
  | again c' => exact ⟨h'.1, h'.2.2 (Γ.goto c') p' rfl (hΓ.goto c') (hΓc.goto h'.2.1)⟩

end
theorem caller_clean : Clean (⟨.builtin "claim.caller" {}, none, none, [], none⟩ : Ctx) := ⟨by decide +kernel, fun _ h => (nomatch h)⟩
end HeadE_
section HeadF_
open PySem PySem.W PyProof.Rows PySem.Calls
set_option maxRecDepth 100000

/-- a claim's thread ends, its call walked on the clean stack alone -/
theorem thread_ends_cl {prog : Program} {w : World} {t : Sem Fin} {s : Shared} {R : Result → Shared → Prop} (hreg : s.asleep)
    (h : wpCl (model prog w) callerA t (fun fin s' => ∃ f, fin = .done f ∧ (R (.ok f) s' ∧ leftWithCleanup s'.gens = false)) (fun e s' => R (.error e) s' ∧ leftWithCleanup s'.gens = false) s) :
    ∃ n r s' s'', runN (denote table) prog w n s ⟨t, .builtin "claim.caller" {}, default, []⟩ = .halted (outcomeOf r) s' ∧
      schedN (denote table) prog w n (.single s ⟨t, .builtin "claim.caller" {}, default, []⟩) = .halted (outcomeOf r) s' ∧ s'.forget = s''.forget ∧ R r s'' := by
  have k : Sem.wp (model prog w) ⟨.builtin "claim.caller" {}, none, none, [], none⟩ t (Sem.finPost (model prog w) ⟨.builtin "claim.caller" {}, none, none, [], none⟩ (fun r s' => R r s' ∧ leftWithCleanup s'.gens = false))
      (fun e _ s' => R (.error e) s' ∧ leftWithCleanup s'.gens = false) default s :=
    Sem.wp_mono _ _ t (fun fin p' s' h' => by obtain ⟨f, rfl, hf⟩ := h'; exact hf) (fun _ _ _ h' => h') default s (h _ _ caller_in caller_clean)
  obtain ⟨n, r, s₁, s₂, hs, hn, hfo, hR⟩ := wp_halts_full (M := model prog w) (R := R) hreg k
  exact ⟨n, r, s₂, s₁, hn, hs, hfo, hR⟩

theorem holds_cl {r : OpenRow} {q : Program} {loose : List Str} {α : Type} {Yf : Shared → α} {Ya : World → α} {YP : World → Heap → Prop} {d : DefRec} {kwd : List (Str × Expr)} {N : Nat}
    (left : LeftO r.prog q loose (fun _ => true) Yf Ya N) (hY : ∀ w s, Yf s = Ya w → YP w s.heap) (hYk : ∀ w h h', YP w h → (∀ b o, h.get? b = some o → h'.get? b = some o) → YP w h')
    (hdef : defOf q r.name = some (d, kwd)) (hp : r.prog.theDef r.name = some (d.params, d.body, d.scope)) (hk : kwWritten? d.params.kwonlyargs d.params.kw_defaults = some kwd) (hrec : r.records = [])
    (k1 : r.wellSaid = true) (ok : (chainsOk q && opensWell r.prog && (frees r.toRowW && r.within.isEmpty)) = true) (hb : r.prog.bare) (hw : r.toRowW.promised)
    (call : ∀ (w : World) (s₀ s₁ : Shared) (mg mb : Str → Option Value), Top q (looseW q loose) (ExcName.means s₀.heap) mg mb s₁.heap → YP w s₁.heap → ∀ (a : Addr) (o : Obj) (pm cd doc dV kV : Value), s₁.heap.get? a = some o →
      o.data = .func { docDef d.name d.params d.body d.scope pm cd doc with defaults := dV, kwdefaults := kV } → s₁.heap.CodeRec cd d.name → Dflts mg s₁.heap d.params kwd dV kV → mg d.name = some (.ref a) → s₁.gens = #[] →
      ∀ (args : List WData) (vals : List Value) (as : List Addr), r.claim.pre args = true → WData.layableAll args = true → ReadsAllW r.records (classAt s₀.heap) s₁.heap vals args as → WellAll w.params s₁.heap vals args → (∀ a ∈ as, (a == sysModules) = false) →
        wpCl (model r.prog w) callerA (PySem.call (.ref a) vals) (fun v s' => GoodWG r.claim (classAt s₀.heap) (ExcName.means s₀.heap) args s₁ (.ok (.ret v)) s')
          (fun e s' => GoodWG r.claim (classAt s₀.heap) (ExcName.means s₀.heap) args s₁ (.error e) s') s₁) : r.Holds := by
  have k1' := k1
  have hwr : (!r.writes || r.records.isEmpty) = true := by rw [hrec]; simp
  obtain ⟨ok, k5⟩ := Bool.and_eq_true_iff.mp ok
  obtain ⟨hch, o1⟩ := Bool.and_eq_true_iff.mp ok
  obtain ⟨k5, k6⟩ := Bool.and_eq_true_iff.mp k5
  obtain ⟨hsame, hu, ha, hap, hm⟩ := frees_parts k5
  have hXX : ∀ s : Shared, (fun _ : Shared => true) s = true → (fun (_ : Str → Option Value) h => RecFacts r.records h) (s.heap.nsMap mainGlobals) s.heap := fun s _ => recFacts_nil hrec
  refine ⟨k1', hw, ⟨⟨hb, o1, by show r.makers.map _ = []; rw [hm]; rfl⟩, hw.witness, fun w => ⟨(left.behind (XP := fun _ h => RecFacts r.records h) hXX hch w).1, fun s' hs' => ?_⟩⟩⟩
  obtain ⟨s₀, hf, hg0, s, hT, hz, hgens, hg, G00, y⟩ := (left.behind (XP := fun _ h => RecFacts r.records h) hXX hch w).2 s' hs'
  have RF := G00.X
  have hT' := hT
  have pin : isTheDefsW r.prog s.heap r.name := pinned_of_view hg G00 hdef hp hk
  refine ⟨s₀, hf, hg0, s, hT, ?_, RF.1, RF.2.1, ?_⟩
  · intro n hn
    obtain rfl : n = r.name := by split at hn <;> simp_all
    exact pin
  have hgens : s.gens = #[] := Array.eq_empty_of_size_eq_zero (beq_iff_eq.mp hgens)
  have G : Ground q loose r.records (fun _ h => RecFacts r.records h) w s _ _ s.heap := RF.ground G00
  intro args hpre hlay ord hord
  obtain ⟨⟨vs, s₁⟩, hlaid⟩ := Option.isSome_iff_exists.mp (layAllW_isSome (P := w.params) (ord := ord) G.has args r.args s (pre_splitW hpre).1)
  have keeps := layAllW_keeps _ _ _ hlaid
  have hal := layAllW_rest _ _ _ hlaid
  obtain ⟨as, hrd, hin, hold⟩ := reads_layAllW hord _ _ _ hlaid hlay s₁.heap (fun _ _ e => e)
  have L : Laid r.records w s s₁ args vs as := ⟨⟨ord, hord, hlaid⟩, hrd, hin, hold, keeps, hal.1.trans hgens, hal.2.2.1⟩
  have G₁ := G.keeps (fun _ h h' _ _ => recFacts_nil hrec) keeps
  have hi := ident_freeW hu ha hap
  have hwi : r.claim.within = [] := List.isEmpty_iff.mp k6
  obtain ⟨a, o, pm, cd, doc, dV, kV, h1, h2, h3, h4, h5⟩ := G₁.fn hdef
  have h := call w s s₁ _ _ G₁.T (hYk _ _ _ (hY w s y) keeps) a o pm cd doc dV kV h2 h3 h4 h5 (defOf_name hdef ▸ h1) L.gens args vs as hpre hlay L.reads L.well (L.low G.low)
  let tree : List Value → Sem Fin := fun vs => do match ← nsGet mainNs r.name with
      | some f => do ret (← PySem.call f vs)
      | none => unsupported "claim.caller:no-such-global"
  let kept : Heap → Prop := fun h' => r.writes = true → namesKept r.prog r.keeps s.heap h' ∧ ∀ x ∈ r.claim.records, ∀ a, classAt s.heap x.1 = some a → recordClass h' a x.1 (x.2.map (·.1)) = true
  have fin : ∀ r' s', GoodWG r.claim (classAt s.heap) (ExcName.means s.heap) args s₁ r' s' → (r.claim.Ends s args vs s₁ r' s' ∧ s'.os = s.os ∧ kept s'.heap) ∧ leftWithCleanup s'.gens = false := fun r' s' g => by
    have z := g.laid (c := r.claim) hsame hwi hi L
    exact ⟨⟨z.1, z.2.1, fun q => ⟨namesKept_of hT' hg r.keeps keeps g.2.1.old, noTable hwr q⟩⟩, leftWithCleanup_false_of_bare z.2.2⟩
  have hcode : wpCl (model r.prog w) callerA (tree vs) (fun fin s' => ∃ f, fin = .done f ∧ ((fun r' s' => r.claim.Ends s args vs s₁ r' s' ∧ s'.os = s.os ∧ kept s'.heap) (.ok f) s' ∧ leftWithCleanup s'.gens = false))
      (fun e s' => (fun r' s' => r.claim.Ends s args vs s₁ r' s' ∧ s'.os = s.os ∧ kept s'.heap) (.error e) s' ∧ leftWithCleanup s'.gens = false) s₁ := by
    refine wpCl_bind (wpCl_any (wpAny_nsGet G₁.T.g ?_))
    rw [show s.heap.nsMap mainGlobals r.name = some (.ref a) from defOf_name hdef ▸ h1]
    refine wpCl_bind (wpCl_mono h (fun v s' g => wpCl_any (wpAny_pure ⟨_, rfl, fin _ _ g⟩)) fun e s' g => fin _ _ g)
  obtain ⟨k, r', s', s'', hrun, hsched, hfo, hcase, hos, hkp⟩ := thread_ends_cl (prog := r.prog) (w := w) (t := tree vs) (s := s₁)
    (R := fun r' s' => r.claim.Ends s args vs s₁ r' s' ∧ s'.os = s.os ∧ kept s'.heap) (Shared.asleep_of_life hal.2.2.2 hz) hcode
  obtain ⟨eh, _, _, eo, _⟩ := Shared.forget_eq hfo
  have hcase := hcase.congr eh
  have hkp : kept s'.heap := by first | exact eh ▸ hkp | (rw [eh] at hkp; exact hkp) | (rw [← eh] at hkp; exact hkp)
  rw [← eo] at hos
  have hlife : s'.heap.life = s.heap.life := (runN_life _ _ _ hrun).trans hal.2.2.2
  refine ⟨vs, s₁, hlaid, k, _, s', hsched, ?_, (fun _ i x hx => by rw [hgens] at hx; simp at hx), hkp, by rw [hlife], Shared.rest_eq hos⟩
  rcases hcase with ⟨v, rfl, d1, d2, d3, d4, d5⟩ | ⟨e, ob, cls, rfl, d1, d2, d3, d4, d5⟩
  · exact .inl ⟨v, rfl, d1, d2, d3, fun b o y _ => d4 b o y, d5⟩
  · exact .inr ⟨e, ob, cls, rfl, d1, d2, d3, d4, fun b o y _ => d5 b o y⟩
end HeadF_
section Ct_
open PySem PySem.W PyProof.Rows PySem.Calls PySem.Spec

set_option maxRecDepth 100000

noncomputable abbrev lz : List Str := [Str.ofString "UnsupportedOperation", Str.ofString "IOBase", Str.ofString "BufferedIOBase",
        Str.ofString "TextIOBase", Str.ofString "BytesIO", Str.ofString "StringIO", Str.ofString "shlex",
        Str.ofString "split", Str.ofString "_filemode_table"]
/-- the callee's contract: in any caller's frame -/
noncomputable def Does (w : World) (f : Addr) (args : List Value) (kw : List (Str × Value)) (dn unn : Nat) (Pre : List (Addr × Obj) → Prop) (Ret : List (Addr × Obj) → List (Addr × Obj) → Value → Prop) : Prop :=
  ∀ (mean : ExcName → Option Value) (mg mb : Str → Option Value) (dp un : Nat) (gd : Option (List Code)) (cn : Str) (ns : List (Str × NameKind)) (ig ic : Bool) (mo : List (Str × Const)) (a : Addr) (ccd : Value) (cl : List (Str × Addr)) (outer : List Env) (A₀ : Around) (base h₀ : Heap) (L : Addr) (m : Str → Option Value) (news : List (Addr × Obj)) (s : Shared)
    (Q E : Value → Shared → Prop),
    Below A₀ base outer h₀ → Fr h₀ L s.heap m → (Mine.K1 w.params).In h₀ → News h₀ L s.heap news → Top Mine.q1 (looseW Mine.q1 lz) mean mg mb h₀ → Pre news → dp + dn < recursionLimit → un + unn < cLine →
    (∀ r news' h' tk', Fr h₀ L h' m → News h₀ L h' news' → Ret news news' r → Q r { s with heap := h', toks := tk' }) →
    wpAny (model PySem.Challenge.rw_op0238_01.row.prog w) (ktrTop dp un gd cn ⟨.function, ns, ig, ic, mo⟩ L a ccd cl outer) (call (.ref f) args kw) Q E s
theorem does_use {w : World} {f : Addr} {args : List Value} {kw : List (Str × Value)} {dn unn : Nat} {Pre : List (Addr × Obj) → Prop} {Ret : List (Addr × Obj) → List (Addr × Obj) → Value → Prop} (D : Does w f args kw dn unn Pre Ret)
    {mean : ExcName → Option Value} {mg mb : Str → Option Value} {dp un : Nat} {gd : Option (List Code)} {cn : Str} {ns : List (Str × NameKind)} {ig ic : Bool} {mo : List (Str × Const)} {a : Addr} {ccd : Value} {cl : List (Str × Addr)} {outer : List Env} {A₀ : Around} {base h₀ : Heap} {L : Addr} {m : Str → Option Value} {news : List (Addr × Obj)} {s : Shared} {Q E : Value → Shared → Prop}
    (B : Below A₀ base outer h₀) (F : Fr h₀ L s.heap m) (X : (Mine.K1 w.params).In h₀) (N : News h₀ L s.heap news) (T : Top Mine.q1 (looseW Mine.q1 lz) mean mg mb h₀) (hpre : Pre news) (hd : dp + dn < recursionLimit) (hu : un + unn < cLine)
    (h : ∀ r news' h' tk', Fr h₀ L h' m → News h₀ L h' news' → Ret news news' r → Q r { s with heap := h', toks := tk' }) :
    wpAny (model PySem.Challenge.rw_op0238_01.row.prog w) (ktrTop dp un gd cn ⟨.function, ns, ig, ic, mo⟩ L a ccd cl outer) (call (.ref f) args kw) Q E s :=
  D _ _ _ _ _ _ _ _ _ _ _ _ _ _ _ _ _ _ _ _ _ _ _ _ B F X N T hpre hd hu h
/-- a contract with a ValueError that may leave it -/
noncomputable def DoesX (w : World) (f : Addr) (args : List Value) (kw : List (Str × Value)) (dn unn : Nat) (Pre : List (Addr × Obj) → Prop) (Ret : List (Addr × Obj) → List (Addr × Obj) → Value → Prop) (Exc : List (Addr × Obj) → List (Addr × Obj) → Prop) : Prop :=
  ∀ (mean : ExcName → Option Value) (mg mb : Str → Option Value) (dp un : Nat) (gd : Option (List Code)) (cn : Str) (ns : List (Str × NameKind)) (ig ic : Bool) (mo : List (Str × Const)) (a : Addr) (ccd : Value) (outer : List Env) (A₀ : Around) (base h₀ : Heap) (L : Addr) (m : Str → Option Value) (news : List (Addr × Obj)) (s : Shared)
    (Q E : Value → Shared → Prop),
    Below A₀ base outer h₀ → Fr h₀ L s.heap m → (Mine.K1 w.params).In h₀ → News h₀ L s.heap news → Top Mine.q1 (looseW Mine.q1 lz) mean mg mb h₀ → (Mine.K1 w.params).In base → Top Mine.q1 (looseW Mine.q1 lz) mean mg mb base → KtsDicts (outer.filterMap (·.frame)) h₀ → Pre news → dp + dn < recursionLimit → un + unn < cLine →
    (∀ r news' h' tk', Fr h₀ L h' m → News h₀ L h' news' → Ret news news' r → Q r { s with heap := h', toks := tk' }) →
    (∀ e t vs g news' h' tk', Fr h₀ L g m → RaisedS base g (envOf cn ⟨.function, ns, ig, ic, mo⟩ L a ccd :: outer) e (.type "ValueError") t vs news' h' → RaisedK base (envOf cn ⟨.function, ns, ig, ic, mo⟩ L a ccd :: outer) e (.type "ValueError") t vs news' h' → g.UpToSlots h' → Exc news news' → E (.ref e) { s with heap := h', toks := tk' }) →
    wpAny (model PySem.Challenge.rw_op0238_01.row.prog w) (ktrTop dp un gd cn ⟨.function, ns, ig, ic, mo⟩ L a ccd [] outer) (call (.ref f) args kw) Q E s
theorem doesX_use {w : World} {f : Addr} {args : List Value} {kw : List (Str × Value)} {dn unn : Nat} {Pre : List (Addr × Obj) → Prop} {Ret : List (Addr × Obj) → List (Addr × Obj) → Value → Prop} {Exc : List (Addr × Obj) → List (Addr × Obj) → Prop} (D : DoesX w f args kw dn unn Pre Ret Exc)
    {mean : ExcName → Option Value} {mg mb : Str → Option Value} {dp un : Nat} {gd : Option (List Code)} {cn : Str} {ns : List (Str × NameKind)} {ig ic : Bool} {mo : List (Str × Const)} {a : Addr} {ccd : Value} {outer : List Env} {A₀ : Around} {base h₀ : Heap} {L : Addr} {m : Str → Option Value} {news : List (Addr × Obj)} {s : Shared} {Q E : Value → Shared → Prop}
    (B : Below A₀ base outer h₀) (F : Fr h₀ L s.heap m) (X : (Mine.K1 w.params).In h₀) (N : News h₀ L s.heap news) (T : Top Mine.q1 (looseW Mine.q1 lz) mean mg mb h₀) (XB : (Mine.K1 w.params).In base) (TB : Top Mine.q1 (looseW Mine.q1 lz) mean mg mb base) (KD : KtsDicts (outer.filterMap (·.frame)) h₀) (hpre : Pre news) (hd : dp + dn < recursionLimit) (hu : un + unn < cLine)
    (h : ∀ r news' h' tk', Fr h₀ L h' m → News h₀ L h' news' → Ret news news' r → Q r { s with heap := h', toks := tk' })
    (hx : ∀ e t vs g news' h' tk', Fr h₀ L g m → RaisedS base g (envOf cn ⟨.function, ns, ig, ic, mo⟩ L a ccd :: outer) e (.type "ValueError") t vs news' h' → RaisedK base (envOf cn ⟨.function, ns, ig, ic, mo⟩ L a ccd :: outer) e (.type "ValueError") t vs news' h' → g.UpToSlots h' → Exc news news' → E (.ref e) { s with heap := h', toks := tk' }) :
    wpAny (model PySem.Challenge.rw_op0238_01.row.prog w) (ktrTop dp un gd cn ⟨.function, ns, ig, ic, mo⟩ L a ccd [] outer) (call (.ref f) args kw) Q E s :=
  D _ _ _ _ _ _ _ _ _ _ _ _ _ _ _ _ _ _ _ _ _ _ _ B F X N T XB TB KD hpre hd hu h hx
theorem units_kw (A : Around) (C : Addr) (vals : List Value) (kw : List (Str × Value)) : (A.under (.builtin "type.__call__" ⟨.ref C :: vals, kw⟩)).units = A.units + 1 := rfl
end Ct_
open PySem PySem.W PyProof.Rows PySem.Calls PySem.Spec PyProof
local macro_rules | `(tactic| k_room) => `(tactic| ktr_room)
local macro_rules | `(tactic| ktr_room) => `(tactic| ((try simp only [depth_under_make, depth_under_kw, depth_in1, depth_deeper, depth_caller]); (try dsimp only [ktrTop]); omega))
local macro_rules | `(tactic| ktr_units) => `(tactic| ((try simp only [units_kw, units_in1, units_deeper, Around.mark_units, units_caller]); (try dsimp only [ktrTop]); (have hcL9 := cLine_is); omega))
section HeadG_
set_option maxRecDepth 100000

section
variable {prog : Program} {w : World} {A : Around} {s : Shared} {R : Result → Shared → Prop}
theorem codeCl_call_function {a : Addr} {args : Args} {o : Obj} {fd : FuncData} {body : List Stmt} (hroom : A.depth < recursionLimit)
    (ho : s.heap.get? a = some o)
    (hd' : o.data = .func fd) (hco : fd.scope.isCoroutine = false) (hgen : fd.scope.isGenerator = false) (hbody : fd.body = .stmts body) (hcd : s.heap.CodeRec fd.code fd.qualname)
    (h : wpAny (model prog w) A.in1 (bindArgs fd args) (fun binds s₁ =>
      wpAny (model prog w) A.in1 (newFunctionEnv fd.scope fd.globals fd.closure binds (fd.qualname ++ ".<locals>.") (some a) fd.code none fd.builtins)
        (fun env s₂ => s₂.heap.NoLimit ∧ codeCl (model prog w) A (.func body env) R s₂) (fun e s' => R (.error e) s') s₁) (fun e s' => R (.error e) s') s) :
    codeCl (model prog w) A (.call (.ref a) args) R s := by
  refine codeCl_of_tree ?_
  show wpCl _ A.in1 (callAny (.ref a) args) _ _ s
  simp only [callAny]
  refine wpCl_bind (wpCl_any (wpAny_load ho ?_))
  obtain ⟨c, oc, vs, tq, hc, hoc, hdc, hq⟩ := hcd
  simp only [hd', callFunction, hco, hgen, hbody, hc]
  rw [hc] at h
  refine wpCl_any (wpAny_bind (m := field (.ref c) 1) (wpAny_field hoc hdc hq (wpAny_bind (wpAny_pure ?_))))
  exact wpAny_bind (wpAny_mono h (fun binds s₁ h₁ => wpAny_bind (wpAny_mono h₁ (fun env s₂ h₂ => wpAny_bind (wpAny_enterFrame h₂.1 hroom
    (wpAny_pure (And.intro rfl (And.intro rfl h₂.2))))) fun _ _ h' => h')) fun _ _ h' => h')
theorem codeCl_func {body : List Stmt} {env : Env}
    (h : wpCl (model prog w) (A.deeper env) (execs body env) (fun f s' => R (.ok (.ret (match f with | .ret v => v | _ => .none))) s')
      (fun e s' => wpAny (model prog w) (A.deeper env) (leaving env e) (fun _ s'' => R (.error e) s'') (fun e' s'' => R (.error e') s'') s') s) :
    codeCl (model prog w) A (.func body env) R s := by
  refine codeCl_of_tree ?_
  show wpCl _ (A.deeper env) (do point; match ← (execs body env).onRaise (leaving env) with | .ret v => ret v | _ => ret .none) _ _ s
  refine wpCl_bind (wpCl_any (wpAny_point (wpCl_bind (wpCl_onRaise (wpCl_mono h (fun f s' h' => ?_) fun _ _ h' => wpCl_any h')))))
  cases f <;> exact wpCl_any (wpAny_pure h')
theorem wpCl_execs_cons {st : Stmt} {rest : List Stmt} {env : Env} {Q : Flow → Shared → Prop} {E : Value → Shared → Prop}
    (h : wpCl (model prog w) A (exec st env) (fun f s' => match f with | .next => wpCl (model prog w) A (execs rest env) Q E s' | f => Q f s') E s) :
    wpCl (model prog w) A (execs (st :: rest) env) Q E s := by
  show wpCl _ _ (exec st env >>= fun f => match f with | .next => execs rest env | f => pure f) _ _ _
  refine wpCl_bind (wpCl_mono h (fun f s' h' => ?_) fun _ _ x => x)
  cases f <;> first | exact h' | exact wpCl_any (wpAny_pure h')
theorem callCl_cells {name : Str} {params : Arguments} {body : List Stmt} {scope : Scope}
    {pm cd doc : Value} {a : Addr} {o : Obj} {args : List Value} {binds : List (Str × Value)}
    (hroom : A.depth < recursionLimit) (ho : s.heap.get? a = some o) (hdata : o.data = .func (Calls.docDef name params body scope pm cd doc)) (hlim : s.heap.NoLimit) (hcd : s.heap.CodeRec cd name)
    (hbind : bindArgs (Calls.docDef name params body scope pm cd doc) ⟨args, []⟩ = pure binds)
    (hkind : ∀ x ∈ binds, scope.names.lookup x.1 = some .local ∨ (scope.names.lookup x.1 = some .cell ∧ ((cellsFrom (s.heap.objs.size + 1) scope.names []).lookup x.1).isSome = true))
    (hnd : ((cellsFrom 0 scope.names []).map (·.1)).Nodup)
    (h : ∀ h₁ tk cells, Fr s.heap s.heap.objs.size h₁ (bindL (envOfC name scope s.heap.objs.size a cd).kindOf binds fun _ => none) → News s.heap s.heap.objs.size h₁ cells →
      CellsAre (bindC (envOfC name scope s.heap.objs.size a cd).kindOf binds fun _ => none) (cellsFrom (s.heap.objs.size + 1) scope.names []) cells →
      wpCl (model prog w) (A.deeper (envOfC name scope s.heap.objs.size a cd)) (execs body (envOfC name scope s.heap.objs.size a cd))
        (fun f s' => R (.ok (.ret (match f with | .ret v => v | _ => .none))) s')
        (fun e s' => wpAny (model prog w) (A.deeper (envOfC name scope s.heap.objs.size a cd)) (leaving (envOfC name scope s.heap.objs.size a cd) e)
          (fun _ s'' => R (.error e) s'') (fun e' s'' => R (.error e') s'') s')
        { s with heap := h₁, toks := tk })
    (hco : scope.isCoroutine = false := by rfl) (hgen : scope.isGenerator = false := by rfl) (hk : scope.kind = .function := by rfl) :
    codeCl (model prog w) A (.call (.ref a) ⟨args, []⟩) R s := by
  refine codeCl_call_function (fd := Calls.docDef name params body scope pm cd doc) hroom ho hdata hco hgen rfl hcd ?_
  rw [hbind]
  refine wpAny_pure (wpAny_newFunctionEnv_cells hk hkind fun env he s' x => ?_)
  subst he
  refine ⟨hlim.keeps x.toInCall.keep, codeCl_func ?_⟩
  obtain ⟨h₁, tk, rfl, _⟩ := x.done
  obtain ⟨cells, N, Y⟩ := Cl.news (L := s.heap.objs.size) (h₀ := s.heap) (h := h₁) (Nat.le_refl _) fun n c hm => ⟨x.cell n c (lookup_of_mem_nodup (cellsFrom_names scope.names 0 (s.heap.objs.size + 1) [] [] rfl ▸ hnd) hm), x.above n c hm⟩
  exact h h₁ tk cells ⟨x.toInCall.ns, x.toInCall.keep, x.toInCall.fresh⟩ N Y
end
end HeadG_
section Ba_
open PySem PySem.W PyProof.Rows PySem.Calls PySem.Spec Builtin Builtin.ObjectAttr Builtin.Getset_descriptor Builtin.Bytes

set_option maxRecDepth 100000
set_option maxHeartbeats 4000000

noncomputable abbrev baObj (b : Array UInt8) : Obj := { cls := .type "bytearray", data := .bytearray b 0 }
theorem ba_sub : isSubtype (.type "bytearray") (.type "bytearray") = pure true := by rw [isSubtype_type]; kernel_rfl
theorem ba_init : Slot "bytearray" "__init__" "bytearray.__init__" :=
  .of (owner := "bytearray") (n := "__init__") (by rw [typeLookup_type, builtinLookup_eq_fast]; kernel_rfl) (by decide +kernel) (by decide +kernel) (by decide +kernel)
    (by first | exact .inl (by decide +kernel) | exact .inr (by decide +kernel)) (by rw [isSubtype_type]; kernel_rfl)
theorem ba_newOk (a : Value) : checkBuiltinCall "bytearray.__new__" ⟨[.type "bytearray", a], []⟩ = pure () := by kernel_rfl
theorem ba_newE : entryFor table "bytearray.__new__" = some Builtin.«list.__new__» := entryFor_alias (id' := "list.__new__") (by kernel_rfl) (by first | rfl | decide +kernel | (unfold String.splitOn; simp +decide [String.splitOnAux])) (by decide +kernel) (by kernel_rfl)
theorem ba_initE : entryFor table "bytearray.__init__" = some Builtin.«bytearray.__init__» := by first | exact entryFor_of_fast (by kernel_rfl) | exact entryFor_of_tree (by kernel_rfl)
theorem ba_initArgs (a b : Value) : argsOk "bytearray.__init__" ⟨[a, b], []⟩ := by unfold argsOk; kernel_rfl
theorem ba_initKind : builtinKind "bytearray.__init__" = some .slot := by kernel_rfl
theorem ba_initSplit : splitId "bytearray.__init__" = some ("bytearray", "__init__") := by kernel_rfl
noncomputable def baRest (v obj : Value) : Sem Fin := do
  if !(← isInstance obj (.type "bytearray")) then rule "type.call.new-gave-other-type"; return ← ret obj
  match ← holding [obj] (callSpecial? obj "__init__" [v] []) with
  | none => ret obj
  | some r =>
    if r != .none then
      rule "type.call.init-returned-value"
      raiseError "TypeError" s!"__init__() should return None, not '{← PySem.typeNameOf r}'"
    ret obj
theorem ba_tc (v : Value) : Builtin.«type.__call__» ⟨[.type "bytearray", v], []⟩ = (call (.builtin "bytearray.__new__") [.type "bytearray", v] [] >>= baRest v) := by kernel_rfl
theorem ba_newPlain : plainId "bytearray.__new__" = true := by decide +kernel
set_option maxRecDepth 1000000 in
theorem ba_owner : ("bytearray.__new__".splitOn ".__new__").headD "" = "bytearray" := by simp +decide [String.splitOn, String.splitOnAux]
theorem ba_isType : isType (.type "bytearray") = pure true := by kernel_rfl
section
variable {prog : Program} {w : World} {A : Around} {s : Shared} {E : Value → Shared → Prop}
theorem code_ba_new (a : Value) {Q₁ : Value → Shared → Prop} (h : Q₁ (.ref s.heap.objs.size) { s with heap := s.heap.push (baObj #[]) }) :
    codeAny (model prog w) A (.call (.builtin "bytearray.__new__") ⟨[.type "bytearray", a], []⟩) (wants Q₁ E) s := by
  refine codeAny_of_tree ?_
  show wpAny _ A.in1 (do checkBuiltinCall "bytearray.__new__" ⟨[.type "bytearray", a], []⟩; again (.builtin "bytearray.__new__" ⟨[.type "bytearray", a], []⟩)) _ _ s
  refine wpAny_bind (wpAny_of_eq (ba_newOk a) (wpAny_pure ⟨plainId_quiet ba_newPlain _, codeAny_builtin_stack ba_newE rfl fun p st => ?_⟩))
  rw [Around.under_plainId ba_newPlain _]
  have hsub := ba_sub
  have hown := ba_owner
  obtain ⟨hp, g, d, tk, os⟩ := s
  simp only [hown]
  wp_walk
  exact h
end
end Ba_
section BaC_
open PySem PySem.W PyProof.Rows PySem.Calls PySem.Spec Builtin Builtin.ObjectAttr Builtin.Getset_descriptor Builtin.Bytes

set_option maxRecDepth 100000
set_option maxHeartbeats 4000000

section
variable {α β : Type} {M : Model} {A : Around} {E : Value → Shared → Prop} {s : Shared}
theorem wpCl_holding {vs : List Value} {m : Sem α} {Q : α → Shared → Prop} (h : wpCl M A m Q E s) : wpCl M A (holding vs m) Q E s := fun Γ p hΓ hc => by
  rw [Sem.wp_holding]; exact h Γ p hΓ hc
theorem wpCl_keep {vs : List Value} {m : Sem α} {Q : α → Shared → Prop} (h : wpCl M A m Q E s) : wpCl M A (m.keep vs) Q E s := fun Γ p hΓ hc => by
  rw [Sem.wp_keep]; exact h Γ p hΓ hc
noncomputable def expF (self : Value) : Code × Pos → Bool
  | (.builtin "bytearray.__contains__" ⟨v :: _, _⟩, _) | (.builtin "bytearray.__mod__" ⟨v :: _, _⟩, _)
  | (.builtin "bytearray.__rmod__" ⟨_ :: v :: _, _⟩, _) | (.builtin "_struct.pack_into.held" ⟨v :: _, _⟩, _) => Bytes.sameRef v self
  | (.builtin "bytearray.find.held" ⟨_ :: _ :: held, _⟩, _) => held.any (Bytes.sameRef self)
  | (.builtin i ⟨v :: _, _⟩, _) => Bytes.sameRef v self && decodersThatHold.contains i
  | _ => false
theorem expF_calm (self : Value) (x : Code × Pos) (h : calmC x.1 = true) : expF self x = false := by
  obtain ⟨c, p⟩ := x
  cases c with
  | builtin id args =>
    simp only [calmC, Bool.not_eq_true', Bool.or_eq_false_iff] at h
    obtain ⟨hc, hd⟩ := h
    have n : ∀ z : String, ["bytearray.__contains__", "bytearray.__mod__", "bytearray.__rmod__", "_struct.pack_into.held", "bytearray.find.held"].contains z = true → id ≠ z := fun z hz e => by rw [e, hz] at hc; cases hc
    obtain ⟨args, kw⟩ := args
    unfold expF expF.match_1
    show dite (id = "bytearray.__contains__") _ _ = false
    rw [dif_neg (n _ (by decide))]
    show dite (id = "bytearray.__mod__") _ _ = false
    rw [dif_neg (n _ (by decide))]
    show dite (id = "bytearray.__rmod__") _ _ = false
    rw [dif_neg (n _ (by decide))]
    show dite (id = "_struct.pack_into.held") _ _ = false
    rw [dif_neg (n _ (by decide))]
    show dite (id = "bytearray.find.held") _ _ = false
    rw [dif_neg (n _ (by decide))]
    cases args with
    | nil => rfl
    | cons v r =>
      show (Bytes.sameRef v self && decodersThatHold.contains id) = false
      rw [hd, Bool.and_false]
  | _ => rfl
theorem wpCl_exported {v : Value} {Q : Bool → Shared → Prop} (h : Q false s) : wpCl M A (exported v) Q E s := fun Γ p hΓ hc => by
  show Sem.wp M Γ (Sem.bind stack fun st => pure (st.any (expF v))) _ _ p s
  unfold stack
  rw [Sem.wp_bind, Sem.wp_stack]
  show Q (((Γ.code, p) :: Γ.below).any (expF v)) s
  have : ((Γ.code, p) :: Γ.below).any (expF v) = false := by
    rw [List.any_eq_false]
    intro x hx
    rcases List.mem_cons.mp hx with rfl | hx
    · rw [expF_calm v _ hc.1]; decide
    · rw [expF_calm v _ (hc.2 x hx)]; decide
  rw [this]; exact h
end
theorem ba_release : typeLookup (.type "bytearray") "__release_buffer__" = pure (some (.builtin "bytearray.__release_buffer__")) := by rw [typeLookup_type, builtinLookup_eq_fast]; kernel_rfl
theorem ba_rel1 : ("bytearray.__release_buffer__".endsWith ("." ++ "__release_buffer__")) = true := by decide +kernel
theorem ba_rel2 : ("bytearray.__release_buffer__".dropRight ("__release_buffer__".length + 1)) = "bytearray" := by decide +kernel
theorem ba_bindO (v : Value) : Bytes.bindOptional "bytearray.__init__" "bytearray" ["source", "encoding", "errors"] [v] [] = pure [some v, none, none] := by kernel_rfl
theorem int_asStr (n : Int) (t : Tok) : asStr? (.int n t) = pure none := by kernel_rfl
theorem int_asIndex (n : Int) (t : Tok) : (asIndex (.int n t)).attempt = pure (.ok n) := by kernel_rfl
theorem int_index : typeLookup (.type "int") "__index__" = pure (some (.builtin "int.__index__")) := by rw [typeLookup_type, builtinLookup_eq_fast]; kernel_rfl
section
variable {prog : Program} {w : World} {A : Around} {s : Shared} {R : Result → Shared → Prop} {E : Value → Shared → Prop}
theorem codeCl_builtin {id : String} {args : Args} {b : Builtin} (hb : entryFor table id = some b)
    (h : wpCl (model prog w) (A.under (.builtin id args)) (b args)
      (fun fin s' => match fin with | .done f => R (.ok f) s' | .again c' => c'.quiet = true ∧ calmC c' = true ∧ codeCl (model prog w) A c' R s') (fun e s' => R (.error e) s') s) :
    codeCl (model prog w) A (.builtin id args) R s := by
  refine codeCl_of_tree ?_
  show wpCl _ _ (match entryFor table id with | some b => b args | none => unsupported ((withoutEnding? id "#data").getD id)) _ _ s
  rw [hb]; exact h
theorem codeCl_call_builtin {id : String} {args : Args} {b : Builtin} (hq : (Code.builtin id args).quiet = true) (hc : calmC (.builtin id args) = true) (hb : entryFor table id = some b)
    (h : wpAny (model prog w) A.in1 (checkBuiltinCall id args) (fun _ s₁ => wpCl (model prog w) (A.under (.builtin id args)) (b args)
      (fun fin s' => match fin with | .done f => R (.ok f) s' | .again c' => c'.quiet = true ∧ calmC c' = true ∧ codeCl (model prog w) A c' R s') (fun e s' => R (.error e) s') s₁)
      (fun e s' => R (.error e) s') s) : codeCl (model prog w) A (.call (.builtin id) args) R s := by
  refine codeCl_of_tree ?_
  show wpCl _ A.in1 (do checkBuiltinCall id args; again (.builtin id args)) _ _ s
  exact wpCl_bind (wpCl_any (wpAny_mono h (fun _ s₁ h₁ => wpCl_any (wpAny_pure (And.intro hq (And.intro hc (codeCl_builtin hb h₁))))) fun _ _ h' => h'))
theorem upd_bytes {a : Addr} {b : Array UInt8} {f : Array UInt8 → Array UInt8} {Q : Unit → Shared → Prop} (ho : s.heap.get? a = some (baObj b)) (hz : (f b).size ≤ 1000) (h : (s.heap.update a (Obj.mapBytearray f)).get? a = some (baObj (f b)) → Q () { s with heap := s.heap.update a (Obj.mapBytearray f) }) :
    wpAny (model prog w) A (updateBytearray a f) Q E s := by
  unfold updateBytearray
  refine wpAny_bind (wpAny_load ho ?_)
  dsimp only
  refine wpAny_bind (wpAny_update ho ?_)
  have hg : (s.heap.update a (Obj.mapBytearray f)).get? a = some (baObj (f b)) := Heap.get?_update_self _ ho rfl
  refine wpAny_lookBehind (o := baObj (f b)) hg ?_ (h hg)
  show Data.pastItsLine (.bytearray (f b) 0) = none
  show (if (f b).size > sizeLine then some "bytearray:memory" else none) = none
  rw [if_neg (by rw [sizeLine_eq]; omega)]
theorem ba_initCl {a : Addr} {k : Int} {t : Tok} {Q : Fin → Shared → Prop} (hg : s.heap.get? a = some (baObj #[])) (h0 : 0 ≤ k) (hn : k ≤ 1000)
    (h : ∀ h', (∀ b o, b ≠ a → s.heap.get? b = some o → h'.get? b = some o) → h'.get? a = some (baObj (Array.replicate k.toNat 0)) → Q (.done (.ret .none)) { s with heap := h' }) :
    wpCl (model prog w) A (Builtin.«bytearray.__init__» ⟨[.ref a, .int k t], []⟩) Q E s := by
  have hT : s.TypeIs (.ref a) "bytearray" := ⟨_, hg, rfl⟩
  unfold Builtin.«bytearray.__init__»
  dsimp only
  unfold ownRelease slotIsOwn
  refine wpCl_bind (wpCl_any (wpAny_bind (wpAny_bind (wpAny_specialOf hT ba_release ?_))))
  dsimp only
  rw [ba_rel1, ba_rel2, if_neg (by decide)]
  refine wpAny_isInstance hT ba_sub (wpAny_pure ?_)
  rw [if_neg (by decide)]
  refine wpCl_bind (wpCl_any (wpAny_of_eq (ba_bindO _) ?_))
  dsimp only
  refine wpCl_bind (wpCl_any (wpAny_of_eq (a := ()) rfl ?_))
  refine wpCl_bind (wpCl_any (wpAny_of_eq (a := ()) rfl ?_))
  unfold orM
  refine wpCl_bind (wpCl_bind (wpCl_exported ?_))
  dsimp only [toBool]
  unfold exportsOf
  refine wpCl_any (wpAny_bind (wpAny_bind (wpAny_load hg (wpAny_pure (wpAny_pure ?_)))))
  rw [if_neg (by decide)]
  refine wpCl_any (wpAny_bind ?_)
  show wpAny _ _ (updateBytearray a fun _ => #[]) _ _ _
  refine upd_bytes hg (Nat.zero_le _) fun h1 => ?_
  refine wpAny_bind ?_
  rw [int_asStr]
  refine wpAny_pure ?_
  rw [if_neg (show ¬ ((none : Option PySem.Str).isSome = true) from Bool.false_ne_true)]
  rw [if_neg (show ¬ ((none : Option Value).isSome = true) from Bool.false_ne_true)]
  rw [if_neg (show ¬ ((none : Option Value).isSome = true) from Bool.false_ne_true)]
  refine wpAny_bind ?_
  refine wpAny_pure ?_
  refine wpAny_bind ?_
  unfold specialOf
  refine wpAny_bind ?_
  rw [show typeOf (Value.int k t) = pure (.type "int") from rfl]
  refine wpAny_pure ?_
  rw [int_index]
  refine wpAny_pure ?_
  rw [if_pos (show (some (Value.builtin "int.__index__")).isSome = true from rfl)]
  refine wpAny_bind ?_
  rw [int_asIndex]
  refine wpAny_pure ?_
  dsimp only
  have f1 : fitsIndex k = true := by
    unfold fitsIndex
    rw [Bool.and_eq_true]
    exact ⟨decide_eq_true (by omega), decide_eq_true (by omega)⟩
  have f2 : ¬ ((k == 2 ^ 63 - 1) = true) := by rw [beq_iff_eq]; omega
  have f3 : Bytes.tooLong k.toNat = false := by
    unfold Bytes.tooLong
    rw [sizeLine_eq]
    exact decide_eq_false (by omega)
  rw [f1, f3, if_neg (show ¬ ((!true) = true) from Bool.false_ne_true), if_neg (show ¬ (k < 0) by omega), if_neg f2, if_neg Bool.false_ne_true]
  refine wpAny_bind ?_
  refine wpAny_rule ?_
  have u1 : ∀ b o, b ≠ a → s.heap.get? b = some o → (s.heap.update a (Obj.mapBytearray fun _ => #[])).get? b = some o := fun b o hb e => (Heap.get?_update_ne _ _ _ _ hb).trans e
  by_cases hk : k > 0
  · rw [if_pos hk]
    refine wpAny_bind ?_
    show wpAny _ _ (updateBytearray a fun _ => Array.replicate k.toNat 0) _ _ _
    refine upd_bytes h1 (by rw [Array.size_replicate]; omega) fun h2 => ?_
    refine wpAny_pure ?_
    exact h _ (fun b o hb e => (Heap.get?_update_ne _ _ _ _ hb).trans (u1 b o hb e)) h2
  · rw [if_neg hk]
    refine wpAny_pure ?_
    refine h _ u1 ?_
    have : k.toNat = 0 := by omega
    rw [this]
    exact h1
end
end BaC_
section MkNew_
open PySem PySem.W PyProof.Rows PySem.Calls PySem.Spec Builtin Builtin.ObjectAttr Builtin.Getset_descriptor

set_option maxRecDepth 100000
set_option maxHeartbeats 4000000

/-- what is wanted behind an own __new__ -/
noncomputable def NewBack (prog : Program) (w : World) (A : Around) (K : Frag) (C fI : Addr) (rest : List Value) (kw : List (Str × Value)) (R : Result → Shared → Prop) (r : Value) (s' : Shared) : Prop :=
  ∃ x ox od, r = .ref x ∧ InstAt s'.heap x ox C od ∧ K.In s'.heap ∧ codeAny (model prog w) A (.call (.ref fI) ⟨.ref x :: rest, kw⟩) (InitBack x R) s'
section
variable {prog : Program} {w : World} {A : Around} {K : Frag} {C fN fI p L : Addr} {R : Result → Shared → Prop} {s : Shared} {h₀ : Heap} {m : Str → Option Value} {rest : List Value} {mro : List Value} {mc : Value} {more : List Value}
theorem make_new (F : Fr h₀ L s.heap m) (X₀ : K.In h₀) (hcl : (clsIn K C).isSome = true) (hcall : specialIn K (.ref C) "__call__" = some (some (.builtin "type.__call__"))) (htyp : instIn K (.ref C) (.type "type") = some true)
    (hmro : peek K ⟨prog, w.params⟩ (mroOf (.ref C)) = some mro) (hne : mro.isEmpty = false) (hmade : peek K ⟨prog, w.params⟩ (Bind.madeBy (.ref C)) = some none)
    (hmc : typeIn K (.ref C) = some mc) (hr : readsIn K C mc = true) (hfind : findCls K (.ref C) mc "__new__" = some (.get (.builtin "staticmethod.__get__") (.ref p) .none (.ref C))) (hp : recIn K p "staticmethod" = some (.ref fN :: more))
    (hself : mroIn K C (.ref C) = some true) (hi : findIn K (.ref C) "__init__" = some (some (.ref fI))) (hf : isFn K (.ref fI) = true)
    (h : wpAny (model prog w) (A.under (.builtin "type.__call__" ⟨.ref C :: rest, []⟩)) (call (.ref fN) (.ref C :: rest) []) (NewBack prog w (A.under (.builtin "type.__call__" ⟨.ref C :: rest, []⟩)) K C fI rest [] R) (fun e s' => R (.error e) s') { s with toks := s.toks + 1 }) :
    codeAny (model prog w) A (.call (.ref C) ⟨rest, []⟩) R s := by
  have X := X₀.keeps F.keep
  obtain ⟨cd, hcd⟩ := Option.isSome_iff_exists.mp hcl
  have call := looks_specialIn (M := model prog w) X hcall
  have typ := looks_instIn (M := model prog w) X htyp
  have hm : Looks (model prog w) s.heap (mroOf (.ref C)) mro := Looks.of_peek X hmro
  have made : Looks (model prog w) s.heap (Bind.madeBy (.ref C)) none := Looks.of_peek X hmade
  have hC : ∃ oc od sl, K.lookup C = some ⟨oc, od, .cls cd, sl⟩ := by
    unfold clsIn at hcd
    split at hcd
    · rename_i oc od c sl q; cases hcd; exact ⟨_, _, _, q⟩
    · cases hcd
  obtain ⟨oc, od, sl, hC⟩ := hC
  refine codeAny_of_tree ?_
  show wpAny _ _ (callAny (.ref C) _) _ _ _
  refine nd_load (X _ _ hC) ?_
  show wpAny _ _ (callAny.viaDunder (.ref C) _) _ _ _
  unfold callAny.viaDunder
  refine wpAny_bind (call.here ?_)
  dsimp only
  rw [tc_bind]
  refine wpAny_bind (wpAny_pure (wpAny_bind (wpAny_pure ?_)))
  refine wpAny_pure (a := Fin.again (.call (.builtin "type.__call__") ⟨.ref C :: rest, []⟩)) (And.intro rfl ?_)
  refine codeAny_call_builtin_at (Code.quiet_builtin _ (by decide +kernel)) entry_typeCall (check_slot tc_kind tc_split typ (tc_args _ _ _) ?_)
  unfold Builtin.«type.__call__»
  dsimp only
  refine wpAny_bind (hm.here ?_)
  rw [hne]
  refine wpAny_bind (made.here ?_)
  dsimp only
  refine wpAny_bind (cls_sm F X₀ hmc hr hfind hp rfl ?_)
  refine wpAny_bind (wpAny_holding (wpAny_mono h (fun v s' hb => ?_) fun _ _ z => z))
  obtain ⟨x, ox, od', rfl, I, X', hq⟩ := hb
  have t1 := I.type (M := model prog w)
  have s1 : Looks (model prog w) s'.heap (isSubtype (.ref C) (.ref C)) true := looks_mroIn X' hself
  refine wpAny_bind (Looks.here (t := isInstance (.ref x) (.ref C)) (r := true) (t1.andThen s1) ?_)
  rw [if_neg (show ¬ ((!true) = true) from Bool.false_ne_true)]
  refine wpAny_bind (wpAny_holding (special_fn (args := rest) X' I hi (beq_iff_eq.mp hf) (wpAny_call (codeAny_mono hq fun r s₂ z => ?_))))
  rcases r with e | (v | _ | _ | _) <;> first | exact z | exact z.elim | skip
  obtain ⟨rfl, z⟩ := z
  exact wpAny_pure z
end
end MkNew_
section NewOwn_
open PySem PySem.W PyProof.Rows PySem.Calls PySem.Spec Builtin Builtin.ObjectAttr Builtin.Getset_descriptor

set_option maxRecDepth 100000
set_option maxHeartbeats 4000000

section
variable {prog : Program} {w : World} {A : Around} {K : Frag} {C L : Addr} {R : Result → Shared → Prop} {E : Value → Shared → Prop} {Q : Value → Shared → Prop} {s : Shared} {h₀ : Heap} {m : Str → Option Value} {news : List (Addr × Obj)} {cd : ClassData}
theorem new_own (F : Fr h₀ L s.heap m) (X₀ : K.In h₀) (N : News h₀ L s.heap news) (hcd : clsIn K C = some cd) (ha : cd.abstract = false) (hd : cd.hasDel = false)
    (hchk : peek K ⟨prog, w.params⟩ (checkBuiltinCall "object.__new__" ⟨[.ref C], []⟩) = some ())
    (hhere : peek K ⟨prog, w.params⟩ (Bind.madeHere "object.__new__" (.ref C)) = some ())
    (h : ∀ x dx h', Fr h₀ L h' m → News h₀ L h' ((x, instObj C dx) :: (dx, emptyDict) :: news) → (∀ p ∈ news, p.1 < dx) → dx < x → Q (.ref x) { s with heap := h' }) :
    wpAny (model prog w) A (call (.builtin "object.__new__") [.ref C] []) Q E s := by
  have X := X₀.keeps F.keep
  have here : Looks (model prog w) s.heap (Bind.madeHere "object.__new__" (.ref C)) () := Looks.of_peek X hhere
  have cls := looks_clsIn (M := model prog w) X hcd
  have hC : ∃ oc od sl, K.lookup C = some ⟨oc, od, .cls cd, sl⟩ := by
    unfold clsIn at hcd
    split at hcd
    · rename_i oc od c sl q; cases hcd; exact ⟨_, _, _, q⟩
    · cases hcd
  obtain ⟨oc, od, sl, hC⟩ := hC
  have hC := X _ _ hC
  obtain ⟨hh, g, d, t, os⟩ := s
  have N' := (N.push F emptyDict).push (F.push _) (instObj C hh.objs.size)
  rw [Heap.size_push] at N'
  have z := h _ hh.objs.size _ ((F.push _).push _) N' (fun p hp => Heap.lt_size (N p hp).1) (Nat.lt_succ_self _)
  have FF := PySem.F.objNew
  have chk : Looks (model prog w) hh (checkBuiltinCall "object.__new__" ⟨[.ref C], []⟩) () := Looks.of_peek X hchk
  refine wpAny_call (codeAny_call_builtin_code (Code.quiet_builtin _ FF.quiet) (chk.at (codeAny_builtin FF.entry ?_)))
  unfold Builtin.«object.__new__»
  repeat (first | simp only [ha, Bool.false_eq_true, if_false] | lk)
  refine nd_load (Heap.get?_push_of_some _ (Heap.get?_push_of_some _ hC)) (nd_pure ?_)
  dsimp only
  rw [hd]
  repeat lk
  show Q _ _
  rw [Heap.size_push]
  exact z
end
end NewOwn_
section SioK_
open PySem PySem.W PyProof.Rows PySem.Calls PySem.Spec Builtin Builtin.ObjectAttr Builtin.Getset_descriptor

set_option maxRecDepth 100000
set_option maxHeartbeats 4000000

theorem sio_mro (prog : Program) (w : World) : peek (Mine.K1 w.params) ⟨prog, w.params⟩ (mroOf (.ref 587)) = some [.ref 587, .ref 110, .ref 83, .type "object"] := by kernel_rfl
theorem sio_made (prog : Program) (w : World) : peek (Mine.K1 w.params) ⟨prog, w.params⟩ (Bind.madeBy (.ref 587)) = some none := by kernel_rfl
theorem sio_here (prog : Program) (w : World) : peek (Mine.K1 w.params) ⟨prog, w.params⟩ (Bind.madeHere "object.__new__" (.ref 587)) = some () := by kernel_rfl
theorem sio_chk (prog : Program) (w : World) : peek (Mine.K1 w.params) ⟨prog, w.params⟩ (checkBuiltinCall "object.__new__" ⟨[.ref 587], []⟩) = some () := by kernel_rfl
end SioK_
section KM_
local macro_rules | `(tactic| k_all) => `(tactic| assumption)
local macro_rules | `(tactic| k_mem) => `(tactic| assumption)
section ReadCt_
set_option maxRecDepth 100000
set_option maxHeartbeats 4000000

/-- a text by its signs -/
noncomputable abbrev mkS (l : List Nat) : Str := ⟨l.toArray⟩
theorem mkS_len (l : List Nat) : (mkS l).length = l.length := by simp [Str.length]
noncomputable abbrev en (w : World) (k : String) (t : Tok) (v : Value) : DictEntry := ⟨PyData.keyHash w.params (Str.ofString k), .str (Str.ofString k) t, v⟩
noncomputable abbrev sioD (w : World) (tk : Nat → Tok) (text : Str) (pos : Int) (tp : Tok) : Obj := dictOf [en w "_StringIO__newline" (tk 0) (.str (Str.ofString "\n") (tk 1)), en w "_StringIO__buf" (tk 2) (.str text (tk 3)), en w "_StringIO__pos" (tk 4) (.int pos tp)] 3
theorem slice_mid (pre : List Nat) (c : Nat) (rest : List Nat) : Txt.slice (mkS (pre ++ c :: rest)) (some (pre.length : Int)) (some ((pre.length : Int) + 1)) = mkS [c] := by
  have h := slice_closesL (x := mkS (pre ++ c :: rest)) (i := pre.length) (j := (pre.length : Int) + 1) (by omega) (by omega) (by rw [mkS_len]; simp; omega)
  rw [beq_iff_eq.mp h]
  simp
noncomputable def RdRet (w : World) (tk : Nat → Tok) (pre rest : List Nat) (ds : Addr) (r0 : List (Addr × Obj)) (news' : List (Addr × Obj)) (r : Value) : Prop :=
  ∃ t tp', match rest with
    | [] => r = .str (mkS []) t ∧ news' = (ds, sioD w tk (mkS pre) pre.length tp') :: r0
    | c :: rest' => r = .str (mkS [c]) t ∧ news' = (ds, sioD w tk (mkS (pre ++ c :: rest')) (pre.length + 1 : Int) tp') :: r0
theorem read_ct (w : World) (tk : Nat → Tok) (pre rest : List Nat) (tp t1 : Tok) (sio ds : Addr) (r0 : List (Addr × Obj)) (hl : pre.length + rest.length ≤ 1000)
    (hm0 : (sio, instObj 587 ds) ∈ r0) (hne : ∀ p ∈ r0, p.1 ≠ ds) :
    Does w 533 [.ref sio, .int 1 t1] [] 20 100 (fun news => news = (ds, sioD w tk (mkS (pre ++ rest)) pre.length tp) :: r0) (fun _ news' r => RdRet w tk pre rest ds r0 news' r) := by
  unfold Does
  w_on
  k_fill
  intro mean mg mb dp un gd cn ns ig ic mo a ccd cl outer A₀ base h₀ L m news s Q E B F X N T hpre hd hu hret
  subst hpre
  have hlen : (mkS (pre ++ rest)).length = pre.length + rest.length := by rw [mkS_len, List.length_append]
  generalize hT : mkS (pre ++ rest) = text at *
  generalize hP : (pre.length : Int) = pos at *
  have hp0 : 0 ≤ pos := by omega
  have hp1 : pos ≤ text.length := by omega
  have hl1 : text.length ≤ 1000 := by omega
  refine wpAny_call ?_
  k_dflt k_enter
  k_steps
  · refine hret _ _ _ _ (by k_asm) (by k_asm) ?_
    rcases rest with _ | ⟨c, rest⟩
    · exact ⟨_, _, rfl, by rw [← hT, ← hP, List.append_nil]⟩
    · exfalso; simp only [List.length_cons] at hlen; omega
  · refine hret _ _ _ _ (by k_asm) (by k_asm) ?_
    rcases rest with _ | ⟨c, rest⟩
    · exfalso; simp only [List.length_nil] at hlen; omega
    · exact ⟨_, _, by rw [← hT, ← hP, slice_mid], by rw [← hT, ← hP]⟩
  · refine hret _ _ _ _ (by k_asm) (by k_asm) ?_
    rcases rest with _ | ⟨c, rest⟩
    · exfalso; simp only [List.length_nil] at hlen; omega
    · rcases rest with _ | ⟨c', rest⟩
      · have e : (text.length : Int) = pos + 1 := by simp only [List.length_cons, List.length_nil] at hlen; omega
        exact ⟨_, _, by rw [e, ← hT, ← hP, slice_mid], by rw [e, ← hT, ← hP]⟩
      · exfalso; simp only [List.length_cons] at hlen; omega
noncomputable def RdRetT (w : World) (tk : Nat → Tok) (T : Str) (p : Int) (rest : List Nat) (ds : Addr) (r0 : List (Addr × Obj)) (news' : List (Addr × Obj)) (r : Value) : Prop :=
  ∃ t tp', match rest with
    | [] => r = .str (mkS []) t ∧ news' = (ds, sioD w tk T p tp') :: r0
    | c :: _ => r = .str (mkS [c]) t ∧ news' = (ds, sioD w tk T (p + 1) tp') :: r0
theorem read_ctT (w : World) (tk : Nat → Tok) (pre rest : List Nat) (T : Str) (p : Int) (tp t1 : Tok) (sio ds : Addr) (r0 : List (Addr × Obj)) (hT : T = mkS (pre ++ rest)) (hp : p = pre.length) (hl : pre.length + rest.length ≤ 1000)
    (hm0 : (sio, instObj 587 ds) ∈ r0) (hne : ∀ p ∈ r0, p.1 ≠ ds) :
    Does w 533 [.ref sio, .int 1 t1] [] 20 100 (fun news => news = (ds, sioD w tk T p tp) :: r0) (fun _ news' r => RdRetT w tk T p rest ds r0 news' r) := by
  subst hT hp
  have h := read_ct w tk pre rest tp t1 sio ds r0 hl hm0 hne
  unfold Does at h ⊢
  intro mean mg mb dp un gd cn ns ig ic mo a ccd cl outer A₀ base h₀ L m news s Q E B F X N T hpre hd hu hret
  refine h mean mg mb dp un gd cn ns ig ic mo a ccd cl outer A₀ base h₀ L m news s Q E B F X N T hpre hd hu fun r news' h' tk' F' N' hR => hret r news' h' tk' F' N' ?_
  obtain ⟨t, tp', hR⟩ := hR
  refine ⟨t, tp', ?_⟩
  cases rest with
  | nil => simpa using hR
  | cons c rest => exact hR
end ReadCt_
section SioNew_
set_option maxRecDepth 100000
set_option maxHeartbeats 4000000

/-- a goal put by -/
noncomputable def Held (P : Prop) : Prop := P
theorem held {P : Prop} (h : Held P) : P := h
local macro_rules | `(tactic| walk_at "call builtin:object.__new__") => `(tactic| refine held ?_)
local macro_rules | `(tactic| walk_at "NewBack") => `(tactic| refine held ?_)
theorem news_cut2 {h₀ h : Heap} {L : Addr} {a b c d : Addr × Obj} {r : List (Addr × Obj)} (N : News h₀ L h (a :: b :: c :: d :: r)) : News h₀ L h (a :: b :: r) := fun p hp => N p (by
  rcases List.mem_cons.mp hp with rfl | hp
  · exact .head _
  · rcases List.mem_cons.mp hp with rfl | hp
    · exact .tail _ (.head _)
    · exact .tail _ (.tail _ (.tail _ (.tail _ hp))))
noncomputable abbrev tks (l : List Tok) : Nat → Tok := fun i => l.getD i 0
theorem sioNew_ct (w : World) (text : Str) (t1 : Tok) (hl : text.length ≤ 1000) :
    Does w 587 [.str text t1] [] 20 100 (fun _ => True) (fun news news' r => ∃ x dx tk tp, r = .ref x ∧ news' = (x, instObj 587 dx) :: (dx, sioD w tk text 0 tp) :: news ∧ (∀ p ∈ news, p.1 < dx) ∧ dx < x) := by
  unfold Does
  w_on
  k_fill
  intro mean mg mb dp un gd cn ns ig ic mo a ccd cl outer A₀ base h₀ L m news s Q E B F X N T hpre hd hu hret
  refine wpAny_call ?_
  k_dflt (refine' make_new ?k1 ?k2 ?k3 ?k4 ?k5 ?k6 ?k7 ?k8 ?k9 ?k10 ?k11 ?k12 ?k13 ?k14 ?k15 ?_; (case k1 => k_asm); (case k2 => k_asm); (case k6 => exact sio_mro _ _); (case k7 => rfl); (case k8 => exact sio_made _ _); (case k9 => k_is); (case k10 => k_is); (case k11 => k_is); (case k12 => k_is); (case k4 => k_is); (case k5 => k_is); (case k13 => k_is); (case k14 => k_is); (case k15 => k_is); (case k3 => kernel_rfl))
  refine wpAny_call ?_
  k_dflt k_enter
  k_steps
  unfold Held
  k_dflt (refine' new_own ?k1 ?k2 ?k3 ?k4 ?k5 ?k6 ?k7 ?k8 ?_; (case k1 => k_asm); (case k2 => k_asm); (case k3 => k_asm); (case k4 => k_is); (case k5 => rfl); (case k6 => rfl); (case k7 => exact sio_chk _ _); (case k8 => exact sio_here _ _); k_whole; intro x' d' h' F' N' l1 l2; (try k_lt l1); (try k_lt2 l2); (try k_sweep))
  k_steps
  unfold Held
  k_dflt (refine' ⟨_, _, _, rfl, ?I, ?X, ?_⟩; (case I => k_inst); (case X => k_in); k_whole; k_enter)
  k_steps
  rename News _ _ _ ((_, instObj 587 _) :: _) => kN
  refine hret _ _ _ _ (by k_asm) (news_cut2 kN) ⟨_, _, tks [_, _, _, _, _], _, rfl, rfl, ?_, by assumption⟩
  · intro p hp
    rename ∀ p ∈ news, p.1 < _ => l1
    rename _ ∧ _ ∧ AllLt _ _ => l3
    exact Nat.lt_trans (l1 p hp) l3.2.1
end SioNew_
section Deq_
open PySem PySem.W PyProof.Rows PySem.Calls PySem.Spec Builtin Builtin.ObjectAttr Builtin.Getset_descriptor

set_option maxRecDepth 100000
set_option maxHeartbeats 4000000

noncomputable abbrev dqObj : Obj := { cls := .type "collections.deque", data := .fields #[.none, rawInt 0] }
theorem dq_nt : (Value.type "collections.deque" == Value.type "type") = false := by decide +kernel
theorem dq_can : ((Manifest.find? "collections.deque").bind fun x => List.findSome? (fun t => (Manifest.find? t).bind fun b =>
    if b.noNew = true then some true else if (b.attrs.any fun x => x.fst == "__new__") = true then some false else none) x.mro).getD false = false := by kernel_rfl
theorem dq_chk : checkTypeCall "collections.deque" ⟨[], []⟩ = pure () := by kernel_rfl
theorem dq_mro : mroOf (.type "collections.deque") = pure [.type "collections.deque", .type "object"] := by rw [mroOf_type]; kernel_rfl
theorem dq_made : Bind.madeBy (.type "collections.deque") = pure (some "collections.deque.__new__") := by kernel_rfl
theorem dq_newOk : checkBuiltinCall "collections.deque.__new__" ⟨[.type "collections.deque"], []⟩ = pure () := by kernel_rfl
theorem dq_newE : entryFor table "collections.deque.__new__" = some Builtin.«collections.deque.__new__» := by first | exact entryFor_of_fast (by kernel_rfl) | exact entryFor_of_tree (by kernel_rfl)
theorem dq_initE : entryFor table "collections.deque.__init__" = some Builtin.«collections.deque.__init__» := by first | exact entryFor_of_fast (by kernel_rfl) | exact entryFor_of_tree (by kernel_rfl)
theorem dq_init : Slot "collections.deque" "__init__" "collections.deque.__init__" :=
  .of (owner := "collections.deque") (n := "__init__") (by rw [typeLookup_type, builtinLookup_eq_fast]; kernel_rfl) (by decide +kernel) (by decide +kernel) (by decide +kernel)
    (by first | exact .inl (by decide +kernel) | exact .inr (by decide +kernel)) (by rw [isSubtype_type]; kernel_rfl)
theorem dq_initKind : builtinKind "collections.deque.__init__" = some .slot := by kernel_rfl
theorem dq_initSplit : splitId "collections.deque.__init__" = some ("collections.deque", "__init__") := by kernel_rfl
theorem dq_initArgs (a : Value) : argsOk "collections.deque.__init__" ⟨[a], []⟩ := by unfold argsOk; kernel_rfl
theorem dq_sub : isSubtype (.type "collections.deque") (.type "collections.deque") = pure true := by rw [isSubtype_type]; kernel_rfl
end Deq_
section DeqNew_
open PySem PySem.W PyProof.Rows PySem.Calls PySem.Spec Builtin Builtin.ObjectAttr Builtin.Getset_descriptor

set_option maxRecDepth 100000
set_option maxHeartbeats 4000000

theorem dq_newT : Builtin.«collections.deque.__new__» ⟨[.type "collections.deque"], []⟩ = (alloc dqObj >>= fun a => pure (.done (.ret (.ref a)))) := by kernel_rfl
theorem dq_initT (a : Addr) : Builtin.«collections.deque.__init__» ⟨[.ref a], []⟩ = (updateField a 0 .none >>= fun _ => Deque.clear (.ref a) >>= fun _ => pure (.done (.ret .none))) := by kernel_rfl
noncomputable def dqRest (obj : Value) : Sem Fin := do
  if !(← isInstance obj (.type "collections.deque")) then rule "type.call.new-gave-other-type"; return ← ret obj
  match ← holding [obj] (callSpecial? obj "__init__" [] []) with
  | none => ret obj
  | some r =>
    if r != .none then
      rule "type.call.init-returned-value"
      raiseError "TypeError" s!"__init__() should return None, not '{← PySem.typeNameOf r}'"
    ret obj
theorem dq_tc : Builtin.«type.__call__» ⟨[.type "collections.deque"], []⟩ = (call (.builtin "collections.deque.__new__") [.type "collections.deque"] [] >>= dqRest) := by kernel_rfl
section
variable {prog : Program} {w : World} {A : Around} {L : Addr} {E : Value → Shared → Prop} {Q : Value → Shared → Prop} {s : Shared} {h₀ : Heap} {m : Str → Option Value} {news : List (Addr × Obj)}
theorem deque_new (F : Fr h₀ L s.heap m) (N : News h₀ L s.heap news)
    (h : ∀ q h', Fr h₀ L h' m → News h₀ L h' ((q, dqObj) :: news) → (∀ p ∈ news, p.1 < q) → Q (.ref q) { s with heap := h' }) :
    wpAny (model prog w) A (call (.type "collections.deque") [] []) Q E s := by
  obtain ⟨hh, g, d, t, os⟩ := s
  have N' := N.push F dqObj
  have z := h _ _ (F.push dqObj) N' (fun p hp => Heap.lt_size (N p hp).1)
  refine wpAny_call (codeAny_of_tree ?_)
  show wpAny _ _ (again (.builtin "type.__call__" ⟨[.type "collections.deque"], []⟩)) _ _ _
  refine wpAny_pure ⟨Code.quiet_builtin _ (by decide +kernel), codeAny_builtin entry_typeCall ?_⟩
  rw [dq_tc]
  refine wpAny_bind (wpAny_call (codeAny_call_builtin_code (Code.quiet_builtin _ (by decide +kernel)) (wpAny_of_eq dq_newOk (codeAny_builtin dq_newE ?_))))
  rw [dq_newT]
  refine wpAny_bind (wpAny_alloc (wpAny_pure ?_))
  have hget : (hh.push dqObj).get? hh.objs.size = some dqObj := Heap.get?_push_size _ rfl
  show wpAny _ _ (dqRest _) _ _ _
  unfold dqRest
  refine wpAny_bind (wpAny_isInstance ⟨_, hget, rfl⟩ dq_sub ?_)
  rw [if_neg (show ¬ ((!true) = true) from Bool.false_ne_true)]
  refine wpAny_bind (wpAny_holding (wpAny_callSpecial?_slot ⟨_, hget, rfl⟩ dq_init (wpAny_call (codeAny_call_builtin dq_init.plain dq_initE (@check_slot (model prog w) _ _ _ "collections.deque.__init__" "collections.deque" "__init__" (.ref hh.objs.size) [] [] _ dq_initKind dq_initSplit ?_ (dq_initArgs _) ?_)))))
  · exact ((Looks.ld hget).andThen .now).andThen (Looks.of_pure dq_sub)
  · rw [dq_initT]
    have hup : Obj.mapFields (·.setIfInBounds 0 Value.none) dqObj = dqObj := by kernel_rfl
    obtain ⟨U1, U2⟩ := news_upd (pre := []) (post := news) (f := Obj.mapFields (·.setIfInBounds 0 Value.none)) (F.push dqObj) N' (fun _ h => (nomatch h)) (fun p hp => Nat.ne_of_lt (Heap.lt_size (N p hp).1)) hup rfl
    have hget2 := (U2 _ (.head _)).1
    refine wpAny_bind ?_
    unfold updateField
    refine wpAny_bind (wpAny_load hget ?_)
    dsimp only
    rw [if_pos (by decide)]
    refine wpAny_update hget ?_
    refine wpAny_bind ?_
    unfold Deque.clear Deque.items fieldsOf
    refine wpAny_bind (wpAny_bind (wpAny_bind (wpAny_load hget2 (wpAny_pure (wpAny_pure ?_)))))
    rw [if_neg (by decide)]
    refine wpAny_pure (wpAny_pure ?_)
    show wpAny _ _ _ _ _ _
    dsimp only
    rw [if_neg (by decide)]
    exact wpAny_pure (h _ _ U1 U2 (fun p hp => Heap.lt_size (N p hp).1))
end
end DeqNew_
section DeqTr_
open PySem PySem.W PyProof.Rows PySem.Calls PySem.Spec Builtin Builtin.ObjectAttr Builtin.Getset_descriptor

set_option maxRecDepth 100000
set_option maxHeartbeats 4000000

theorem dq_noBool : typeLookup (.type "collections.deque") "__bool__" = pure none := by rw [typeLookup_type, builtinLookup_eq_fast]; kernel_rfl
theorem dq_len : Slot "collections.deque" "__len__" "collections.deque.__len__" :=
  .of (owner := "collections.deque") (n := "__len__") (by rw [typeLookup_type, builtinLookup_eq_fast]; kernel_rfl) (by decide +kernel) (by decide +kernel) (by decide +kernel)
    (by first | exact .inl (by decide +kernel) | exact .inr (by decide +kernel)) (by rw [isSubtype_type]; kernel_rfl)
theorem dq_lenE : entryFor table "collections.deque.__len__" = some Builtin.«collections.deque.__len__» := by first | exact entryFor_of_fast (by kernel_rfl) | exact entryFor_of_tree (by kernel_rfl)
theorem dq_lenKind : builtinKind "collections.deque.__len__" = some .slot := by kernel_rfl
theorem dq_lenSplit : splitId "collections.deque.__len__" = some ("collections.deque", "__len__") := by kernel_rfl
theorem dq_lenArgs (a : Value) : argsOk "collections.deque.__len__" ⟨[a], []⟩ := by unfold argsOk; kernel_rfl
theorem dq_lenT (a : Addr) : Builtin.«collections.deque.__len__» ⟨[.ref a], []⟩ = (Deque.size (.ref a) >>= fun n => retInt n) := by kernel_rfl
section
variable {prog : Program} {w : World} {A : Around} {L q : Addr} {E : Value → Shared → Prop} {s : Shared} {h₀ : Heap} {m : Str → Option Value} {news : List (Addr × Obj)}
theorem deque_len {Q : Value → Shared → Prop} (ht : s.heap.get? q = some dqObj)
    (h : Q (.int 0 (s.toks + 1)) { s with toks := s.toks + 1 + 1 }) : wpAny (model prog w) A (Builtin.«len» ⟨[.ref q], []⟩) (fun fin s' => ∃ r, fin = .done (.ret r) ∧ Q r s') E s := by
  have hT : s.TypeIs (.ref q) "collections.deque" := ⟨_, ht, rfl⟩
  unfold Builtin.«len»
  refine wpAny_bind (m := oneArg "len" _) (wpAny_pure ?_)
  refine wpAny_bind (m := callSpecial? (.ref q) (Str.ofString "__len__")) (wpAny_callSpecial?_slot (name := Str.ofString "__len__") hT dq_len (wpAny_call (codeAny_call_builtin dq_len.plain dq_lenE (@check_slot (model prog w) _ _ _ "collections.deque.__len__" "collections.deque" "__len__" (.ref q) [] [] _ dq_lenKind dq_lenSplit ?_ (dq_lenArgs _) ?_))))
  · exact ((Looks.ld ht).andThen .now).andThen (Looks.of_pure dq_sub)
  rw [dq_lenT]
  unfold Deque.size fieldsOf
  refine wpAny_bind (wpAny_bind (wpAny_bind (wpAny_load ht (wpAny_pure (wpAny_pure ?_)))))
  refine wpAny_bind (wpAny_mkInt (wpAny_pure ?_))
  show wpAny _ _ _ _ _ { s with toks := s.toks + 1 }
  refine wpAny_bind (wpAny_holding (wpAny_pure ?_))
  refine wpAny_bind (wpAny_letGo ?_)
  show wpAny _ _ (if (0 : Int) < 0 then _ else _) _ _ _
  rw [if_neg (by omega)]
  show wpAny _ _ (if (0 : Int) ≥ 2 ^ 63 then _ else _) _ _ _
  rw [if_neg (by omega)]
  exact wpAny_bind (wpAny_mkInt (wpAny_pure ⟨_, rfl, h⟩))
theorem deque_truthy {Q : Bool → Shared → Prop} (N : News h₀ L s.heap news) (hm : (q, dqObj) ∈ news)
    (h : Q false { s with toks := s.toks + 1 + 1 }) : wpAny (model prog w) A (truthy (.ref q)) Q E s := by
  have ht := (N _ hm).1
  have hT : s.TypeIs (.ref q) "collections.deque" := ⟨_, ht, rfl⟩
  have key : wpAny (model prog w) A (runValue (.builtin "len" ⟨[.ref q], []⟩)) (fun r s' => r = .int 0 (s.toks + 1) ∧ Q false s') E s := by
    refine wpAny_runValue (codeAny_builtin entry_len ?_)
    rw [Around.under_plainId plain_len _]
    exact wpAny_mono (deque_len (Q := fun r s' => r = .int 0 (s.toks + 1) ∧ Q false s') ht ⟨rfl, h⟩)
      (fun fin s' h' => by obtain ⟨r, rfl, hq⟩ := h'; exact hq) fun _ _ e => e
  unfold truthy
  first
    | refine wpAny_bind (wpAny_callSpecial?_none (name := Str.ofString "__bool__") hT dq_noBool ?_)
    | refine wpAny_bind (wpAny_pure (wpAny_bind (wpAny_callSpecial?_none (name := Str.ofString "__bool__") hT dq_noBool ?_)))
  first
    | refine wpAny_bind (wpAny_specialOf (name := Str.ofString "__len__") hT dq_len.lookup ?_)
    | refine wpAny_bind (wpAny_pure (wpAny_bind (wpAny_specialOf (name := Str.ofString "__len__") hT dq_len.lookup ?_)))
  first
    | exact wpAny_bind (wpAny_mono key (fun r s' h' => by obtain ⟨rfl, hq⟩ := h'; exact wpAny_pure hq) fun _ _ e => e)
    | exact wpAny_bind (wpAny_pure (wpAny_bind (wpAny_mono key (fun r s' h' => by obtain ⟨rfl, hq⟩ := h'; exact wpAny_pure hq) fun _ _ e => e)))
end
end DeqTr_
section Rta0_
set_option maxRecDepth 100000
set_option maxHeartbeats 4000000

/-- where a look may be made: the frame and the ledger stand -/
structure Pl where
  prog : Program
  w : World
  A : Around
  h₀ : Heap
  L : Addr
  m : Str → Option Value
  led : List (Addr × Obj)
  env : Env
  g : Array GenState
  d : Drawn
  o : OsState
/-- a state with another heap -/
noncomputable abbrev Pl.st (c : Pl) (h : Heap) (t : Nat) : Shared := ⟨h, c.g, c.d, t, c.o⟩
structure Pl.on (c : Pl) (h : Heap) : Prop where
  F : Fr c.h₀ c.L h c.m
  N : News c.h₀ c.L h c.led
noncomputable def Pl.at (c : Pl) (k : Shared → Prop) : Prop := ∀ h t, c.on h → k (c.st h t)
noncomputable abbrev Pl.wp {α : Type} (c : Pl) (t : Sem α) (Q : α → Shared → Prop) (E : Value → Shared → Prop) (s : Shared) : Prop := wpAny (model c.prog c.w) c.A t Q E s
/-- a test's answer -/
noncomputable def Tst (c : Pl) (e : Expr) (b : Bool) : Prop := ∀ h t (Q : Bool → Shared → Prop) (E : Value → Shared → Prop), c.on h → c.at (Q b) → c.wp (isTrue e c.env (eval e c.env)) Q E (c.st h t)
/-- a value -/
noncomputable def Vl (c : Pl) (e : Expr) (P : Value → Prop) : Prop := ∀ h t (Q E : Value → Shared → Prop), c.on h → (∀ v, P v → c.at (Q v)) → c.wp (eval e c.env) Q E (c.st h t)
noncomputable def Pl.put (c : Pl) (x : Str) (v : Value) : Pl := { c with m := fun y => if y = x then some v else c.m y }
theorem Pl.put_ne {c : Pl} {x y : Str} {v : Value} (h : y ≠ x) : (c.put x v).m y = c.m y := if_neg h
theorem Pl.put_eq {c : Pl} {x : Str} {v : Value} : (c.put x v).m x = some v := if_pos rfl
/-- own names of a def's frame -/
structure Pl.own (c : Pl) : Prop where
  k : c.env.scope.kind = .function
  L : c.env.locals = c.L
noncomputable def IsS (x : Str) (v : Value) : Prop := ∃ t, v = .str x t
noncomputable def IsI (j : Int) (v : Value) : Prop := ∃ t, v = .int j t
section
variable {c : Pl} {e e' : Expr} {b b' : Bool} {x y : Str} {P : Value → Prop} {p p1 p2 p3 : Pos}
theorem vl_const {k : Nat} : Vl c (.Constant (.str x) k p) (IsS x) := fun _ _ _ _ o q => wpAny_Constant_str (q _ ⟨_, rfl⟩ _ _ o)
theorem vl_none {k : Nat} : Vl c (.Constant .none k p) (fun v => v = .none) := fun _ _ _ _ o q => wpAny_Constant_none (q _ rfl _ _ o)
theorem tst_bool (h : Vl c e (fun v => v = .bool b)) (he : isTrue e c.env (eval e c.env) = (do let v ← eval e c.env; standAt e.pos; holding [v] (truthy v))) : Tst c e b :=
  fun _ _ _ _ o q => isTrue_plain (h _ _ _ _ o fun _ e1 _ _ o => e1 ▸ wpAny_truthy_bool (q _ _ o)) he
theorem tst_not (h : Tst c e b) : Tst c (.UnaryOp .Not e p) (!b) := fun _ _ _ _ o q => isTrue_not (h _ _ _ _ o q)
theorem Tst.as (h : Tst c e b) (hb : b = b') : Tst c e b' := hb ▸ h
theorem Vl.weak {P' : Value → Prop} (h : Vl c e P) (hp : ∀ v, P v → P' v) : Vl c e P' := fun _ _ _ _ o q => h _ _ _ _ o fun v hv => q v (hp v hv)
theorem Vl.s {t : Tok} (h : Vl c e (fun u => u = .str x t)) : Vl c e (IsS x) := h.weak fun _ e => ⟨_, e⟩
/-- an If by its test -/
theorem if_tst {body orelse : List Stmt} {h : Heap} {t : Nat} {Q : Flow → Shared → Prop} {E : Value → Shared → Prop} (z : Tst c e b) (o : c.on h)
    (ht : b = true → ∀ h t, c.on h → c.wp (execs body c.env) Q E (c.st h t)) (hf : b = false → ∀ h t, c.on h → c.wp (execs orelse c.env) Q E (c.st h t)) :
    c.wp (exec (.If e body orelse p) c.env) Q E (c.st h t) := wpAny_If (z _ _ _ _ o fun h1 k1 o => by
  cases b with
  | true => exact ht rfl h1 k1 o
  | false => exact hf rfl h1 k1 o)
/-- a test that is false, without an else -/
theorem no_tst {body rest : List Stmt} {h : Heap} {t : Nat} {Q : Flow → Shared → Prop} {E : Value → Shared → Prop} (z : Tst c e false) (o : c.on h)
    (hk : ∀ h t, c.on h → c.wp (execs rest c.env) Q E (c.st h t)) : c.wp (execs (.If e body [] p :: rest) c.env) Q E (c.st h t) :=
  wpAny_execs_cons (if_tst z o (fun z => nomatch z) fun _ h1 k1 o => wpAny_execs_nil (hk h1 k1 o))
theorem execs_1 {M : Model} {A : Around} {env : Env} {st : Stmt} {s : Shared} {Q : Flow → Shared → Prop} {E : Value → Shared → Prop} (h : wpAny M A (exec st env) Q E s) : wpAny M A (execs [st] env) Q E s :=
  wpAny_execs_cons (wpAny_mono h (fun f s' q => by cases f <;> first | exact wpAny_execs_nil q | exact q) fun _ _ q => q)
/-- an If alone in its block: the test holds -/
theorem yes_if {body orelse : List Stmt} {h : Heap} {t : Nat} {Q : Flow → Shared → Prop} {E : Value → Shared → Prop} (z : Tst c e true) (o : c.on h)
    (hk : ∀ h t, c.on h → c.wp (execs body c.env) Q E (c.st h t)) : c.wp (execs [.If e body orelse p] c.env) Q E (c.st h t) := execs_1 (if_tst z o (fun _ => hk) fun z => nomatch z)
/-- it does not -/
theorem no_if {body orelse : List Stmt} {h : Heap} {t : Nat} {Q : Flow → Shared → Prop} {E : Value → Shared → Prop} (z : Tst c e false) (o : c.on h)
    (hk : ∀ h t, c.on h → c.wp (execs orelse c.env) Q E (c.st h t)) : c.wp (execs [.If e body orelse p] c.env) Q E (c.st h t) := execs_1 (if_tst z o (fun z => nomatch z) fun _ => hk)
theorem el_if {body orelse : List Stmt} {h : Heap} {t : Nat} {Q : Flow → Shared → Prop} {E : Value → Shared → Prop} (z : Tst c e b) (o : c.on h)
    (ht : b = true → ∀ h t, c.on h → c.wp (execs body c.env) Q E (c.st h t)) (hf : b = false → ∀ h t, c.on h → c.wp (execs orelse c.env) Q E (c.st h t)) :
    c.wp (execs [.If e body orelse p] c.env) Q E (c.st h t) := execs_1 (if_tst z o ht hf)
variable {h : Heap} {t : Nat} {Q : Flow → Shared → Prop} {E : Value → Shared → Prop}
theorem vl_loc {v : Value} (o : c.own) (hv : c.m x = some v) (hx : c.env.kindOf x = some .local) (hd : (x == ("__debug__" : Str)) = false := by decide) : Vl c (.Name x p) (fun u => u = v) :=
  fun _ _ _ _ n q => wpAny_Name (wpAny_loadName_local o.k hx (o.L ▸ n.F.ns) hv (q v rfl _ _ n)) hd
theorem as_name (own : c.own) (o : c.on h) (hx : c.env.kindOf x = some .local) (hv : Vl c e P) (hq : ∀ v h t, P v → (c.put x v).on h → Q .next (c.st h t)) (hsw : swapsWith e (some (.Name x p1)) p2.line c.env = pure false) :
    c.wp (exec (.Assign [.Name x p1] e p2) c.env) Q E (c.st h t) :=
  wpAny_Assign_Name (hv _ _ _ _ o fun v hP h1 k1 o1 => wpAny_storeName_local hx (own.L ▸ o1.F.ns) (fun h2 hn hs => hq v h2 _ hP ⟨o1.F.set (own.L ▸ hn) (own.L ▸ hs), o1.N.set (own.L ▸ hs)⟩) (by rw [own.k]; rfl)) hsw
variable {j : Int} {bb : Bool}
theorem vl_cint {n : Nat} : Vl c (.Constant (.int j) n p) (IsI j) := fun _ _ _ _ o q => wpAny_Constant_int (q _ ⟨_, rfl⟩ _ _ o)
theorem vl_bool {n : Nat} : Vl c (.Constant (.bool bb) n p) (fun v => v = .bool bb) := fun _ _ _ _ o q => wpAny_Constant_bool (q _ rfl _ _ o)
end
end Rta0_
local macro_rules | `(tactic| walk_at "none0") => `(tactic| skip)
section LexNew_
set_option maxRecDepth 100000
set_option maxHeartbeats 4000000

noncomputable abbrev lexD (w : World) (tk : Nat → Tok) (sio q1 q2 : Addr) (com : Str) (wsp : Bool) (st : Value) (ln : Int) (tl : Tok) (tok : Str) (tt : Tok) : Obj := dictOf [en w "instream" (tk 0) (.ref sio), en w "infile" (tk 1) (.none), en w "posix" (tk 2) (.bool true), en w "eof" (tk 3) (.none), en w "commenters" (tk 4) (.str com (tk 19)), en w "wordchars" (tk 5) (.str (Str.ofString "abcdfeghijklmnopqrstuvwxyzABCDEFGHIJKLMNOPQRSTUVWXYZ0123456789_ßàáâãäåæçèéêëìíîïðñòóôõöøùúûüýþÿÀÁÂÃÄÅÆÇÈÉÊËÌÍÎÏÐÑÒÓÔÕÖØÙÚÛÜÝÞ") (tk 20)), en w "whitespace" (tk 6) (.str (Str.ofString " \t\r\n") (tk 21)), en w "whitespace_split" (tk 7) (.bool wsp), en w "quotes" (tk 8) (.str (Str.ofString "'\"") (tk 22)), en w "escape" (tk 9) (.str (Str.ofString "\\") (tk 23)), en w "escapedquotes" (tk 10) (.str (Str.ofString "\"") (tk 24)), en w "state" (tk 11) (st), en w "pushback" (tk 12) (.ref q1), en w "lineno" (tk 13) (.int ln tl), en w "debug" (tk 14) (.int 0 (tk 25)), en w "token" (tk 15) (.str tok tt), en w "filestack" (tk 16) (.ref q2), en w "source" (tk 17) (.none), en w "_punctuation_chars" (tk 18) (.str (Str.ofString "") (tk 26))] 19
theorem news_tail {h₀ h : Heap} {L : Addr} {a : Addr × Obj} {r : List (Addr × Obj)} (N : News h₀ L h (a :: r)) : News h₀ L h r := fun p hp => N p (.tail _ hp)
section
variable {w : World} {A : Around} {h₀ : Heap} {L x dx : Addr} {m : Str → Option Value} {led rest : List (Addr × Obj)} {cn attr : Str} {cs : Scope} {ad : Addr} {ccd v : Value} {es es' : List DictEntry} {n : Nat} {p p1 p2 p3 : Pos} {p0 : Addr × Obj} {g : Array GenState} {d : Drawn} {o : OsState} {h : Heap} {t : Nat}
theorem vl_name {y : Str} (hv : m y = some v) (hk : cs.kind = .function) (hx : (envX cn cs L ad ccd []).kindOf y = some .local) (hd : (y == ("__debug__" : Str)) = false := by decide) : Vl (Pl.mk PySem.Challenge.rw_op0238_01.row.prog w A h₀ L m led (envX cn cs L ad ccd []) g d o) (.Name y p) (fun u => u = v) :=
  fun _ _ _ _ o q => nameX_L o.F hv (q v rfl _ _ o) hk hx hd
theorem vl_self (X : (K1 w.params).In h₀) (hs : m (Str.ofString "self") = some (.ref x)) (hk : cs.kind = .function) (hx : (envX cn cs L ad ccd []).kindOf (Str.ofString "self") = some .local) (hxl : (x, instObj 722 dx) ∈ led) (hdl : (dx, dictOf es n) ∈ led)
    (hl : getL attr es = some (some v)) (hv : handedIn v = true) (h3 : findIn (K1 w.params) (.ref 722) attr = some none) : Vl (Pl.mk PySem.Challenge.rw_op0238_01.row.prog w A h₀ L m led (envX cn cs L ad ccd []) g d o) (.Attribute (.Name (Str.ofString "self") p1) attr p2) (fun u => u = v) :=
  fun _ _ _ _ o q => Attribute_name (nameX_L o.F hs (get_own o.F X (InstAt.of_news o.N hxl hdl) (by kernel_rfl) (by kernel_rfl) h3 rfl hl hv (q v rfl _ _ o)) hk hx)
theorem putL_any (name : Str) (h k v : _) : ∀ es : List DictEntry, es.any (·.key.isStr name) = true → putL name h k v es = putL name 0 .none v es
  | [], z => by cases z
  | e :: r, z => by
    unfold putL
    by_cases q : e.key.isStr name = true
    · rw [if_pos q, if_pos q]
    · rw [if_neg q, if_neg q, putL_any name h k v r (by simpa [q] using z)]
theorem putL_len (name : Str) (h k v : _) : ∀ es : List DictEntry, (putL name h k v es).length ≤ es.length + 1
  | [] => Nat.le_refl _
  | e :: r => by
    unfold putL
    split
    · exact Nat.le_succ _
    · exact Nat.succ_le_succ (putL_len name h k v r)
theorem any_get (name : Str) : ∀ es : List DictEntry, es.any (·.key.isStr name) = true → (getL name es).isSome = true
  | es, z => by
    unfold getL
    cases q : es.find? (·.key.isStr name) with
    | some e => rfl
    | none =>
      obtain ⟨e, he, hk⟩ := List.any_eq_true.mp z
      exact absurd hk (by simpa using List.find?_eq_none.mp q e he)
theorem set_own {Q : Unit → Shared → Prop} {E : Value → Shared → Prop} {s : Shared} (F : Fr h₀ L s.heap m) (X : (K1 w.params).In h₀) (N : News h₀ L s.heap (p0 :: (dx, dictOf es n) :: rest)) (hxl : (x, instObj 722 dx) ∈ rest) (h0 : p0.1 ≠ dx) (hr : ∀ p ∈ rest, p.1 ≠ dx)
    (h3 : takerIn (K1 w.params) 722 attr = some none) (hl : es.any (·.key.isStr attr) = true) (hz : es.length ≤ 900)
    (h : ∀ h' tk', Fr h₀ L h' m → News h₀ L h' (p0 :: (dx, dictOf (putL attr 0 .none v es) n) :: rest) → Q () { s with heap := h', toks := tk' }) : wpAny (model PySem.Challenge.rw_op0238_01.row.prog w) A (setAttr (.ref x) attr v) Q E s :=
  set_dict F X N (InstAt.of_news N (.tail _ (.tail _ hxl)) (.tail _ (.head _))) rfl (by kernel_rfl) (by kernel_rfl) h3 (by kernel_rfl) (any_get attr es hl) (by rw [putL_any attr _ _ _ es hl]; unfold putN; rw [if_pos hl]) (.tail h0 (.head hr)) (Nat.le_trans (putL_len attr 0 .none v es) (by omega)) fun h2 F2 N2 => h h2 _ F2 N2
theorem st_put {e : Expr} {P : Value → Prop} {Q : Flow → Shared → Prop} {E : Value → Shared → Prop} (on : Pl.on (Pl.mk PySem.Challenge.rw_op0238_01.row.prog w A h₀ L m (p0 :: (dx, dictOf es n) :: rest) (envX cn cs L ad ccd []) g d o) h) (X : (K1 w.params).In h₀) (hs : m (Str.ofString "self") = some (.ref x)) (hk : cs.kind = .function) (hx : (envX cn cs L ad ccd []).kindOf (Str.ofString "self") = some .local) (hxl : (x, instObj 722 dx) ∈ rest) (h0 : p0.1 ≠ dx) (hr : ∀ p ∈ rest, p.1 ≠ dx)
    (h3 : takerIn (K1 w.params) 722 attr = some none) (hl : es.any (·.key.isStr attr) = true) (hz : es.length ≤ 900) (hsw : swapsWith e (some (.Attribute (.Name (Str.ofString "self") p1) attr p2)) p3.line (envX cn cs L ad ccd []) = pure false)
    (hv : Vl (Pl.mk PySem.Challenge.rw_op0238_01.row.prog w A h₀ L m (p0 :: (dx, dictOf es n) :: rest) (envX cn cs L ad ccd []) g d o) e P)
    (hq : ∀ v h t, P v → Pl.on (Pl.mk PySem.Challenge.rw_op0238_01.row.prog w A h₀ L m (p0 :: (dx, dictOf (putL attr 0 .none v es) n) :: rest) (envX cn cs L ad ccd []) g d o) h → Q .next ⟨h, g, d, t, o⟩) :
    wpAny (model PySem.Challenge.rw_op0238_01.row.prog w) A (exec (.Assign [.Attribute (.Name (Str.ofString "self") p1) attr p2] e p3) (envX cn cs L ad ccd [])) Q E ⟨h, g, d, t, o⟩ :=
  plainObj_wpAny_Assign_Attribute (hv _ _ _ _ on fun v hP h1 k1 o1 => nameX_L o1.F hs (set_own (s := ⟨h1, g, d, k1, o⟩) o1.F X o1.N hxl h0 hr h3 hl hz fun h2 k2 F2 N2 => hq v h2 k2 hP ⟨F2, N2⟩) hk hx) hsw
theorem st_aug {e : Expr} {op : Operator} {old : Value} {P P' : Value → Prop} {Q : Flow → Shared → Prop} {E : Value → Shared → Prop} (on : Pl.on (Pl.mk PySem.Challenge.rw_op0238_01.row.prog w A h₀ L m (p0 :: (dx, dictOf es n) :: rest) (envX cn cs L ad ccd []) g d o) h) (X : (K1 w.params).In h₀) (hs : m (Str.ofString "self") = some (.ref x)) (hk : cs.kind = .function) (hx : (envX cn cs L ad ccd []).kindOf (Str.ofString "self") = some .local) (hxl : (x, instObj 722 dx) ∈ rest) (h0 : p0.1 ≠ dx) (hr : ∀ p ∈ rest, p.1 ≠ dx)
    (h2 : findIn (K1 w.params) (.ref 722) attr = some none) (h3 : takerIn (K1 w.params) 722 attr = some none) (hl : es.any (·.key.isStr attr) = true) (hz : es.length ≤ 900) (hg : getL attr es = some (some old)) (ho : handedIn old = true)
    (hv : Vl (Pl.mk PySem.Challenge.rw_op0238_01.row.prog w A h₀ L m (p0 :: (dx, dictOf es n) :: rest) (envX cn cs L ad ccd []) g d o) e P)
    (hop : ∀ v (s' : Shared) (Q' E' : Value → Shared → Prop), P v → (∀ v' tk', P' v' → Q' v' { s' with toks := tk' }) → wpAny (model PySem.Challenge.rw_op0238_01.row.prog w) A (inplaceOp op old v) Q' E' s')
    (hq : ∀ v h t, P' v → Pl.on (Pl.mk PySem.Challenge.rw_op0238_01.row.prog w A h₀ L m (p0 :: (dx, dictOf (putL attr 0 .none v es) n) :: rest) (envX cn cs L ad ccd []) g d o) h → Q .next ⟨h, g, d, t, o⟩) :
    wpAny (model PySem.Challenge.rw_op0238_01.row.prog w) A (exec (.AugAssign (.Attribute (.Name (Str.ofString "self") p1) attr p2) op e p3) (envX cn cs L ad ccd [])) Q E ⟨h, g, d, t, o⟩ :=
  wpAny_AugAssign_AttributeAny (nameX_L on.F hs (get_own on.F X (InstAt.of_news on.N (.tail _ (.tail _ hxl)) (.tail _ (.head _))) (by kernel_rfl) (by kernel_rfl) h2 rfl hg ho
    (hv _ _ _ _ on fun v hP h1 k1 o1 => hop v _ _ _ hP fun v' k2 hP' => set_own (s := ⟨h1, g, d, k2, o⟩) o1.F X o1.N hxl h0 hr h3 hl hz fun h2 k3 F2 N2 => hq v' h2 k3 hP' ⟨F2, N2⟩)) hk hx)
end
theorem putL_new (name : Str) (h k v : _) : ∀ es : List DictEntry, es.any (·.key.isStr name) = false → putL name h k v es = es ++ [⟨h, k, v⟩]
  | [], _ => rfl
  | e :: r, z => by
    rw [List.any_cons, Bool.or_eq_false_iff] at z
    unfold putL
    rw [if_neg (by rw [z.1]; decide), putL_new name h k v r z.2]
    rfl
theorem get_new (name : Str) (es : List DictEntry) (z : es.any (·.key.isStr name) = false) (hr : es.any (·.refKey) = false) : (getL name es).isSome = true := by
  unfold getL
  rw [List.find?_eq_none.mpr (fun e he => by simpa using (List.any_eq_false.mp z) e he)]
  show (if _ then _ else _ : Option (Option Value)).isSome = true
  rw [hr]; rfl
section
variable {w : World} {A : Around} {h₀ : Heap} {L x dx : Addr} {m : Str → Option Value} {led rest : List (Addr × Obj)} {cn attr : Str} {cs : Scope} {ad : Addr} {ccd v : Value} {es : List DictEntry} {n : Nat} {p1 p2 p3 : Pos} {p0 : Addr × Obj} {g : Array GenState} {d : Drawn} {o : OsState} {h : Heap} {t : Nat} {Q : Flow → Shared → Prop} {E : Value → Shared → Prop}
/-- a new attribute of the lexer -/
theorem set_new {Q : Unit → Shared → Prop} {s : Shared} (F : Fr h₀ L s.heap m) (X : (K1 w.params).In h₀) (N : News h₀ L s.heap (p0 :: (dx, dictOf es n) :: rest)) (hxl : (x, instObj 722 dx) ∈ rest) (h0 : p0.1 ≠ dx) (hr : ∀ p ∈ rest, p.1 ≠ dx)
    (h3 : takerIn (K1 w.params) 722 attr = some none) (hl : es.any (·.key.isStr attr) = false) (hrk : es.any (·.refKey) = false) (hz : es.length ≤ 900)
    (h : ∀ h' tk' kt, Fr h₀ L h' m → News h₀ L h' (p0 :: (dx, dictOf (es ++ [⟨PyData.keyHash w.params attr, .str attr kt, v⟩]) (n + 1)) :: rest) → Q () { s with heap := h', toks := tk' }) : wpAny (model PySem.Challenge.rw_op0238_01.row.prog w) A (setAttr (.ref x) attr v) Q E s :=
  set_dict F X N (InstAt.of_news N (.tail _ (.tail _ hxl)) (.tail _ (.head _))) rfl (by kernel_rfl) (by kernel_rfl) h3 (by kernel_rfl) (get_new attr es hl hrk) (by rw [putL_new attr _ _ _ es hl]; unfold putN; rw [hl, if_neg (by decide)]) (.tail h0 (.head hr)) (by rw [List.length_append]; exact Nat.le_trans (Nat.add_le_add_right hz 1) (by decide)) fun h2 F2 N2 => h h2 _ _ F2 N2
theorem st_add {e : Expr} {P : Value → Prop} (hs : m (Str.ofString "self") = some (.ref x)) (hk : cs.kind = .function) (hx : (envX cn cs L ad ccd []).kindOf (Str.ofString "self") = some .local) (hxl : (x, instObj 722 dx) ∈ rest) (h0 : p0.1 ≠ dx) (hr : ∀ p ∈ rest, p.1 ≠ dx) (X : (K1 w.params).In h₀)
    (on : Pl.on (Pl.mk PySem.Challenge.rw_op0238_01.row.prog w A h₀ L m (p0 :: (dx, dictOf es n) :: rest) (envX cn cs L ad ccd []) g d o) h)
    (h3 : takerIn (K1 w.params) 722 attr = some none) (hl : es.any (·.key.isStr attr) = false) (hrk : es.any (·.refKey) = false) (hz : es.length ≤ 900) (hsw : swapsWith e (some (.Attribute (.Name (Str.ofString "self") p1) attr p2)) p3.line (envX cn cs L ad ccd []) = pure false)
    (hv : Vl (Pl.mk PySem.Challenge.rw_op0238_01.row.prog w A h₀ L m (p0 :: (dx, dictOf es n) :: rest) (envX cn cs L ad ccd []) g d o) e P)
    (hq : ∀ v h t kt, P v → Pl.on (Pl.mk PySem.Challenge.rw_op0238_01.row.prog w A h₀ L m (p0 :: (dx, dictOf (es ++ [⟨PyData.keyHash w.params attr, .str attr kt, v⟩]) (n + 1)) :: rest) (envX cn cs L ad ccd []) g d o) h → Q .next ⟨h, g, d, t, o⟩) :
    wpAny (model PySem.Challenge.rw_op0238_01.row.prog w) A (exec (.Assign [.Attribute (.Name (Str.ofString "self") p1) attr p2] e p3) (envX cn cs L ad ccd [])) Q E ⟨h, g, d, t, o⟩ :=
  plainObj_wpAny_Assign_Attribute (hv _ _ _ _ on fun v hP h1 k1 o1 => nameX_L o1.F hs (set_new (s := ⟨h1, g, d, k1, o⟩) o1.F X o1.N hxl h0 hr h3 hl hrk hz fun h2 k2 kt F2 N2 => hq v h2 k2 kt hP ⟨F2, N2⟩) hk hx) hsw
end
theorem news_rev6 {h₀ h : Heap} {L : Addr} {a b c d e f : Addr × Obj} {r : List (Addr × Obj)} (N : News h₀ L h (a :: b :: c :: d :: e :: f :: r)) : News h₀ L h (d :: f :: e :: c :: b :: a :: r) := fun p hp => N p (by
  simp only [List.mem_cons] at hp ⊢
  rcases hp with h | h | h | h | h | h | h <;> simp [h])
theorem wch_cat : Str.ofString "abcdfeghijklmnopqrstuvwxyzABCDEFGHIJKLMNOPQRSTUVWXYZ0123456789_" ++ Str.ofString "ßàáâãäåæçèéêëìíîïðñòóôõöøùúûüýþÿÀÁÂÃÄÅÆÇÈÉÊËÌÍÎÏÐÑÒÓÔÕÖØÙÚÛÜÝÞ" = Str.ofString "abcdfeghijklmnopqrstuvwxyzABCDEFGHIJKLMNOPQRSTUVWXYZ0123456789_ßàáâãäåæçèéêëìíîïðñòóôõöøùúûüýþÿÀÁÂÃÄÅÆÇÈÉÊËÌÍÎÏÐÑÒÓÔÕÖØÙÚÛÜÝÞ" := by decide +kernel
theorem tst_em {c : Pl} {e : Expr} (h : Vl c e (IsS (Str.ofString ""))) (he : isTrue e c.env (eval e c.env) = (do let v ← eval e c.env; standAt e.pos; holding [v] (truthy v))) : Tst c e false :=
  fun _ _ _ _ o q => isTrue_plain (h _ _ _ _ o fun _ ⟨_, e1⟩ _ _ o => e1 ▸ P.truthy_str (by decide +kernel) (q _ _ o)) he
theorem lt_swap {p0 : Addr × Obj} {dx q : Addr} {a b : Obj} {r : List (Addr × Obj)} (l : ∀ p ∈ p0 :: (dx, a) :: r, p.1 < q) : ∀ p ∈ p0 :: (dx, b) :: r, p.1 < q := fun p hp => by
  rcases List.mem_cons.mp hp with rfl | hp
  · exact l _ (.head _)
  · rcases List.mem_cons.mp hp with rfl | hp
    · exact l (dx, a) (.tail _ (.head _))
    · exact l p (.tail _ (.tail _ hp))
noncomputable abbrev liE (sc : Scope) (L : Addr) : Env := envX (Str.ofString "shlex.__init__") sc L 646 (.ref 645) []
section
variable {w : World} {mean : ExcName → Option Value} {mg mb : Str → Option Value} {A : Around} {h₀ : Heap} {L : Addr} {x dx sio ds : Addr} {m : Str → Option Value} {rest : List (Addr × Obj)} {g : Array GenState} {d : Drawn} {oz : OsState} {h : Heap} {t : Nat} {Q : Flow → Shared → Prop} {E : Value → Shared → Prop} {p0 : Addr × Obj} {k0 k1 k2 : Tok}
/-- deque() under a new attribute -/
theorem st_deq {cn attr : Str} {cs : Scope} {ad : Addr} {ccd : Value} {es : List DictEntry} {n : Nat} {p1 p2 p3 p4 p5 : Pos} (T : Top Mine.q1 (looseW Mine.q1 lz) mean mg mb h₀) (hs : m (Str.ofString "self") = some (.ref x)) (hk : cs.kind = .function) (hx : (envX cn cs L ad ccd []).kindOf (Str.ofString "self") = some .local) (hd : (envX cn cs L ad ccd []).kindOf (Str.ofString "deque") = some .globalImplicit) (hxl : (x, instObj 722 dx) ∈ rest) (h0 : p0.1 ≠ dx) (hr : ∀ p ∈ rest, p.1 ≠ dx) (X : (K1 w.params).In h₀)
    (F : Fr h₀ L h m) (N : News h₀ L h (p0 :: (dx, dictOf es n) :: rest)) (h3 : takerIn (K1 w.params) 722 attr = some none) (hl : es.any (·.key.isStr attr) = false) (hrk : es.any (·.refKey) = false) (hz : es.length ≤ 900) 
    (hq : ∀ qa h t kt, (∀ p ∈ p0 :: (dx, dictOf es n) :: rest, p.1 < qa) → Fr h₀ L h m → News h₀ L h (p0 :: (dx, dictOf (es ++ [⟨PyData.keyHash w.params attr, .str attr kt, .ref qa⟩]) (n + 1)) :: (qa, dqObj) :: rest) → Q .next ⟨h, g, d, t, oz⟩)
    (hsw : swapsWith (.Call (.Name (Str.ofString "deque") p4) [] [] p5) (some (.Attribute (.Name (Str.ofString "self") p1) attr p2)) p3.line (envX cn cs L ad ccd []) = pure false := by rfl) :
    wpAny (model PySem.Challenge.rw_op0238_01.row.prog w) A (exec (.Assign [.Attribute (.Name (Str.ofString "self") p1) attr p2] (.Call (.Name (Str.ofString "deque") p4) [] [] p5) p3) (envX cn cs L ad ccd [])) Q E ⟨h, g, d, t, oz⟩ := by
  refine plainObj_wpAny_Assign_Attribute (Call_Name0 (Name_function_global hk hd (loadGlobal_global (env := envX cn cs L ad ccd []) (T.g.keeps F.keep) (mg_of X T.g (v := .type "collections.deque") (by kernel_rfl)) ?_) (by decide))) hsw
  refine PyProof.Rows.callWith_type rfl (wpAny_of_eq (a := ⟨[], []⟩) (by with_unfolding_all rfl) ?_)
  refine deque_new F N fun qa h1 F1 N1 l1 => ?_
  have N2 : News h₀ L h1 (p0 :: (dx, dictOf es n) :: (qa, dqObj) :: rest) := fun p hp => N1 p (by
    rcases List.mem_cons.mp hp with rfl | hp
    · exact .tail _ (.head _)
    · rcases List.mem_cons.mp hp with rfl | hp
      · exact .tail _ (.tail _ (.head _))
      · rcases List.mem_cons.mp hp with rfl | hp
        · exact .head _
        · exact .tail _ (.tail _ (.tail _ hp)))
  exact nameX_L F1 hs (set_new F1 X N2 (.tail _ hxl) h0 (fun p hp => by
    rcases List.mem_cons.mp hp with rfl | hp
    · exact Nat.ne_of_gt (l1 _ (.tail _ (.head _)))
    · exact hr p hp) h3 hl hrk hz fun h2 k2 kt F2 N3 => hq qa h2 k2 kt l1 F2 N3) hk hx
/-- the sixth statement -/
theorem lex_s6 {S6 : Stmt} {sc : Scope} {k3 k4 k5 v4 v5 : Tok} (hS : ((bodOf (stB 19 0)).drop 6).head? = some S6) (hsc : scpOf (stB 19 0) = sc) (X : (K1 w.params).In h₀) (hs : m (Str.ofString "self") = some (.ref x)) (hxl : (x, instObj 722 dx) ∈ rest) (h0 : p0.1 ≠ dx) (hr : ∀ p ∈ rest, p.1 ≠ dx)
    (F : Fr h₀ L h m) (N : News h₀ L h (p0 :: (dx, dictOf [en w "instream" k0 (.ref sio), en w "infile" k1 .none, en w "posix" k2 (.bool true), en w "eof" k3 .none, en w "commenters" k4 (.str (Str.ofString "#") v4), en w "wordchars" k5 (.str (Str.ofString "abcdfeghijklmnopqrstuvwxyzABCDEFGHIJKLMNOPQRSTUVWXYZ0123456789_") v5)] 6) :: rest))
    (hq : ∀ h t v6, Fr h₀ L h m → News h₀ L h (p0 :: (dx, dictOf [en w "instream" k0 (.ref sio), en w "infile" k1 .none, en w "posix" k2 (.bool true), en w "eof" k3 .none, en w "commenters" k4 (.str (Str.ofString "#") v4), en w "wordchars" k5 (.str (Str.ofString "abcdfeghijklmnopqrstuvwxyzABCDEFGHIJKLMNOPQRSTUVWXYZ0123456789_ßàáâãäåæçèéêëìíîïðñòóôõöøùúûüýþÿÀÁÂÃÄÅÆÇÈÉÊËÌÍÎÏÐÑÒÓÔÕÖØÙÚÛÜÝÞ") v6)] 6) :: rest) → Q .next ⟨h, g, d, t, oz⟩) :
    wpAny (model PySem.Challenge.rw_op0238_01.row.prog w) A (exec S6 (liE sc L)) Q E ⟨h, g, d, t, oz⟩ := by
  subst hsc
  rw [show ((bodOf (stB 19 0)).drop 6).head? = some _ from rfl] at hS
  cases hS
  have lk : (scpOf (stB 19 0)).kind = .function := rfl
  have ls : (liE (scpOf (stB 19 0)) L).kindOf (Str.ofString "self") = some .local := rfl
  have o5 : Pl.on (Pl.mk PySem.Challenge.rw_op0238_01.row.prog w A h₀ L m (p0 :: (dx, dictOf [en w "instream" k0 (.ref sio), en w "infile" k1 .none, en w "posix" k2 (.bool true), en w "eof" k3 .none, en w "commenters" k4 (.str (Str.ofString "#") v4), en w "wordchars" k5 (.str (Str.ofString "abcdfeghijklmnopqrstuvwxyzABCDEFGHIJKLMNOPQRSTUVWXYZ0123456789_") v5)] 6) :: rest) (liE (scpOf (stB 19 0)) L) g d oz) h := ⟨F, N⟩
  clear F N
  refine if_tst (tst_bool (b := true) (vl_self (led := p0 :: (dx, dictOf _ _) :: rest) X hs lk ls (.tail _ (.tail _ hxl)) (.tail _ (.head _)) (by kernel_rfl) rfl (by kernel_rfl)) rfl) o5 (fun _ h t oo => execs_1 ?_) fun z => nomatch z
  have o6 : Pl.on (Pl.mk PySem.Challenge.rw_op0238_01.row.prog w A h₀ L m (p0 :: (dx, dictOf _ _) :: rest) (liE (scpOf (stB 19 0)) L) g d oz) h := ⟨oo.F, oo.N⟩
  clear o5 oo
  show wpAny _ _ _ _ _ ⟨h, g, d, t, oz⟩
  refine st_aug (old := .str (Str.ofString "abcdfeghijklmnopqrstuvwxyzABCDEFGHIJKLMNOPQRSTUVWXYZ0123456789_") v5) (P' := IsS (Str.ofString "abcdfeghijklmnopqrstuvwxyzABCDEFGHIJKLMNOPQRSTUVWXYZ0123456789_ßàáâãäåæçèéêëìíîïðñòóôõöøùúûüýþÿÀÁÂÃÄÅÆÇÈÉÊËÌÍÎÏÐÑÒÓÔÕÖØÙÚÛÜÝÞ")) o6 X hs lk ls hxl h0 hr (by kernel_rfl) (by kernel_rfl) (by kernel_rfl) (Nat.le_of_ble_eq_true (by kernel_rfl)) (by kernel_rfl) rfl vl_const (fun v s' Q' E' hP hq => ?_) fun v h t hv o6b => ?_
  · obtain ⟨t', rfl⟩ := hP
    refine iadd_str ?_ ?_
    · rw [wch_cat]; exact fun t k => hq _ k ⟨t, rfl⟩
    · decide +kernel
  obtain ⟨vt6, rfl⟩ := hv
  exact hq h t vt6 o6b.F (cast (by kernel_rfl) o6b.N)
/-- the lexer's attributes behind the sixth statement -/
theorem lex_rest {sc : Scope} {k3 k4 k5 v4 v6 : Tok} (hsc : scpOf (stB 19 0) = sc) (T : Top Mine.q1 (looseW Mine.q1 lz) mean mg mb h₀) (X : (K1 w.params).In h₀) (hs : m (Str.ofString "self") = some (.ref x)) (hpun : m (Str.ofString "punctuation_chars") = some (.bool false)) (hxl : (x, instObj 722 dx) ∈ rest) (h0 : p0.1 ≠ dx) (hr : ∀ p ∈ rest, p.1 ≠ dx)
    (F : Fr h₀ L h m) (N : News h₀ L h (p0 :: (dx, dictOf [en w "instream" k0 (.ref sio), en w "infile" k1 .none, en w "posix" k2 (.bool true), en w "eof" k3 .none, en w "commenters" k4 (.str (Str.ofString "#") v4), en w "wordchars" k5 (.str (Str.ofString "abcdfeghijklmnopqrstuvwxyzABCDEFGHIJKLMNOPQRSTUVWXYZ0123456789_ßàáâãäåæçèéêëìíîïðñòóôõöøùúûüýþÿÀÁÂÃÄÅÆÇÈÉÊËÌÍÎÏÐÑÒÓÔÕÖØÙÚÛÜÝÞ") v6)] 6) :: rest))
    (hq : ∀ h t m qa qb tk ts tl tt, (∀ o, ∀ p ∈ p0 :: (dx, o) :: rest, p.1 < qa) → (∀ o, ∀ p ∈ p0 :: (dx, o) :: (qa, dqObj) :: rest, p.1 < qb) → Fr h₀ L h m → News h₀ L h (p0 :: (dx, lexD w tk sio qa qb (Str.ofString "#") false (.str (Str.ofString " ") ts) 1 tl (Str.ofString "") tt) :: (qb, dqObj) :: (qa, dqObj) :: rest) → Q .next ⟨h, g, d, t, oz⟩) :
    wpAny (model PySem.Challenge.rw_op0238_01.row.prog w) A (execs ((bodOf (stB 19 0)).drop 7) (liE sc L)) Q E ⟨h, g, d, t, oz⟩ := by
  subst hsc
  have lk : (scpOf (stB 19 0)).kind = .function := rfl
  have ls : (liE (scpOf (stB 19 0)) L).kindOf (Str.ofString "self") = some .local := rfl
  have lp : (liE (scpOf (stB 19 0)) L).kindOf (Str.ofString "punctuation_chars") = some .local := rfl
  have ld : (liE (scpOf (stB 19 0)) L).kindOf (Str.ofString "deque") = some .globalImplicit := rfl
  rw [show (bodOf (stB 19 0)).drop 7 = [_, _, _, _, _, _, _, _, _, _, _, _, _, _, _] from rfl]
  have o6 : Pl.on (Pl.mk PySem.Challenge.rw_op0238_01.row.prog w A h₀ L m (p0 :: (dx, dictOf [en w "instream" k0 (.ref sio), en w "infile" k1 .none, en w "posix" k2 (.bool true), en w "eof" k3 .none, en w "commenters" k4 (.str (Str.ofString "#") v4), en w "wordchars" k5 (.str (Str.ofString "abcdfeghijklmnopqrstuvwxyzABCDEFGHIJKLMNOPQRSTUVWXYZ0123456789_ßàáâãäåæçèéêëìíîïðñòóôõöøùúûüýþÿÀÁÂÃÄÅÆÇÈÉÊËÌÍÎÏÐÑÒÓÔÕÖØÙÚÛÜÝÞ") v6)] 6) :: rest) (liE (scpOf (stB 19 0)) L) g d oz) h := ⟨F, N⟩
  clear F N
  refine wpAny_execs_cons (st_add (rest := rest) hs lk ls hxl h0 hr X o6 (by kernel_rfl) (by kernel_rfl) (by kernel_rfl) (Nat.le_of_ble_eq_true (by kernel_rfl)) rfl vl_const fun v h t kt7 hv o7 => ?_)
  obtain ⟨vt7, rfl⟩ := hv
  clear o6
  refine wpAny_execs_cons (st_add (rest := rest) hs lk ls hxl h0 hr X o7 (by kernel_rfl) (by kernel_rfl) (by kernel_rfl) (Nat.le_of_ble_eq_true (by kernel_rfl)) rfl vl_bool fun v h t kt8 hv o8 => ?_)
  subst hv
  clear o7
  refine wpAny_execs_cons (st_add (rest := rest) hs lk ls hxl h0 hr X o8 (by kernel_rfl) (by kernel_rfl) (by kernel_rfl) (Nat.le_of_ble_eq_true (by kernel_rfl)) rfl vl_const fun v h t kt9 hv o9 => ?_)
  obtain ⟨vt9, rfl⟩ := hv
  clear o8
  refine wpAny_execs_cons (st_add (rest := rest) hs lk ls hxl h0 hr X o9 (by kernel_rfl) (by kernel_rfl) (by kernel_rfl) (Nat.le_of_ble_eq_true (by kernel_rfl)) rfl vl_const fun v h t kt10 hv o10 => ?_)
  obtain ⟨vt10, rfl⟩ := hv
  clear o9
  refine wpAny_execs_cons (st_add (rest := rest) hs lk ls hxl h0 hr X o10 (by kernel_rfl) (by kernel_rfl) (by kernel_rfl) (Nat.le_of_ble_eq_true (by kernel_rfl)) rfl vl_const fun v h t kt11 hv o11 => ?_)
  obtain ⟨vt11, rfl⟩ := hv
  clear o10
  refine wpAny_execs_cons (st_add (rest := rest) hs lk ls hxl h0 hr X o11 (by kernel_rfl) (by kernel_rfl) (by kernel_rfl) (Nat.le_of_ble_eq_true (by kernel_rfl)) rfl vl_const fun v h t kt12 hv o12 => ?_)
  obtain ⟨vt12, rfl⟩ := hv
  clear o11
  refine wpAny_execs_cons (st_deq (rest := rest) T hs lk ls ld hxl h0 hr X o12.F o12.N (by kernel_rfl) (by kernel_rfl) (by kernel_rfl) (Nat.le_of_ble_eq_true (by kernel_rfl)) fun qa13 h t kt13 lq13 F N => ?_)
  have o13 : Pl.on (Pl.mk PySem.Challenge.rw_op0238_01.row.prog w A h₀ L m (p0 :: (dx, dictOf _ _) :: (qa13, dqObj) :: rest) (liE (scpOf (stB 19 0)) L) g d oz) h := ⟨F, N⟩
  clear o12 F N
  have hr1 : ∀ p ∈ (qa13, dqObj) :: rest, p.1 ≠ dx := fun p hp => by
    rcases List.mem_cons.mp hp with rfl | hp
    · exact Nat.ne_of_gt (lq13 _ (.tail _ (.head _)))
    · exact hr p hp
  refine wpAny_execs_cons (st_add (rest := (qa13, dqObj) :: rest) hs lk ls (.tail _ hxl) h0 hr1 X o13 (by kernel_rfl) (by kernel_rfl) (by kernel_rfl) (Nat.le_of_ble_eq_true (by kernel_rfl)) rfl vl_cint fun v h t kt14 hv o14 => ?_)
  obtain ⟨vt14, rfl⟩ := hv
  clear o13
  refine wpAny_execs_cons (st_add (rest := (qa13, dqObj) :: rest) hs lk ls (.tail _ hxl) h0 hr1 X o14 (by kernel_rfl) (by kernel_rfl) (by kernel_rfl) (Nat.le_of_ble_eq_true (by kernel_rfl)) rfl vl_cint fun v h t kt15 hv o15 => ?_)
  obtain ⟨vt15, rfl⟩ := hv
  clear o14
  refine wpAny_execs_cons (st_add (rest := (qa13, dqObj) :: rest) hs lk ls (.tail _ hxl) h0 hr1 X o15 (by kernel_rfl) (by kernel_rfl) (by kernel_rfl) (Nat.le_of_ble_eq_true (by kernel_rfl)) rfl vl_const fun v h t kt16 hv o16 => ?_)
  obtain ⟨vt16, rfl⟩ := hv
  clear o15
  refine wpAny_execs_cons (st_deq (rest := (qa13, dqObj) :: rest) T hs lk ls ld (.tail _ hxl) h0 hr1 X o16.F o16.N (by kernel_rfl) (by kernel_rfl) (by kernel_rfl) (Nat.le_of_ble_eq_true (by kernel_rfl)) fun qa17 h t kt17 lq17 F N => ?_)
  have o17 : Pl.on (Pl.mk PySem.Challenge.rw_op0238_01.row.prog w A h₀ L m (p0 :: (dx, dictOf _ _) :: (qa17, dqObj) :: (qa13, dqObj) :: rest) (liE (scpOf (stB 19 0)) L) g d oz) h := ⟨F, N⟩
  clear o16 F N
  have hr2 : ∀ p ∈ (qa17, dqObj) :: (qa13, dqObj) :: rest, p.1 ≠ dx := fun p hp => by
    rcases List.mem_cons.mp hp with rfl | hp
    · exact Nat.ne_of_gt (lq17 _ (.tail _ (.head _)))
    · exact hr1 p hp
  refine wpAny_execs_cons (st_add (rest := (qa17, dqObj) :: (qa13, dqObj) :: rest) hs lk ls (.tail _ (.tail _ hxl)) h0 hr2 X o17 (by kernel_rfl) (by kernel_rfl) (by kernel_rfl) (Nat.le_of_ble_eq_true (by kernel_rfl)) rfl vl_none fun v h t kt18 hv o18 => ?_)
  subst hv
  clear o17
  refine wpAny_execs_cons (if_tst (tst_not (tst_bool (b := false) (vl_loc ⟨lk, rfl⟩ hpun lp) rfl)) o18 (fun _ h t oo => execs_1 ?_) fun z => nomatch z)
  have o19 : Pl.on (Pl.mk PySem.Challenge.rw_op0238_01.row.prog w A h₀ L m (p0 :: (dx, dictOf _ _) :: (qa17, dqObj) :: (qa13, dqObj) :: rest) (liE (scpOf (stB 19 0)) L) g d oz) h := ⟨oo.F, oo.N⟩
  clear o18 oo
  show wpAny _ _ _ _ _ ⟨h, g, d, t, oz⟩
  refine as_name ⟨lk, rfl⟩ o19 lp vl_const (fun v h t hv oo => ?_) rfl
  obtain ⟨vt19, rfl⟩ := hv
  have key : ∃ m1, Fr h₀ L h m1 ∧ m1 (Str.ofString "self") = some (.ref x) ∧ m1 (Str.ofString "punctuation_chars") = some (.str (Str.ofString "") vt19) := ⟨_, oo.F, (Pl.put_ne (by decide)).trans hs, Pl.put_eq⟩
  obtain ⟨m1, F, hs1, hp1⟩ := key
  have N : News h₀ L h (p0 :: (dx, dictOf _ _) :: (qa17, dqObj) :: (qa13, dqObj) :: rest) := oo.N
  clear oo o19
  refine wpAny_execs_cons (st_add (rest := (qa17, dqObj) :: (qa13, dqObj) :: rest) hs1 lk ls (.tail _ (.tail _ hxl)) h0 hr2 X ⟨F, N⟩ (by kernel_rfl) (by kernel_rfl) (by kernel_rfl) (Nat.le_of_ble_eq_true (by kernel_rfl)) rfl (vl_loc ⟨lk, rfl⟩ hp1 lp) fun v h t kt20 hv o20 => ?_)
  subst hv
  clear F N
  refine execs_1 (if_tst (tst_em (vl_loc ⟨lk, rfl⟩ hp1 lp).s rfl) o20 (fun z => nomatch z) fun _ h t o => wpAny_execs_nil ?_)
  exact hq h t m1 qa13 qa17 (fun i => [k0, k1, k2, k3, k4, k5, kt7, kt8, kt9, kt10, kt11, kt12, kt13, kt14, kt15, kt16, kt17, kt18, kt20, v4, v6, vt7, vt9, vt10, vt11, vt15, vt19].getD i 0) vt12 vt14 vt16 (fun u => lt_swap (lq13)) (fun u => lt_swap (lq17)) o.F (cast (by kernel_rfl) o.N)
end
local macro_rules | `(tactic| walk_at "call ref") => `(tactic| (k_here; (with_reducible show wpAny _ _ (call (Value.ref 587) _ _) _ _ _); refine held ?_))
local macro_rules | `(tactic| walk_at "exec If") => `(tactic| refine held ?_)
theorem news_rot4 {h₀ h : Heap} {L : Addr} {a b c d : Addr × Obj} {r : List (Addr × Obj)} (N : News h₀ L h (a :: b :: c :: d :: r)) : News h₀ L h (b :: d :: c :: a :: r) := fun p hp => N p (by
  simp only [List.mem_cons] at hp ⊢
  rcases hp with h | h | h | h | h <;> simp [h])
theorem news_rot6 {h₀ h : Heap} {L : Addr} {a b c d e f : Addr × Obj} {r : List (Addr × Obj)} (N : News h₀ L h (a :: b :: c :: d :: e :: f :: r)) : News h₀ L h (a :: b :: e :: f :: d :: c :: r) := fun p hp => N p (by
  simp only [List.mem_cons] at hp ⊢
  rcases hp with h | h | h | h | h | h | h <;> simp [h])
theorem lexNew_ct (w : World) (text : Str) (t1 : Tok) (hl : text.length ≤ 1000) :
    Does w 722 [.str text t1] [(Str.ofString "posix", .bool true)] 30 150 (fun _ => True) (fun news news' r => ∃ x dx sio ds q1 q2 tk tk5 tp5 tl tt ts, r = .ref x ∧ news' = (ds, sioD w tk5 text 0 tp5) :: (dx, lexD w tk sio q1 q2 (Str.ofString "#") false (.str (Str.ofString " ") ts) 1 tl (Str.ofString "") tt) :: (x, instObj 722 dx) :: (sio, instObj 587 ds) :: (q1, dqObj) :: (q2, dqObj) :: news ∧ (∀ p ∈ news, p.1 < dx) ∧ dx < x ∧ x < ds ∧ ds < sio ∧ sio < q1 ∧ q1 < q2) := by
  unfold Does
  w_on
  k_fill
  intro mean mg mb dp un gd cn ns ig ic mo a ccd cl outer A₀ base h₀ L m news s Q E B F X N T hpre hd hu hret
  k_steps
  unfold Held
  refine wpAny_If ?_
  k_steps
  unfold Held
  k_dflt (refine' does_use (sioNew_ct _ _ _ ?hl) ?B ?F ?X ?N ?T ?pre ?hd ?hu ?_; (case hl => assumption); (case B => k_asm); (case F => k_asm); (case X => k_asm); (case N => k_asm); (case T => k_asm); (case pre => trivial); (case hd => ktr_room); (case hu => ktr_units); k_whole; (intro r' nw' h' tk' F' N' hR'); (obtain ⟨x', d', tk5, tp5, e1, e2, l1, l2⟩ := hR'); subst e1; subst e2; (try k_lt l1); (try k_lt2 l2); (try dsimp only); (try k_sweep))
  k_steps
  unfold Held
  refine wpAny_If ?_
  k_steps
  unfold Held
  refine wpAny_If ?_
  k_steps
  unfold Held
  rename News _ _ _ _ => N1
  rename Fr _ _ _ _ => F1
  rename Frag.In _ _ => X1
  rename Top _ _ _ _ _ _ => T1
  rename _ ∧ _ ∧ AllLt _ _ => l4
  have N2 := news_rot4 N1
  clear N1
  have hne : ∀ {dx x sio ds : Addr} {o1 o2 : Obj}, (∀ p ∈ news, p.1 < dx) → dx < x → x < ds → ds < sio → ∀ p ∈ (x, o1) :: (sio, o2) :: news, p.1 ≠ dx := fun h1 h2 h3 h4 p hp => by
    rcases List.mem_cons.mp hp with rfl | hp
    · exact Nat.ne_of_gt h2
    · rcases List.mem_cons.mp hp with rfl | hp
      · exact Nat.ne_of_gt (Nat.lt_trans h2 (Nat.lt_trans h3 h4))
      · exact Nat.ne_of_lt (h1 p hp)
  refine lex_s6 rfl rfl X1 rfl (.head _) (Nat.ne_of_gt l4.2.1) (hne (by assumption) (by assumption) l4.1 (by assumption)) F1 N2 fun h6 t6 v6 F6 N6 => ?_
  refine lex_rest rfl T1 X1 rfl rfl (.head _) (Nat.ne_of_gt l4.2.1) (hne (by assumption) (by assumption) l4.1 (by assumption)) F6 N6 fun h9 t9 m9 qa qb tk9 ts9 tl9 tt9 la lb F9 N9 => ?_
  clear F1 N2 F6 N6 hne
  have N8 := news_rot6 N9
  clear N9
  k_steps
  exact hret _ _ _ _ (by k_asm) (by k_asm) ⟨_, _, _, _, _, _, tk9, _, _, tl9, tt9, ts9, rfl, rfl, by assumption, by assumption, l4.1, by assumption, la default _ (.tail _ (.tail _ (.tail _ (.head _)))), lb default _ (.tail _ (.tail _ (.head _)))⟩
end LexNew_
section RtDefs_
set_option maxRecDepth 100000
set_option maxHeartbeats 4000000

inductive LSt where
  | sp
  | wd
  | qt (k : Nat)
noncomputable abbrev isW (c : Nat) : Bool := c == 32 || c == 9 || c == 13 || c == 10
noncomputable abbrev isQ (c : Nat) : Bool := c == 39 || c == 34
/-- what read_token does, sign by sign: quoted, the token, whether the text's end was met, the rest -/
noncomputable def rt : LSt → Bool → List Nat → List Nat → Option (Bool × List Nat × Bool × List Nat)
  | .sp, q, tok, [] => some (q, tok, true, [])
  | .sp, q, tok, c :: r => if isW c then rt .sp q tok r else if isQ c then rt (.qt c) q tok r else rt .wd q [c] r
  | .wd, q, tok, [] => some (q, tok, true, [])
  | .wd, q, tok, c :: r => if isW c then some (q, tok, false, r) else if isQ c then rt (.qt c) q tok r else rt .wd q (tok ++ [c]) r
  | .qt _, _, _, [] => none
  | .qt k, _, tok, c :: r => if c = k then rt .wd true tok r else rt (.qt k) true (tok ++ [c]) r
noncomputable abbrev stV : LSt → Tok → Value
  | .sp, t => .str (Str.ofString " ") t
  | .wd, t => .str (Str.ofString "a") t
  | .qt k, t => .str (mkS [k]) t
noncomputable abbrev rtM (x : Addr) (q : Bool) (te : Tok) (nc : Option Value) : Str → Option Value := fun y =>
  if y = Str.ofString "nextchar" then nc else if y = Str.ofString "escapedstate" then some (.str (Str.ofString " ") te) else if y = Str.ofString "quoted" then some (.bool q) else if y = Str.ofString "self" then some (.ref x) else none
theorem rtM_nc {x : Addr} {q : Bool} {te : Tok} {nc v : Option Value} : (fun y => if y = Str.ofString "nextchar" then v else rtM x q te nc y) = rtM x q te v := by
  funext y
  unfold rtM
  split <;> rfl
theorem rtM_q {x : Addr} {q q' : Bool} {te : Tok} {nc v : Option Value} : (fun y => if y = Str.ofString "quoted" then some (.bool q') else if y = Str.ofString "nextchar" then v else rtM x q te nc y) = rtM x q' te v := by
  funext y
  by_cases h : y = Str.ofString "quoted"
  · subst h; rfl
  · unfold rtM
    simp only [h, if_false]
    split <;> rfl
/-- the ledger at a token's reading -/
noncomputable abbrev rtL (w : World) (tk tk5 : Nat → Tok) (x dx sio ds q1 q2 : Addr) (text : Str) (pos : Int) (tp : Tok) (st : Value) (ln : Int) (tl : Tok) (tok : Str) (tt : Tok) (r0 : List (Addr × Obj)) : List (Addr × Obj) :=
  (ds, sioD w tk5 text pos tp) :: (dx, lexD w tk sio q1 q2 (Str.ofString "") true st ln tl tok tt) :: (x, instObj 722 dx) :: (sio, instObj 587 ds) :: (q1, dqObj) :: (q2, dqObj) :: r0
theorem rtM_init {x : Addr} {te : Tok} : (fun y => if y = Str.ofString "escapedstate" then some (.str (Str.ofString " ") te) else if y = Str.ofString "quoted" then some (.bool false) else List.lookup y [(Str.ofString "self", Value.ref x)]) = rtM x false te none := by
  funext y
  unfold rtM
  by_cases h1 : y = Str.ofString "nextchar"
  · subst h1; rfl
  · rw [if_neg h1]
    split
    · rfl
    · split
      · rfl
      · rw [List.lookup_cons]
        by_cases h : y = Str.ofString "self"
        · rw [if_pos h, beq_iff_eq.mpr h]
        · rw [if_neg h, beq_eq_false_iff_ne.mpr h]; rfl
theorem end_of {M : Model} {A : Around} {E : Value → Shared → Prop} {s : Shared} {h₀ : Heap} {L : Addr} {m : Str → Option Value} {Q : Flow → Shared → Prop} {t : Sem Flow} (_F : Fr h₀ L s.heap m) (P : Heap → Addr → Shared → Flow → Shared → Prop)
    (h1 : wpAny M A t (P h₀ L s) E s) (h2 : ∀ f s', P h₀ L s f s' → Q f s') : wpAny M A t Q E s := wpAny_mono h1 h2 (fun _ _ z => z)
noncomputable def stOk : LSt → Bool → List Nat → Prop
  | .sp, q, tok => q = false ∧ tok = []
  | .wd, q, tok => tok ≠ [] ∨ q = true
  | .qt k, _, _ => k = 39 ∨ k = 34
noncomputable def RtJ (w : World) (tk tk5 : Nat → Tok) (x dx sio ds q1 q2 : Addr) (T : Str) (rest0 : List Nat) (r0 : List (Addr × Obj)) (n : Nat) (m : Str → Option Value) (news : List (Addr × Obj)) : Prop :=
  ∃ st q tok pre rest p te nc tp ts ln tl tt, m = rtM x q te nc ∧ news = rtL w tk tk5 x dx sio ds q1 q2 T p tp (stV st ts) ln tl (mkS tok) tt r0 ∧ n = rest.length ∧ T = mkS (pre ++ rest) ∧ p = (pre.length : Int) ∧
    rt st q tok rest = rt .sp false [] rest0 ∧ stOk st q tok ∧ (∀ c ∈ rest, c ≠ 92) ∧ tok.length + rest.length ≤ rest0.length ∧ pre.length + rest.length ≤ 1000
/-- behind the loop -/
noncomputable def RtEnd (w : World) (tk tk5 : Nat → Tok) (x dx sio ds q1 q2 : Addr) (T : Str) (rest0 : List Nat) (r0 : List (Addr × Obj)) (h₀ : Heap) (L : Addr) (s : Shared) (f : Flow) (s' : Shared) : Prop :=
  f = .next ∧ ∃ h' tk' q tok fin r pre p te nc tp st ts ln tl tt, s' = { s with heap := h', toks := tk' } ∧ Fr h₀ L h' (rtM x q te nc) ∧ News h₀ L h' (rtL w tk tk5 x dx sio ds q1 q2 T p tp st ln tl (mkS tok) tt r0) ∧
    st = (if fin then .none else .str (Str.ofString " ") ts) ∧ T = mkS (pre ++ r) ∧ p = (pre.length : Int) ∧ rt .sp false [] rest0 = some (q, tok, fin, r) ∧ (fin = true → r = []) ∧ tok.length ≤ rest0.length
theorem rtM_fr {h₀ h : Heap} {L : Addr} {x : Addr} {q : Bool} {te : Tok} {nc : Option Value} {m : Str → Option Value} (F : Fr h₀ L h m) (e : m = rtM x q te nc) : Fr h₀ L h (rtM x q te nc) := e ▸ F
end RtDefs_
section TxtR_
set_option maxRecDepth 100000

section
variable {prog : Program} {w : World} {A : Around} {E : Value → Shared → Prop} {s : Shared} {t u : Tok}
theorem in1_no {c : Nat} {Y : Str} {Q : Value → Shared → Prop} (h0 : c ∉ Y.cps.toList) (h : Q (.bool false) s) : wpAny (model prog w) A (compareOp .In (.str (mkS [c]) u) (.str Y t)) Q E s := by
  refine in_str ?_
  have e : (!(Builtin.Str.occurrences Y (mkS [c]) 0 Y.length 1).isEmpty) = decide (c ∈ Y.cps.toList) := StrLaws.found_one Y c
  rw [e, decide_eq_false h0]; exact h
theorem in1_yes {c : Nat} {Y : Str} {Q : Value → Shared → Prop} (h0 : c ∈ Y.cps.toList) (h : Q (.bool true) s) : wpAny (model prog w) A (compareOp .In (.str (mkS [c]) u) (.str Y t)) Q E s := by
  refine in_str ?_
  have e : (!(Builtin.Str.occurrences Y (mkS [c]) 0 Y.length 1).isEmpty) = decide (c ∈ Y.cps.toList) := StrLaws.found_one Y c
  rw [e, decide_eq_true h0]; exact h
theorem notin1 {c : Nat} {Y : Str} {Q : Value → Shared → Prop} (h0 : c ∉ Y.cps.toList) (h : Q (.bool true) s) : wpAny (model prog w) A (compareOp .NotIn (.str (mkS [c]) u) (.str Y t)) Q E s := by
  refine notIn_str ?_
  have e : (!(Builtin.Str.occurrences Y (mkS [c]) 0 Y.length 1).isEmpty) = decide (c ∈ Y.cps.toList) := StrLaws.found_one Y c
  rw [decide_eq_false h0] at e
  have e' : (Builtin.Str.occurrences Y (mkS [c]) 0 Y.length 1).isEmpty = true := by
    cases q : (Builtin.Str.occurrences Y (mkS [c]) 0 Y.length 1).isEmpty with
    | true => rfl
    | false => rw [q] at e; cases e
  first | (rw [e']; exact h) | (rw [e]; exact h)
theorem in_cl_no {X Y : Str} {Q : Value → Shared → Prop} (h0 : (!(Builtin.Str.occurrences Y X 0 Y.length 1).isEmpty) = false) (h : Q (.bool false) s) : wpAny (model prog w) A (compareOp .In (.str X u) (.str Y t)) Q E s := in_str (h0 ▸ h)
theorem in_cl_yes {X Y : Str} {Q : Value → Shared → Prop} (h0 : (!(Builtin.Str.occurrences Y X 0 Y.length 1).isEmpty) = true) (h : Q (.bool true) s) : wpAny (model prog w) A (compareOp .In (.str X u) (.str Y t)) Q E s := in_str (h0 ▸ h)
theorem eq_no {x y : Str} {Q : Value → Shared → Prop} (h0 : (x == y) = false) (h : Q (.bool false) s) : wpAny (model prog w) A (compareOp .Eq (.str x t) (.str y u)) Q E s := by
  refine eq_str ?_
  rw [h0]; exact h
theorem eq_yes {x y : Str} {Q : Value → Shared → Prop} (h0 : (x == y) = true) (h : Q (.bool true) s) : wpAny (model prog w) A (compareOp .Eq (.str x t) (.str y u)) Q E s := by
  refine eq_str ?_
  rw [h0]; exact h
theorem truthy_mk {l : List Nat} {b : Bool} {Q : Bool → Shared → Prop} (hl : l.length ≤ 100000) (hb : (!l.isEmpty) = b) (h : Q b { s with toks := s.toks + 1 + 1 }) : wpAny (model prog w) A (truthy (.str (mkS l) t)) Q E s := by
  refine P.truthy_str ?_ ?_
  · rw [mkS_len]; omega
  · rw [mkS_len]
    have : ((l.length : Int) != 0) = b := by
      rw [← hb]
      cases l with
      | nil => rfl
      | cons a r => exact bne_iff_ne.mpr (by simp only [List.length_cons]; omega)
    rw [this]; exact h
theorem truthy_cons {c : Nat} {l : List Nat} {Q : Bool → Shared → Prop} (hl : (c :: l).length ≤ 100000) (h : Q true { s with toks := s.toks + 1 + 1 }) : wpAny (model prog w) A (truthy (.str (mkS (c :: l)) t)) Q E s := truthy_mk hl rfl h
theorem truthy_nil {Q : Bool → Shared → Prop} (h : Q false { s with toks := s.toks + 1 + 1 }) : wpAny (model prog w) A (truthy (.str (mkS []) t)) Q E s := truthy_mk (Nat.zero_le _) rfl h
theorem mk_app (a b : List Nat) : mkS a ++ mkS b = mkS (a ++ b) := by
  show Str.mk (a.toArray ++ b.toArray) = _
  rw [List.append_toArray]
theorem add_mk {a b : List Nat} {Q : Value → Shared → Prop} (hl : a.length + b.length ≤ 100000) (h : ∀ t' tk', Q (.str (mkS (a ++ b)) t') { s with toks := tk' }) : wpAny (model prog w) A (binaryOp .Add (.str (mkS a) t) (.str (mkS b) u)) Q E s := by
  refine add_str ?_ ?_
  · rw [mk_app]; exact h
  · rw [mkS_len, mkS_len, sizeLine_eq]; omega
theorem iadd_mk {a b : List Nat} {Q : Value → Shared → Prop} (hl : a.length + b.length ≤ 100000) (h : ∀ t' tk', Q (.str (mkS (a ++ b)) t') { s with toks := tk' }) : wpAny (model prog w) A (inplaceOp .Add (.str (mkS a) t) (.str (mkS b) u)) Q E s := by
  refine iadd_str ?_ ?_
  · rw [mk_app]; exact h
  · rw [mkS_len, mkS_len, sizeLine_eq]; omega
end
theorem mk_ne {a b : Nat} (h : a ≠ b) : (mkS [a] == mkS [b]) = false := by
  rw [beq_eq_false_iff_ne]
  intro e
  have := congrArg (fun x : Str => x.cps.toList) e
  simp at this
  exact h this
theorem mk_eq (l : List Nat) : (mkS l == mkS l) = true := beq_self_eq_true _
theorem ws_l : (Str.ofString " \t\r\n").cps.toList = [32, 9, 13, 10] := by decide +kernel
theorem qs_l : (Str.ofString "'\"").cps.toList = [39, 34] := by decide +kernel
theorem es_l : (Str.ofString "\\").cps.toList = [92] := by decide +kernel
theorem em_l : (Str.ofString "").cps.toList = [] := by decide +kernel
theorem nl_s : Str.ofString "\n" = mkS [10] := by decide +kernel
theorem sp_s : Str.ofString " " = mkS [32] := by decide +kernel
theorem em_s : Str.ofString "" = mkS [] := by decide +kernel
theorem fW {c : Nat} : c ∈ (Str.ofString " \t\r\n").cps.toList ↔ isW c = true := by rw [ws_l]; simp [isW, or_assoc]
theorem fQ {c : Nat} : c ∈ (Str.ofString "'\"").cps.toList ↔ isQ c = true := by rw [qs_l]; simp [isQ]
theorem fN {c : Nat} (h : c ≠ 10) : (mkS [c] == Str.ofString "\n") = false := by rw [nl_s]; exact mk_ne h
theorem fS {c : Nat} (h : c ≠ 32) : (mkS [c] == Str.ofString " ") = false := by rw [sp_s]; exact mk_ne h
theorem fE {c : Nat} (h : c ≠ 92) : c ∉ (Str.ofString "\\").cps.toList := by rw [es_l]; simpa using h
theorem fC {c : Nat} : c ∉ (Str.ofString "").cps.toList := by rw [em_l]; simp
end TxtR_
section Rta_
set_option maxRecDepth 100000
set_option maxHeartbeats 4000000

section
variable {c : Pl} {e e' : Expr} {b b' : Bool} {x y : Str} {P : Value → Prop} {p p1 p2 p3 : Pos}
theorem tst_is {k : Nat} (h : Vl c e (fun v => plainIs v .none = true ∧ (v == .none) = b)) (hm : behindInMarks .Is (.Constant .none k p) = false := by with_unfolding_all rfl) : Tst c (.Compare e [.Is] [.Constant .none k p] p1) b :=
  fun _ _ _ _ o q => wpAny_isTrue_Compare1 (h _ _ _ _ o fun _ hv _ _ o => wpAny_Constant_none (wpAny_is_plain hv.1 (wpAny_truthy_bool (hv.2 ▸ q _ _ o)))) hm
theorem tst_ge {j k : Int} {t : Tok} {n : Nat} (h : Vl c e (fun v => v = .int j t)) (hm : behindInMarks .GtE (.Constant (.int k) n p) = false := by with_unfolding_all rfl) : Tst c (.Compare e [.GtE] [.Constant (.int k) n p] p1) (decide (j ≥ k)) :=
  fun _ _ _ _ o q => wpAny_isTrue_Compare1 (h _ _ _ _ o fun _ hv _ _ o => wpAny_Constant_int (hv ▸ P.ge_int (wpAny_truthy_bool (q _ _ o)))) hm
theorem tst_eq (h : Vl c e (IsS x)) (h' : Vl c e' (IsS y)) (hm : behindInMarks .Eq e' = false := by with_unfolding_all rfl) : Tst c (.Compare e [.Eq] [e'] p) (x == y) :=
  fun _ _ _ _ o q => wpAny_isTrue_Compare1 (h _ _ _ _ o fun _ ⟨_, e1⟩ _ _ o => h' _ _ _ _ o fun _ ⟨_, e2⟩ _ _ o => e1 ▸ e2 ▸ eq_str (wpAny_truthy_bool (q _ _ o))) hm
theorem tst_in (hb : (!(Builtin.Str.occurrences y x 0 y.length 1).isEmpty) = b) (h : Vl c e (IsS x)) (h' : Vl c e' (IsS y)) (hm : behindInMarks .In e' = false := by with_unfolding_all rfl) : Tst c (.Compare e [.In] [e'] p) b :=
  fun _ _ _ _ o q => wpAny_isTrue_Compare1 (h _ _ _ _ o fun _ ⟨_, e1⟩ _ _ o => h' _ _ _ _ o fun _ ⟨_, e2⟩ _ _ o => e1 ▸ e2 ▸ in_str (wpAny_truthy_bool (hb ▸ q _ _ o))) hm
theorem hb_not {z b : Bool} (h : (!z) = b) : z = !b := by cases z <;> cases b <;> simp_all
theorem tst_notin (hb : (!(Builtin.Str.occurrences y x 0 y.length 1).isEmpty) = b) (h : Vl c e (IsS x)) (h' : Vl c e' (IsS y)) (hm : behindInMarks .NotIn e' = false := by with_unfolding_all rfl) : Tst c (.Compare e [.NotIn] [e'] p) (!b) :=
  fun _ _ _ _ o q => wpAny_isTrue_Compare1 (h _ _ _ _ o fun _ ⟨_, e1⟩ _ _ o => h' _ _ _ _ o fun _ ⟨_, e2⟩ _ _ o => e1 ▸ e2 ▸ notIn_str (wpAny_truthy_bool (by rw [hb_not hb, Bool.not_not]; exact q _ _ o))) hm
theorem one_in {d : Nat} {y : Str} : (!(Builtin.Str.occurrences y (mkS [d]) 0 y.length 1).isEmpty) = decide (d ∈ y.cps.toList) := StrLaws.found_one y d
theorem tst_txt {l : List Nat} (hl : l.length ≤ 100000) (h : Vl c e (IsS (mkS l))) (he : isTrue e c.env (eval e c.env) = (do let v ← eval e c.env; standAt e.pos; holding [v] (truthy v))) : Tst c e (!l.isEmpty) :=
  fun _ _ _ _ o q => isTrue_plain (h _ _ _ _ o fun _ ⟨_, e1⟩ _ _ o => e1 ▸ truthy_mk hl rfl (q _ _ o)) he
theorem tst_and (h : Tst c e b) (h' : b = true → Tst c e' b') (hf : b = false → b' = false) : Tst c (.BoolOp .And [e, e'] p) b' := fun _ _ _ _ o q => isTrue_and (h _ _ _ _ o fun _ _ o => by
  cases b with
  | false => rw [if_neg (by decide), ← hf rfl]; exact q _ _ o
  | true => exact isTrue_and (h' rfl _ _ _ _ o fun _ _ o => by
    cases b' with
    | false => exact q _ _ o
    | true => exact isTrue_and_nil (q _ _ o)))
theorem tst_and3 {e3 : Expr} (h : Tst c e b) (h' : b = true → Tst c e' false) : Tst c (.BoolOp .And [e, e', e3] p) false := fun _ _ _ _ o q => isTrue_and (h _ _ _ _ o fun _ _ o => by
  cases b with
  | false => exact q _ _ o
  | true => exact isTrue_and (h' rfl _ _ _ _ o fun _ _ o => q _ _ o))
theorem tst_or (h : Tst c e b) (h' : b = false → Tst c e' b') (ht : b = true → b' = true) : Tst c (.BoolOp .Or [e, e'] p) b' := fun _ _ _ _ o q => isTrue_or (h _ _ _ _ o fun _ _ o => by
  cases b with
  | true => rw [if_pos rfl, ← ht rfl]; exact q _ _ o
  | false => exact isTrue_or (h' rfl _ _ _ _ o fun _ _ o => by
    cases b' with
    | true => exact q _ _ o
    | false => exact isTrue_or_nil (q _ _ o)))
theorem tst_or3 {e3 : Expr} (h : Tst c e b) (h' : Tst c e' b') (h3 : Tst c e3 true) : Tst c (.BoolOp .Or [e, e', e3] p) true := fun _ _ _ _ o q => isTrue_or (h _ _ _ _ o fun _ _ o => by
  cases b with
  | true => exact q _ _ o
  | false => exact isTrue_or (h' _ _ _ _ o fun _ _ o => by
    cases b' with
    | true => exact q _ _ o
    | false => exact isTrue_or (h3 _ _ _ _ o fun _ _ o => q _ _ o)))
theorem tst_gt {j k : Int} {t : Tok} {n : Nat} (h : Vl c e (fun v => v = .int j t)) (hm : behindInMarks .Gt (.Constant (.int k) n p) = false := by with_unfolding_all rfl) : Tst c (.Compare e [.Gt] [.Constant (.int k) n p] p1) (decide (j > k)) :=
  fun _ _ _ _ o q => wpAny_isTrue_Compare1 (h _ _ _ _ o fun _ hv _ _ o => wpAny_Constant_int (hv ▸ P.gt_int (wpAny_truthy_bool (q _ _ o)))) hm
theorem tst_and3b {e3 : Expr} {b3 : Bool} (h : Tst c e true) (h' : Tst c e' b) (h3 : Tst c e3 b3) : Tst c (.BoolOp .And [e, e', e3] p) (b && b3) := fun _ _ _ _ o q => isTrue_and (h _ _ _ _ o fun _ _ o => isTrue_and (h' _ _ _ _ o fun _ _ o => by
  cases b with
  | false => exact q _ _ o
  | true => exact isTrue_and (h3 _ _ _ _ o fun _ _ o => by
    cases b3 with
    | false => exact q _ _ o
    | true => exact isTrue_and_nil (q _ _ o))))
end
end Rta_
section Rtb_
set_option maxRecDepth 100000
set_option maxHeartbeats 4000000

noncomputable def whlBody : Stmt → List Stmt
  | .While _ b .. => b
  | _ => []
section
variable {w : World} {mean : ExcName → Option Value} {mg mb : Str → Option Value} {dp un : Nat} {gd : Option (List Code)} {outer : List Env} {A₀ : Around} {base h₀ : Heap} {L : Addr} {m : Str → Option Value} {s : Shared} {tk_1 tk5 : Nat → Tok} {x dx sio ds q1 q2 : Nat} {T : Str} {p0 ln : Int} {tp tl tt : Tok} {r0 : List (Addr × Obj)} {st : Value} {tok : Str}
noncomputable abbrev rtE (sc : Scope) (L : Addr) : Env := envX (Str.ofString "shlex.read_token") sc L 690 (.ref 689) []
noncomputable abbrev rtA (dp un : Nat) (gd : Option (List Code)) (sc : Scope) (L : Addr) (outer : List Env) : Around := ktrTop dp un gd (Str.ofString "shlex.read_token") sc L 690 (.ref 689) [] outer
theorem vl_punct {sc : Scope} {q : Bool} {te : Tok} {nc : Option Value} {p1 p2 : Pos} {gg : Array GenState} {dd : Drawn} {os : OsState} (hsc : scpOf (stB 19 6) = sc) (B : Below A₀ base outer h₀) (X : (K1 w.params).In h₀) (T' : Top Mine.q1 (looseW Mine.q1 lz) mean mg mb h₀) (hd : dp + 20 < recursionLimit) (hu : un + 100 < cLine) :
    Vl (Pl.mk PySem.Challenge.rw_op0238_01.row.prog w (rtA dp un gd sc L outer) h₀ L (rtM x q te nc) (rtL w tk_1 tk5 x dx sio ds q1 q2 T p0 tp st ln tl tok tt r0) (rtE sc L) gg dd os) (.Attribute (.Name (Str.ofString "self") p1) (Str.ofString "punctuation_chars") p2) (IsS (Str.ofString "")) := by
  rw [show scpOf (stB 19 6) = ⟨_, _, _, _, _⟩ from rfl] at hsc
  subst hsc
  intro hh tk Q E o hq
  have hQ : ∀ h' tk', Fr h₀ L h' (rtM x q te nc) → News h₀ L h' (rtL w tk_1 tk5 x dx sio ds q1 q2 T p0 tp st ln tl tok tt r0) → Q (.str (Str.ofString "") (tk_1 26)) ⟨h', gg, dd, tk', os⟩ := fun h' tk' F N => hq (.str (Str.ofString "") (tk_1 26)) ⟨_, rfl⟩ h' tk' ⟨F, N⟩
  have F : Fr h₀ L hh (rtM x q te nc) := o.F
  have N : News h₀ L hh (rtL w tk_1 tk5 x dx sio ds q1 q2 T p0 tp st ln tl tok tt r0) := o.N
  clear hq o
  show wpAny (model PySem.Challenge.rw_op0238_01.row.prog w) (ktrTop dp un gd (Str.ofString "shlex.read_token") _ L 690 (.ref 689) [] outer) (eval _ (envX (Str.ofString "shlex.read_token") _ L 690 (.ref 689) [])) _ _ ⟨hh, gg, dd, tk, os⟩
  revert X
  w_on
  k_fill
  intro X
  k_steps
  exact hQ _ _ (by k_asm) (by k_asm)
theorem tst_ac {sc : Scope} {q : Bool} {te : Tok} {nc : Option Value} {ts : Tok} {p1 p2 p3 p4 p5 p6 : Pos} {k1 k2 k3 : Nat} {gg : Array GenState} {dd : Drawn} {os : OsState} (hsc : scpOf (stB 19 6) = sc) (B : Below A₀ base outer h₀) (X : (K1 w.params).In h₀) (T' : Top Mine.q1 (looseW Mine.q1 lz) mean mg mb h₀) (hd : dp + 20 < recursionLimit) (hu : un + 100 < cLine) :
    Tst (Pl.mk PySem.Challenge.rw_op0238_01.row.prog w (rtA dp un gd sc L outer) h₀ L (rtM x q te nc) (rtL w tk_1 tk5 x dx sio ds q1 q2 T p0 tp (.str (Str.ofString "a") ts) ln tl tok tt r0) (rtE sc L) gg dd os) (.Compare (.Attribute (.Name (Str.ofString "self") p1) (Str.ofString "state") p2) [.In] [.Tuple [.Constant (.str (Str.ofString "a")) k1 p3, .Constant (.str (Str.ofString "c")) k2 p4] k3 p5] p6) true := by
  rw [show scpOf (stB 19 6) = ⟨_, _, _, _, _⟩ from rfl] at hsc
  subst hsc
  intro hh tk Q E o hq
  have hQ : ∀ h' tk', Fr h₀ L h' (rtM x q te nc) → News h₀ L h' (rtL w tk_1 tk5 x dx sio ds q1 q2 T p0 tp (.str (Str.ofString "a") ts) ln tl tok tt r0) → Q true ⟨h', gg, dd, tk', os⟩ := fun h' tk' F N => hq h' tk' ⟨F, N⟩
  have F : Fr h₀ L hh (rtM x q te nc) := o.F
  have N : News h₀ L hh (rtL w tk_1 tk5 x dx sio ds q1 q2 T p0 tp (.str (Str.ofString "a") ts) ln tl tok tt r0) := o.N
  clear hq o
  show wpAny (model PySem.Challenge.rw_op0238_01.row.prog w) (ktrTop dp un gd (Str.ofString "shlex.read_token") _ L 690 (.ref 689) [] outer) (isTrue _ (envX (Str.ofString "shlex.read_token") _ L 690 (.ref 689) []) _) _ _ ⟨hh, gg, dd, tk, os⟩
  revert X
  w_on
  k_fill
  intro X
  k_steps
  exact hQ _ _ (by k_asm) (news_tail (by k_asm))
end
end Rtb_
section Rtc_
set_option maxRecDepth 100000
set_option maxHeartbeats 4000000

/-- all that stays at a token's reading -/
structure Rc where
  w : World
  sc : Scope
  dp : Nat
  un : Nat
  gd : Option (List Code)
  outer : List Env
  h₀ : Heap
  L : Addr
  tk : Nat → Tok
  tk5 : Nat → Tok
  x : Nat
  dx : Nat
  sio : Nat
  ds : Nat
  q1 : Nat
  q2 : Nat
  T : Str
  r0 : List (Addr × Obj)
  te : Tok
  g : Array GenState
  d : Drawn
  o : OsState
/-- what turns -/
structure Rv where
  q : Bool
  nc : Option Value
  pz : Int
  tp : Tok
  st : Value
  ln : Int
  tl : Tok
  tok : Str
  tt : Tok
noncomputable abbrev Rc.A (c : Rc) : Around := rtA c.dp c.un c.gd c.sc c.L c.outer
noncomputable abbrev Rc.m (c : Rc) (v : Rv) : Str → Option Value := rtM c.x v.q c.te v.nc
noncomputable abbrev Rc.led (c : Rc) (v : Rv) : List (Addr × Obj) := rtL c.w c.tk c.tk5 c.x c.dx c.sio c.ds c.q1 c.q2 c.T v.pz v.tp v.st v.ln v.tl v.tok v.tt c.r0
noncomputable abbrev Rc.pl (c : Rc) (v : Rv) : Pl := ⟨PySem.Challenge.rw_op0238_01.row.prog, c.w, c.A, c.h₀, c.L, c.m v, c.led v, rtE c.sc c.L, c.g, c.d, c.o⟩
noncomputable abbrev Rc.wp {α : Type} (c : Rc) (t : Sem α) (Q : α → Shared → Prop) (E : Value → Shared → Prop) (s : Shared) : Prop := wpAny (model PySem.Challenge.rw_op0238_01.row.prog c.w) c.A t Q E s
noncomputable abbrev Rc.st (c : Rc) (h : Heap) (t : Nat) : Shared := ⟨h, c.g, c.d, t, c.o⟩
structure Lx (c : Rc) (A₀ : Around) (base : Heap) (mean : ExcName → Option Value) (mg mb : Str → Option Value) : Prop where
  hsc : scpOf (stB 19 6) = c.sc
  B : Below A₀ base c.outer c.h₀
  X : (K1 c.w.params).In c.h₀
  T : Top Mine.q1 (looseW Mine.q1 lz) mean mg mb c.h₀
  hd : c.dp + 40 < recursionLimit
  hu : c.un + 200 < cLine
  h0 : c.ds ≠ c.dx
  hr : ∀ p ∈ (c.x, instObj 722 c.dx) :: (c.sio, instObj 587 c.ds) :: (c.q1, dqObj) :: (c.q2, dqObj) :: c.r0, p.1 ≠ c.dx
section
variable {c : Rc} {v : Rv} {A₀ : Around} {base : Heap} {mean : ExcName → Option Value} {mg mb : Str → Option Value} {y : Str} {e : Expr} {p1 p2 p3 p4 p5 p6 p7 : Pos} {Q : Flow → Shared → Prop} {E : Value → Shared → Prop} {h : Heap} {t : Nat} {a b : List Nat} {d : Nat} {tn ts : Tok} {k : Nat}
theorem Lx.kind (l : Lx c A₀ base mean mg mb) : c.sc.kind = .function := by rw [← l.hsc]; rfl
theorem Lx.self (l : Lx c A₀ base mean mg mb) : (rtE c.sc c.L).kindOf (Str.ofString "self") = some .local := by rw [← l.hsc]; rfl
theorem Lx.next (l : Lx c A₀ base mean mg mb) : (rtE c.sc c.L).kindOf (Str.ofString "nextchar") = some .local := by rw [← l.hsc]; rfl
theorem Lx.quoted (l : Lx c A₀ base mean mg mb) : (rtE c.sc c.L).kindOf (Str.ofString "quoted") = some .local := by rw [← l.hsc]; rfl
/-- an attribute of the lexer -/
theorem Lx.attr (l : Lx c A₀ base mean mg mb) {attr : Str} {es : List DictEntry} {n : Nat} {u : Value} (hd : c.led v = (c.ds, sioD c.w c.tk5 c.T v.pz v.tp) :: (c.dx, dictOf es n) :: (c.x, instObj 722 c.dx) :: (c.sio, instObj 587 c.ds) :: (c.q1, dqObj) :: (c.q2, dqObj) :: c.r0)
    (hl : getL attr es = some (some u)) (hv : handedIn u = true) (h3 : findIn (K1 c.w.params) (.ref 722) attr = some none) : Vl (c.pl v) (.Attribute (.Name (Str.ofString "self") p1) attr p2) (fun z => z = u) := by
  unfold Rc.pl
  rw [hd]
  exact vl_self l.X rfl l.kind l.self (.tail _ (.tail _ (.head _))) (.tail _ (.head _)) hl hv h3
theorem Lx.nx (l : Lx c A₀ base mean mg mb) (hn : v.nc = some (.str y tn)) : Vl (c.pl v) (.Name (Str.ofString "nextchar") p1) (IsS y) :=
  (vl_name (show c.m v (Str.ofString "nextchar") = some (.str y tn) from hn ▸ rfl) l.kind l.next).s
theorem Lx.qd (l : Lx c A₀ base mean mg mb) : Tst (c.pl v) (.Name (Str.ofString "quoted") p1) v.q :=
  tst_bool (vl_name rfl l.kind l.quoted) rfl
variable (l : Lx c A₀ base mean mg mb)
include l
theorem as_state {P : Value → Prop} (o : (c.pl v).on h) (hv : Vl (c.pl v) e P)
    (hq : ∀ u h t, P u → (c.pl { v with st := u }).on h → Q .next (c.st h t)) (hsw : swapsWith e (some (.Attribute (.Name (Str.ofString "self") p1) (Str.ofString "state") p2)) p3.line (rtE c.sc c.L) = pure false := by rfl) :
    c.wp (exec (.Assign [.Attribute (.Name (Str.ofString "self") p1) (Str.ofString "state") p2] e p3) (rtE c.sc c.L)) Q E (c.st h t) :=
  st_put o l.X rfl l.kind l.self (.head _) l.h0 l.hr (by kernel_rfl) (by rfl) (Nat.le_of_ble_eq_true rfl) hsw hv hq
theorem as_token (o : (c.pl v).on h) (hv : Vl (c.pl v) e (IsS y))
    (hq : ∀ tt h t, (c.pl { v with tok := y, tt := tt }).on h → Q .next (c.st h t)) (hsw : swapsWith e (some (.Attribute (.Name (Str.ofString "self") p1) (Str.ofString "token") p2)) p3.line (rtE c.sc c.L) = pure false := by rfl) :
    c.wp (exec (.Assign [.Attribute (.Name (Str.ofString "self") p1) (Str.ofString "token") p2] e p3) (rtE c.sc c.L)) Q E (c.st h t) :=
  st_put o l.X rfl l.kind l.self (.head _) l.h0 l.hr (by kernel_rfl) (by rfl) (Nat.le_of_ble_eq_true rfl) hsw hv fun u h' t' hP o' => by obtain ⟨t2, rfl⟩ := hP; exact hq t2 h' t' o'
theorem ag_token (ht : v.tok = mkS a) (hl : a.length + b.length ≤ 100000) (o : (c.pl v).on h) (hv : Vl (c.pl v) e (IsS (mkS b)))
    (hq : ∀ tt h t, (c.pl { v with tok := mkS (a ++ b), tt := tt }).on h → Q .next (c.st h t)) :
    c.wp (exec (.AugAssign (.Attribute (.Name (Str.ofString "self") p1) (Str.ofString "token") p2) .Add e p3) (rtE c.sc c.L)) Q E (c.st h t) :=
  st_aug (old := .str v.tok v.tt) (P' := IsS (mkS (a ++ b))) o l.X rfl l.kind l.self (.head _) l.h0 l.hr (by kernel_rfl) (by kernel_rfl) (by rfl) (Nat.le_of_ble_eq_true rfl) (by rfl) rfl hv
    (fun u s' Q' E' ⟨t', e1⟩ hq => e1 ▸ ht ▸ iadd_mk hl fun t2 k2 => hq _ k2 ⟨t2, rfl⟩) fun u h' t' hP o' => by obtain ⟨t2, rfl⟩ := hP; exact hq t2 h' t' o'
theorem ag_line (o : (c.pl v).on h)
    (hq : ∀ ln tl h t, (c.pl { v with ln := ln, tl := tl }).on h → Q .next (c.st h t)) :
    c.wp (exec (.AugAssign (.Attribute (.Name (Str.ofString "self") p1) (Str.ofString "lineno") p2) .Add (.Constant (.int 1) k p3) p4) (rtE c.sc c.L)) Q E (c.st h t) :=
  st_aug (old := .int v.ln v.tl) (P := fun u => ∃ t, u = .int 1 t) (P' := fun u => ∃ j t, u = .int j t) o l.X rfl l.kind l.self (.head _) l.h0 l.hr (by kernel_rfl) (by kernel_rfl) (by rfl) (Nat.le_of_ble_eq_true rfl) (by rfl) rfl
    (fun _ _ _ _ o hq => wpAny_Constant_int (hq _ ⟨_, rfl⟩ _ _ o)) (fun u s' Q' E' ⟨t', e1⟩ hq => e1 ▸ P.iadd_int (hq _ _ ⟨_, _, rfl⟩)) fun u h' t' hP o' => by obtain ⟨j, t2, rfl⟩ := hP; exact hq j t2 h' t' o'
theorem Lx.state (hv : handedIn v.st = true) : Vl (c.pl v) (.Attribute (.Name (Str.ofString "self") p1) (Str.ofString "state") p2) (fun z => z = v.st) := l.attr rfl (by rfl) hv (by kernel_rfl)
theorem Lx.white : Vl (c.pl v) (.Attribute (.Name (Str.ofString "self") p1) (Str.ofString "whitespace") p2) (IsS (Str.ofString " \t\r\n")) := (l.attr rfl (by rfl) rfl (by kernel_rfl)).s
theorem Lx.comm : Vl (c.pl v) (.Attribute (.Name (Str.ofString "self") p1) (Str.ofString "commenters") p2) (IsS (Str.ofString "")) := (l.attr rfl (by rfl) rfl (by kernel_rfl)).s
theorem Lx.escape : Vl (c.pl v) (.Attribute (.Name (Str.ofString "self") p1) (Str.ofString "escape") p2) (IsS (Str.ofString "\\")) := (l.attr rfl (by rfl) rfl (by kernel_rfl)).s
theorem Lx.word : Vl (c.pl v) (.Attribute (.Name (Str.ofString "self") p1) (Str.ofString "wordchars") p2) (IsS (Str.ofString "abcdfeghijklmnopqrstuvwxyzABCDEFGHIJKLMNOPQRSTUVWXYZ0123456789_ßàáâãäåæçèéêëìíîïðñòóôõöøùúûüýþÿÀÁÂÃÄÅÆÇÈÉÊËÌÍÎÏÐÑÒÓÔÕÖØÙÚÛÜÝÞ")) := (l.attr rfl (by rfl) rfl (by kernel_rfl)).s
theorem Lx.quots : Vl (c.pl v) (.Attribute (.Name (Str.ofString "self") p1) (Str.ofString "quotes") p2) (IsS (Str.ofString "'\"")) := (l.attr rfl (by rfl) rfl (by kernel_rfl)).s
theorem Lx.token : Vl (c.pl v) (.Attribute (.Name (Str.ofString "self") p1) (Str.ofString "token") p2) (IsS v.tok) := (l.attr rfl (by rfl) rfl (by kernel_rfl)).s
theorem Lx.debug {j : Int} (hj : decide ((0 : Int) ≥ j) = false) : Tst (c.pl v) (.Compare (.Attribute (.Name (Str.ofString "self") p1) (Str.ofString "debug") p2) [.GtE] [.Constant (.int j) k p3] p4) false := hj ▸ tst_ge (l.attr rfl (by rfl) rfl (by kernel_rfl))
theorem Lx.posix : Tst (c.pl v) (.Attribute (.Name (Str.ofString "self") p1) (Str.ofString "posix") p2) true := tst_bool (l.attr rfl (by rfl) rfl (by kernel_rfl)) rfl
theorem Lx.wsplit : Tst (c.pl v) (.Attribute (.Name (Str.ofString "self") p1) (Str.ofString "whitespace_split") p2) true := tst_bool (l.attr rfl (by rfl) rfl (by kernel_rfl)) rfl
theorem Lx.tokq (ht : v.tok = mkS a) (hl : a.length ≤ 100000) : Tst (c.pl v) (.BoolOp .Or [(.Attribute (.Name (Str.ofString "self") p1) (Str.ofString "token") p2), .BoolOp .And [(.Attribute (.Name (Str.ofString "self") p3) (Str.ofString "posix") p4), .Name (Str.ofString "quoted") p5] p6] p7) (!a.isEmpty || v.q) :=
  tst_or (tst_txt hl (ht ▸ l.token) rfl) (fun z => by rw [z]; exact tst_and l.posix (fun _ => l.qd) (fun z => nomatch z)) (fun z => by rw [z]; rfl)
theorem Lx.not_next (hn : v.nc = some (.str (mkS a) tn)) (hl : a.length ≤ 100000) : Tst (c.pl v) (.UnaryOp .Not (.Name (Str.ofString "nextchar") p1) p2) (!!a.isEmpty) := tst_not (tst_txt hl (l.nx hn) rfl)
theorem Lx.end_next (hn : v.nc = some (.str (mkS []) tn)) : Tst (c.pl v) (.UnaryOp .Not (.Name (Str.ofString "nextchar") p1) p2) true := l.not_next hn (Nat.zero_le _)
theorem Lx.is_next (hn : v.nc = some (.str (mkS [d]) tn)) : Tst (c.pl v) (.UnaryOp .Not (.Name (Str.ofString "nextchar") p1) p2) false := l.not_next hn (Nat.le_of_ble_eq_true rfl)
theorem Lx.esc (hn : v.nc = some (.str (mkS [d]) tn)) (hd : d ≠ 92) : Tst (c.pl v) (.BoolOp .And [(.Attribute (.Name (Str.ofString "self") p1) (Str.ofString "posix") p2), .Compare (.Name (Str.ofString "nextchar") p3) [.In] [(.Attribute (.Name (Str.ofString "self") p4) (Str.ofString "escape") p5)] p6] p7) false := tst_and l.posix (fun _ => tst_in (by rw [one_in, decide_eq_false (fE hd)]) (l.nx hn) l.escape) (fun _ => rfl)
theorem Lx.in_white (hn : v.nc = some (.str (mkS [d]) tn)) : Tst (c.pl v) (.Compare (.Name (Str.ofString "nextchar") p1) [.In] [(.Attribute (.Name (Str.ofString "self") p2) (Str.ofString "whitespace") p3)] p4) (decide (d ∈ (Str.ofString " \t\r\n").cps.toList)) := tst_in one_in (l.nx hn) l.white
theorem Lx.in_quots (hn : v.nc = some (.str (mkS [d]) tn)) : Tst (c.pl v) (.Compare (.Name (Str.ofString "nextchar") p1) [.In] [(.Attribute (.Name (Str.ofString "self") p2) (Str.ofString "quotes") p3)] p4) (decide (d ∈ (Str.ofString "'\"").cps.toList)) := tst_in one_in (l.nx hn) l.quots
theorem Lx.in_word (hn : v.nc = some (.str (mkS [d]) tn)) : Tst (c.pl v) (.Compare (.Name (Str.ofString "nextchar") p1) [.In] [(.Attribute (.Name (Str.ofString "self") p2) (Str.ofString "wordchars") p3)] p4) (decide (d ∈ (Str.ofString "abcdfeghijklmnopqrstuvwxyzABCDEFGHIJKLMNOPQRSTUVWXYZ0123456789_ßàáâãäåæçèéêëìíîïðñòóôõöøùúûüýþÿÀÁÂÃÄÅÆÇÈÉÊËÌÍÎÏÐÑÒÓÔÕÖØÙÚÛÜÝÞ").cps.toList)) := tst_in one_in (l.nx hn) l.word
theorem Lx.in_comm (hn : v.nc = some (.str (mkS [d]) tn)) : Tst (c.pl v) (.Compare (.Name (Str.ofString "nextchar") p1) [.In] [(.Attribute (.Name (Str.ofString "self") p2) (Str.ofString "commenters") p3)] p4) false := tst_in (by rw [one_in, decide_eq_false fC]) (l.nx hn) l.comm
theorem Lx.punct : Vl (c.pl v) (.Attribute (.Name (Str.ofString "self") p1) (Str.ofString "punctuation_chars") p2) (IsS (Str.ofString "")) := vl_punct l.hsc l.B l.X l.T (by have := l.hd; omega) (by have := l.hu; omega)
theorem Lx.in_punct (hn : v.nc = some (.str (mkS [d]) tn)) : Tst (c.pl v) (.Compare (.Name (Str.ofString "nextchar") p1) [.In] [(.Attribute (.Name (Str.ofString "self") p2) (Str.ofString "punctuation_chars") p3)] p4) false := tst_in (by rw [one_in, decide_eq_false fC]) (l.nx hn) l.punct
theorem Lx.notin_punct (hn : v.nc = some (.str (mkS [d]) tn)) : Tst (c.pl v) (.Compare (.Name (Str.ofString "nextchar") p1) [.NotIn] [(.Attribute (.Name (Str.ofString "self") p2) (Str.ofString "punctuation_chars") p3)] p4) true := tst_notin (b := false) (by rw [one_in, decide_eq_false fC]) (l.nx hn) l.punct
theorem Lx.no_punct {e : Expr} : Tst (c.pl v) (.BoolOp .And [(.Attribute (.Name (Str.ofString "self") p1) (Str.ofString "punctuation_chars") p2), e] p3) false := tst_and (tst_txt (l := []) (Nat.zero_le _) (em_s ▸ l.punct) rfl) (fun z => nomatch z) (fun _ => rfl)
theorem Lx.st_none (hv : handedIn v.st = true) (hp : plainIs v.st .none = true ∧ (v.st == .none) = false) : Tst (c.pl v) (.Compare (.Attribute (.Name (Str.ofString "self") p1) (Str.ofString "state") p2) [.Is] [.Constant .none k p3] p4) false := tst_is ((l.state hv).weak fun u e => e ▸ hp)
theorem Lx.stS (hs : v.st = .str y ts) : Vl (c.pl v) (.Attribute (.Name (Str.ofString "self") p1) (Str.ofString "state") p2) (IsS y) := (l.state (hs ▸ rfl)).weak fun _ e => ⟨ts, e.trans hs⟩
theorem Lx.st_eq {z : Str} {r : Bool} (hs : v.st = .str y ts) (hb : (y == z) = r) : Tst (c.pl v) (.Compare (.Attribute (.Name (Str.ofString "self") p1) (Str.ofString "state") p2) [.Eq] [.Constant (.str z) k p3] p4) r := (tst_eq (l.stS hs) vl_const).as hb
theorem Lx.st_quots {r : Bool} (hs : v.st = .str y ts) (hb : (!(Builtin.Str.occurrences (Str.ofString "'\"") y 0 (Str.ofString "'\"").length 1).isEmpty) = r) : Tst (c.pl v) (.Compare (.Attribute (.Name (Str.ofString "self") p1) (Str.ofString "state") p2) [.In] [(.Attribute (.Name (Str.ofString "self") p3) (Str.ofString "quotes") p4)] p5) r := tst_in hb (l.stS hs) l.quots
theorem Lx.st_escape {r : Bool} (hs : v.st = .str y ts) (hb : (!(Builtin.Str.occurrences (Str.ofString "\\") y 0 (Str.ofString "\\").length 1).isEmpty) = r) : Tst (c.pl v) (.Compare (.Attribute (.Name (Str.ofString "self") p1) (Str.ofString "state") p2) [.In] [(.Attribute (.Name (Str.ofString "self") p3) (Str.ofString "escape") p4)] p5) r := tst_in hb (l.stS hs) l.escape
theorem Lx.nx_st {r : Bool} (hn : v.nc = some (.str (mkS [d]) tn)) (hs : v.st = .str y ts) (hb : (mkS [d] == y) = r) : Tst (c.pl v) (.Compare (.Name (Str.ofString "nextchar") p1) [.Eq] [(.Attribute (.Name (Str.ofString "self") p2) (Str.ofString "state") p3)] p4) r := (tst_eq (l.nx hn) (l.stS hs)).as hb
theorem Lx.nx_eq {z : Str} {r : Bool} (hn : v.nc = some (.str y tn)) (hb : (y == z) = r) : Tst (c.pl v) (.Compare (.Name (Str.ofString "nextchar") p1) [.Eq] [.Constant (.str z) k p2] p3) r := (tst_eq (l.nx hn) vl_const).as hb
theorem Lx.ac {k1 k2 k3 : Nat} (hs : v.st = .str (Str.ofString "a") ts) : Tst (c.pl v) (.Compare (.Attribute (.Name (Str.ofString "self") p1) (Str.ofString "state") p2) [.In] [.Tuple [.Constant (.str (Str.ofString "a")) k1 p3, .Constant (.str (Str.ofString "c")) k2 p4] k3 p5] p6) true := by
  obtain ⟨q, nc, pz, tp, st, ln, tl, tok, tt⟩ := v
  obtain rfl : st = .str (Str.ofString "a") ts := hs
  exact tst_ac l.hsc l.B l.X l.T (by have := l.hd; omega) (by have := l.hu; omega)
end
end Rtc_
section Rtd_
set_option maxRecDepth 100000
set_option maxHeartbeats 4000000

theorem fV {c : Nat} (h : isQ c = true) : c ∉ (Str.ofString "abcdfeghijklmnopqrstuvwxyzABCDEFGHIJKLMNOPQRSTUVWXYZ0123456789_ßàáâãäåæçèéêëìíîïðñòóôõöøùúûüýþÿÀÁÂÃÄÅÆÇÈÉÊËÌÍÎÏÐÑÒÓÔÕÖØÙÚÛÜÝÞ").cps.toList := by
  simp only [isQ, Bool.or_eq_true, beq_iff_eq] at h
  rcases h with rfl | rfl <;> decide +kernel
theorem okQ {c : Nat} {q : Bool} {tok : List Nat} (h : isQ c = true) : stOk (.qt c) q tok := by
  simp only [isQ, Bool.or_eq_true, beq_iff_eq] at h
  exact h
theorem rtM_q2 {x : Addr} {q q' : Bool} {te : Tok} {nc : Option Value} : (fun y => if y = Str.ofString "quoted" then some (.bool q') else rtM x q te nc y) = rtM x q' te nc := by
  funext y
  by_cases h : y = Str.ofString "quoted"
  · subst h; rfl
  · unfold rtM
    simp only [h, if_false]
theorem sp_qs : (!(Builtin.Str.occurrences (Str.ofString "'\"") (Str.ofString "a") 0 (Str.ofString "'\"").length 1).isEmpty) = false := by decide +kernel
theorem sp_es : (!(Builtin.Str.occurrences (Str.ofString "\\") (Str.ofString "a") 0 (Str.ofString "\\").length 1).isEmpty) = false := by decide +kernel
theorem a_sp : (Str.ofString "a" == Str.ofString " ") = false := by decide +kernel
theorem a_c : (Str.ofString "a" == Str.ofString "c") = false := by decide +kernel
theorem sp_ok (ts : Tok) : plainIs (stV .sp ts) .none = true ∧ (stV .sp ts == .none) = false := ⟨rfl, rfl⟩
/-- a turn that goes on -/
noncomputable def RtGo (c : Rc) (v : Rv) (st : LSt) (tok rest : List Nat) (QQ : Flow → Shared → Prop) : Prop := ∀ f d r st' q' tok' h t nc ts tt, rest = d :: r → f = .next ∨ f = .cont → (c.pl { v with q := q', nc := nc, st := stV st' ts, tok := mkS tok', tt := tt }).on h → rt st v.q tok rest = rt st' q' tok' r → stOk st' q' tok' → tok'.length ≤ tok.length + 1 → QQ f (c.st h t)
/-- a turn that ends the loop -/
noncomputable def RtBk (c : Rc) (v : Rv) (st : LSt) (tok rest : List Nat) (QQ : Flow → Shared → Prop) : Prop := ∀ q' tok' fin r sv h t nc ts tt, (c.pl { v with q := q', nc := nc, st := sv, tok := mkS tok', tt := tt }).on h → sv = (if fin then .none else .str (Str.ofString " ") ts) → rt st v.q tok rest = some (q', tok', fin, r) → rest.drop 1 = r → tok'.length ≤ tok.length → (fin = true → r = []) → QQ .brk (c.st h t)
/-- a turn that raises -/
noncomputable def RtRs (c : Rc) (v : Rv) (st : LSt) (rest : List Nat) (E : Value → Shared → Prop) : Prop := ∀ k p1 k1 p2 p3 p4 h t Q', st = .qt k → rest = [] → (c.pl { v with q := true }).on h → c.wp (exec (.Raise (some (.Call (.Name (Str.ofString "ValueError") p1) [.Constant (.str (Str.ofString "No closing quotation")) k1 p2] [] p3)) none p4) (rtE c.sc c.L)) Q' E (c.st h t)
section
variable {c : Rc} {v : Rv} {A₀ : Around} {base : Heap} {mean : ExcName → Option Value} {mg mb : Str → Option Value} {QQ : Flow → Shared → Prop} {E : Value → Shared → Prop} {h : Heap} {t : Nat} {tok rest nx : List Nat} {ts tn : Tok} {S4 : Stmt}
theorem rt_sp (hS : (whlBody ((bodOf (stB 19 6)).getD 2 (.Pass default))).drop 3 = [S4]) (l : Lx c A₀ base mean mg mb) (hst : v.st = stV .sp ts) (hto : v.tok = mkS tok) (hq : v.q = false) (htk : tok = []) (hnc : v.nc = some (.str (mkS nx) tn)) (hnx : nx = rest.take 1) (hesc : ∀ c ∈ rest, c ≠ 92)
    (o : (c.pl v).on h) (hgo : RtGo c v .sp tok rest QQ) (hbk : RtBk c v .sp tok rest QQ) : c.wp (exec S4 (rtE c.sc c.L)) QQ E (c.st h t) := by
  rw [show (whlBody ((bodOf (stB 19 6)).getD 2 (.Pass default))).drop 3 = [_] from rfl] at hS
  obtain ⟨rfl, -⟩ := List.cons.inj hS
  obtain ⟨q, nc, pz, tp, st, ln, tl, vt, tt⟩ := v
  dsimp only at hst hto hq hnc
  subst hst hto hq htk hnc
  refine if_tst (l.st_none rfl ⟨rfl, rfl⟩) o (fun z => nomatch z) fun _ h1 k1 o1 => ?_
  refine yes_if (l.st_eq rfl (beq_self_eq_true _)) o1 fun h2 k2 o2 => ?_
  clear o o1
  rcases rest with _ | ⟨d, r⟩
  · obtain rfl : nx = [] := hnx
    refine yes_if (l.end_next rfl) o2 fun h3 k3 o3 => ?_
    refine wpAny_execs_cons (as_state l o3 vl_none fun u h4 k4 hv o4 => ?_)
    subst hv
    exact execs_1 (wpAny_Break (hbk false [] true [] _ _ _ _ 0 _ o4 rfl rfl rfl (Nat.le_refl _) fun _ => rfl))
  · obtain rfl : nx = [d] := hnx
    refine no_if (l.is_next rfl) o2 fun h3 k3 o3 => ?_
    clear o2
    refine el_if (l.in_white rfl) o3 (fun z h4 k4 o4 => ?_) fun z h4 k4 o4 => ?_
    · have hW := fW.mp (of_decide_eq_true z)
      refine no_tst (l.debug rfl) o4 fun h5 k5 o5 => ?_
      refine no_if (l.tokq (a := []) rfl (Nat.zero_le _)) o5 fun h6 k6 o6 => ?_
      exact execs_1 (wpAny_Continue (hgo .cont d r .sp false [] _ _ _ _ _ rfl (.inr rfl) o6 (by rw [rt, if_pos hW]) ⟨rfl, rfl⟩ (Nat.zero_le _)))
    · have hW : ¬ isW d = true := fun q => of_decide_eq_false z (fW.mpr q)
      clear o3
      refine no_if (l.in_comm rfl) o4 fun h5 k5 o5 => ?_
      refine no_if (l.esc rfl (hesc d (.head _))) o5 fun h6 k6 o6 => ?_
      clear o4 o5
      have two : ∀ {h7 : Heap} {k7 : Nat} {p1 p2 p3 p4 p5 p6 p7 p8 : Pos} {k8 : Nat}, ¬ isQ d = true → (c.pl ⟨false, some (.str (mkS [d]) tn), pz, tp, stV .sp ts, ln, tl, mkS [], tt⟩).on h7 →
          c.wp (execs [.Assign [.Attribute (.Name (Str.ofString "self") p1) (Str.ofString "token") p2] (.Name (Str.ofString "nextchar") p3) p4, .Assign [.Attribute (.Name (Str.ofString "self") p5) (Str.ofString "state") p6] (.Constant (.str (Str.ofString "a")) k8 p7) p8] (rtE c.sc c.L)) QQ E (c.st h7 k7) := by
        intro h7 k7 p1 p2 p3 p4 p5 p6 p7 p8 k8 hQ o7
        refine wpAny_execs_cons (as_token l o7 (l.nx rfl) fun tt' h8 k8 o8 => ?_)
        refine execs_1 (as_state l o8 vl_const fun u h9 k9 hv o9 => ?_)
        obtain ⟨t', rfl⟩ := hv
        exact hgo .next d r .wd false [d] _ _ _ _ _ rfl (.inl rfl) o9 (by rw [rt, if_neg hW, if_neg hQ]) (.inl (List.cons_ne_nil _ _)) (Nat.le_refl _)
      refine el_if (l.in_word rfl) o6 (fun z h7 k7 o7 => two (fun q => fV q (of_decide_eq_true z)) o7) fun _ h7 k7 o7 => ?_
      refine no_if (l.in_punct rfl) o7 fun h8 k8 o8 => ?_
      refine el_if (l.in_quots rfl) o8 (fun z h9 k9 o9 => ?_) fun z h9 k9 o9 => ?_
      · have hQ := fQ.mp (of_decide_eq_true z)
        refine no_tst (tst_not l.posix) o9 fun h10 k10 o10 => ?_
        refine execs_1 (as_state l o10 (l.nx rfl) fun u h11 k11 hv o11 => ?_)
        obtain ⟨t', rfl⟩ := hv
        exact hgo .next d r (.qt d) false [] _ _ _ _ _ rfl (.inl rfl) o11 (by rw [rt, if_neg hW, if_pos hQ]) (okQ hQ) (Nat.zero_le _)
      · have hQ : ¬ isQ d = true := fun q => of_decide_eq_false z (fQ.mpr q)
        exact yes_if l.wsplit o9 fun h10 k10 o10 => two hQ o10
theorem rt_wd (hS : (whlBody ((bodOf (stB 19 6)).getD 2 (.Pass default))).drop 3 = [S4]) (l : Lx c A₀ base mean mg mb) (hst : v.st = stV .wd ts) (hto : v.tok = mkS tok) (hok : tok ≠ [] ∨ v.q = true) (hlen : tok.length + rest.length ≤ 1000) (hnc : v.nc = some (.str (mkS nx) tn)) (hnx : nx = rest.take 1) (hesc : ∀ c ∈ rest, c ≠ 92)
    (o : (c.pl v).on h) (hgo : RtGo c v .wd tok rest QQ) (hbk : RtBk c v .wd tok rest QQ) : c.wp (exec S4 (rtE c.sc c.L)) QQ E (c.st h t) := by
  rw [show (whlBody ((bodOf (stB 19 6)).getD 2 (.Pass default))).drop 3 = [_] from rfl] at hS
  obtain ⟨rfl, -⟩ := List.cons.inj hS
  obtain ⟨q, nc, pz, tp, st, ln, tl, vt, tt⟩ := v
  dsimp only at hst hto hok hnc
  subst hst hto hnc
  refine if_tst (l.st_none rfl ⟨rfl, rfl⟩) o (fun z => nomatch z) fun _ h1 k1 o1 => ?_
  refine no_if (l.st_eq rfl a_sp) o1 fun h2 k2 o2 => ?_
  refine no_if (l.st_quots rfl sp_qs) o2 fun h3 k3 o3 => ?_
  refine no_if (l.st_escape rfl sp_es) o3 fun h4 k4 o4 => ?_
  refine yes_if (l.ac rfl) o4 fun h5 k5 o5 => ?_
  clear o o1 o2 o3 o4
  have htl : tok.length ≤ 100000 := by omega
  rcases rest with _ | ⟨d, r⟩
  · obtain rfl : nx = [] := hnx
    refine yes_if (l.end_next rfl) o5 fun h6 k6 o6 => ?_
    refine wpAny_execs_cons (as_state l o6 vl_none fun u h7 k7 hv o7 => ?_)
    subst hv
    exact execs_1 (wpAny_Break (hbk q tok true [] _ _ _ _ 0 _ o7 rfl rfl rfl (Nat.le_refl _) fun _ => rfl))
  · obtain rfl : nx = [d] := hnx
    refine no_if (l.is_next rfl) o5 fun h6 k6 o6 => ?_
    clear o5
    refine el_if (l.in_white rfl) o6 (fun z h7 k7 o7 => ?_) fun z h7 k7 o7 => ?_
    · have hW := fW.mp (of_decide_eq_true z)
      refine no_tst (l.debug rfl) o7 fun h8 k8 o8 => ?_
      refine wpAny_execs_cons (as_state l o8 vl_const fun u h9 k9 hv o9 => ?_)
      obtain ⟨t', rfl⟩ := hv
      have hb : (!tok.isEmpty || q) = true := by
        rcases hok with h | h
        · cases tok with
          | nil => exact absurd rfl h
          | cons _ _ => rfl
        · rw [h, Bool.or_true]
      refine yes_if (c := c.pl ⟨q, some (.str (mkS [d]) tn), pz, tp, .str (Str.ofString " ") t', ln, tl, mkS tok, tt⟩) ((l.tokq rfl htl).as hb) o9 fun h10 k10 o10 => ?_
      exact execs_1 (wpAny_Break (hbk q tok false r _ _ _ _ _ _ o10 rfl (by rw [rt, if_pos hW]) rfl (Nat.le_refl _) fun z => nomatch z))
    · have hW : ¬ isW d = true := fun q => of_decide_eq_false z (fW.mpr q)
      clear o6
      refine no_if (l.in_comm rfl) o7 fun h8 k8 o8 => ?_
      refine no_if (l.st_eq rfl a_c) o8 fun h9 k9 o9 => ?_
      refine el_if (tst_and l.posix (fun _ => l.in_quots rfl) (fun z => nomatch z)) o9 (fun z h10 k10 o10 => ?_) fun z h10 k10 o10 => ?_
      · have hQ := fQ.mp (of_decide_eq_true z)
        refine execs_1 (as_state l o10 (l.nx rfl) fun u h11 k11 hv o11 => ?_)
        obtain ⟨t', rfl⟩ := hv
        exact hgo .next d r (.qt d) q tok _ _ _ _ _ rfl (.inl rfl) o11 (by rw [rt, if_neg hW, if_pos hQ]) (okQ hQ) (Nat.le_succ _)
      · have hQ : ¬ isQ d = true := fun q => of_decide_eq_false z (fQ.mpr q)
        refine no_if (l.esc rfl (hesc d (.head _))) o10 fun h11 k11 o11 => ?_
        refine yes_if (tst_or3 (l.in_word rfl) (l.in_quots rfl) (tst_and l.wsplit (fun _ => l.notin_punct rfl) (fun z => nomatch z))) o11 fun h12 k12 o12 => ?_
        refine execs_1 (ag_token l rfl (by simp only [List.length_cons, List.length_nil] at hlen ⊢; omega) o12 (l.nx rfl) fun tt' h13 k13 o13 => ?_)
        exact hgo .next d r .wd q (tok ++ [d]) _ _ _ _ _ rfl (.inl rfl) o13 (by rw [rt, if_neg hW, if_neg hQ]) (.inl (by simp)) (by simp)
theorem rt_qt {k : Nat} (hS : (whlBody ((bodOf (stB 19 6)).getD 2 (.Pass default))).drop 3 = [S4]) (l : Lx c A₀ base mean mg mb) (hst : v.st = stV (.qt k) ts) (hto : v.tok = mkS tok) (hok : k = 39 ∨ k = 34) (hlen : tok.length + rest.length ≤ 1000) (hnc : v.nc = some (.str (mkS nx) tn)) (hnx : nx = rest.take 1) (hesc : ∀ c ∈ rest, c ≠ 92)
    (o : (c.pl v).on h) (hgo : RtGo c v (.qt k) tok rest QQ) (hrs : RtRs c v (.qt k) rest E) : c.wp (exec S4 (rtE c.sc c.L)) QQ E (c.st h t) := by
  rw [show (whlBody ((bodOf (stB 19 6)).getD 2 (.Pass default))).drop 3 = [_] from rfl] at hS
  obtain ⟨rfl, -⟩ := List.cons.inj hS
  obtain ⟨q, nc, pz, tp, st, ln, tl, vt, tt⟩ := v
  dsimp only at hst hto hnc
  subst hst hto hnc
  have hkS : (mkS [k] == Str.ofString " ") = false := fS (by rcases hok with rfl | rfl <;> decide)
  have hkQ : k ∈ (Str.ofString "'\"").cps.toList := fQ.mpr (by rcases hok with rfl | rfl <;> rfl)
  refine if_tst (l.st_none rfl ⟨rfl, rfl⟩) o (fun z => nomatch z) fun _ h1 k1 o1 => ?_
  refine no_if (l.st_eq rfl hkS) o1 fun h2 k2 o2 => ?_
  refine yes_if (l.st_quots rfl (one_in.trans (decide_eq_true hkQ))) o2 fun h3 k3 o3 => ?_
  refine wpAny_execs_cons (wpAny_Assign_Name (wpAny_Constant_bool (storeX_L o3.F o3.N (fun h4 F4 N4 => ?_) l.kind l.quoted)))
  rw [show (Pl.m _) = rtM c.x q c.te (some (.str (mkS nx) tn)) from rfl, rtM_q2] at F4
  have o4 : (c.pl ⟨true, some (.str (mkS nx) tn), pz, tp, stV (.qt k) ts, ln, tl, mkS tok, tt⟩).on h4 := ⟨F4, N4⟩
  clear o o1 o2 o3 F4 N4
  rcases rest with _ | ⟨d, r⟩
  · obtain rfl : nx = [] := hnx
    refine wpAny_execs_cons (if_tst (c := c.pl ⟨true, some (.str (mkS []) tn), pz, tp, stV (.qt k) ts, ln, tl, mkS tok, tt⟩) (l.end_next rfl) o4 (fun _ h5 k5 o5 => ?_) fun z => nomatch z)
    exact no_tst (l.debug rfl) o5 fun h6 k6 o6 => execs_1 (hrs k _ _ _ _ _ _ _ _ rfl rfl o6)
  · obtain rfl : nx = [d] := hnx
    refine no_tst (c := c.pl ⟨true, some (.str (mkS [d]) tn), pz, tp, stV (.qt k) ts, ln, tl, mkS tok, tt⟩) (l.is_next rfl) o4 fun h5 k5 o5 => ?_
    clear o4
    by_cases hdk : d = k
    · subst hdk
      refine yes_if (l.nx_st rfl rfl (mk_eq _)) o5 fun h6 k6 o6 => ?_
      refine no_if (tst_not l.posix) o6 fun h7 k7 o7 => ?_
      refine execs_1 (as_state l o7 vl_const fun u h8 k8 hv o8 => ?_)
      obtain ⟨t', rfl⟩ := hv
      exact hgo .next d r .wd true tok _ _ _ _ _ rfl (.inl rfl) o8 (by rw [rt, if_pos rfl]) (.inr rfl) (Nat.le_succ _)
    · refine no_if (l.nx_st rfl rfl (mk_ne hdk)) o5 fun h6 k6 o6 => ?_
      refine no_if (tst_and3 l.posix fun _ => tst_in (by rw [one_in, decide_eq_false (fE (hesc d (.head _)))]) (l.nx rfl) l.escape) o6 fun h7 k7 o7 => ?_
      refine execs_1 (ag_token l rfl (by simp only [List.length_cons, List.length_nil] at hlen ⊢; omega) o7 (l.nx rfl) fun tt' h8 k8 o8 => ?_)
      exact hgo .next d r (.qt k) true (tok ++ [d]) _ _ _ _ _ rfl (.inl rfl) o8 (by rw [rt, if_neg hdk]) hok (by simp)
end
end Rtd_
local macro_rules | `(tactic| walk_at "none1") => `(tactic| skip)
section Rt_
set_option maxRecDepth 100000
set_option maxHeartbeats 4000000

noncomputable def ifElse : Stmt → List Stmt
  | .If _ _ e _ => e
  | _ => []
local macro_rules | `(tactic| walk_at "exec While Constant cons nil") => `(tactic| refine held ?_)
local macro_rules | `(tactic| walk_at "call ref") => `(tactic| refine held ?_)
section
variable {c : Rc} {v : Rv} {A₀ : Around} {base : Heap} {mean : ExcName → Option Value} {mg mb : Str → Option Value} {QQ : Flow → Shared → Prop} {E : Value → Shared → Prop} {h : Heap} {t : Nat} {pre rest : List Nat}
/-- one sign is read -/
theorem rt_read {S1 S2 : Stmt} (hS : (whlBody ((bodOf (stB 19 6)).getD 2 (.Pass default))).head? = some S1) (hb : ifElse S1 = [S2]) (l : Lx c A₀ base mean mg mb) (hT : c.T = mkS (pre ++ rest)) (hp : v.pz = (pre.length : Int)) (hl : pre.length + rest.length ≤ 1000) (hne : ∀ p ∈ (c.dx, lexD c.w c.tk c.sio c.q1 c.q2 (Str.ofString "") true v.st v.ln v.tl v.tok v.tt) :: (c.x, instObj 722 c.dx) :: (c.sio, instObj 587 c.ds) :: (c.q1, dqObj) :: (c.q2, dqObj) :: c.r0, p.1 ≠ c.ds)
    (o : (c.pl v).on h) (hq : ∀ pz tp tn h t, pz = v.pz + ((rest.take 1).length : Int) → (c.pl { v with pz := pz, tp := tp, nc := some (.str (mkS (rest.take 1)) tn) }).on h → QQ .next (c.st h t)) : c.wp (exec S2 (rtE c.sc c.L)) QQ E (c.st h t) := by
  obtain ⟨w, sc, dp, un, gd, outer, h₀, L, tk, tk5, x, dx, sio, ds, q1, q2, T, r0, te, g, d, os⟩ := c
  obtain ⟨q, nc, pz, tp, st, ln, tl, vt, tt⟩ := v
  obtain ⟨hsc, B, X, T', hd, hu, h0, hr⟩ := l
  dsimp only at hT hp hl hne hsc B X T' hd hu
  rw [show (whlBody ((bodOf (stB 19 6)).getD 2 (.Pass default))).head? = some _ from rfl] at hS
  cases hS
  cases hb
  rw [show scpOf (stB 19 6) = ⟨_, _, _, _, _⟩ from rfl] at hsc
  subst hsc
  have F : Fr h₀ L h (rtM x q te nc) := o.F
  have N : News h₀ L h (rtL w tk tk5 x dx sio ds q1 q2 T pz tp st ln tl vt tt r0) := o.N
  have hQ : ∀ pz' tp' tn h' t', pz' = pz + ((rest.take 1).length : Int) → Fr h₀ L h' (rtM x q te (some (.str (mkS (rest.take 1)) tn))) → News h₀ L h' (rtL w tk tk5 x dx sio ds q1 q2 T pz' tp' st ln tl vt tt r0) → QQ .next ⟨h', g, d, t', os⟩ := fun pz' tp' tn h' t' e F N => hq pz' tp' tn h' t' e ⟨F, N⟩
  clear hq o hr h0
  show wpAny (model PySem.Challenge.rw_op0238_01.row.prog w) (ktrTop dp un gd (Str.ofString "shlex.read_token") _ L 690 (.ref 689) [] outer) (exec _ (envX (Str.ofString "shlex.read_token") _ L 690 (.ref 689) [])) _ _ ⟨h, g, d, t, os⟩
  revert X
  w_on
  k_fill
  intro X
  k_steps
  unfold Held
  refine does_use (read_ctT w tk5 pre rest T pz tp _ sio ds _ hT hp hl (.tail _ (.tail _ (.head _))) hne) B F X N T' rfl (by ktr_room) (by ktr_units) ?_
  rintro r' nw' h' tk' F' N' ⟨t', tp', hR⟩
  clear F N
  have hR' : r' = .str (mkS (rest.take 1)) t' ∧ nw' = rtL w tk tk5 x dx sio ds q1 q2 T (pz + ((rest.take 1).length : Int)) tp' st ln tl vt tt r0 := by
    rcases rest with _ | ⟨d, r⟩
    · exact ⟨hR.1, by rw [hR.2]; simp⟩
    · exact hR
  obtain ⟨rfl, rfl⟩ := hR'
  dsimp only
  refine storeX_L F' N' fun h2 F2 N2 => ?_
  rw [rtM_nc] at F2
  exact hQ _ _ _ _ _ rfl F2 N2
/-- one turn of the loop -/
theorem rt_turn {S1 : Stmt} (hS : (bodOf (stB 19 6)).getD 2 (.Pass default) = S1) {st : LSt} {tok : List Nat} {ts : Tok} (l : Lx c A₀ base mean mg mb) (hT : c.T = mkS (pre ++ rest)) (hp : v.pz = (pre.length : Int)) (hl : pre.length + rest.length ≤ 1000) (hne : ∀ p ∈ (c.dx, lexD c.w c.tk c.sio c.q1 c.q2 (Str.ofString "") true v.st v.ln v.tl v.tok v.tt) :: (c.x, instObj 722 c.dx) :: (c.sio, instObj 587 c.ds) :: (c.q1, dqObj) :: (c.q2, dqObj) :: c.r0, p.1 ≠ c.ds)
    (hst : v.st = stV st ts) (hto : v.tok = mkS tok) (hok : stOk st v.q tok) (hlen : tok.length + rest.length ≤ 1000) (hesc : ∀ c ∈ rest, c ≠ 92)
    (o : (c.pl v).on h) (hgo : ∀ v', v'.q = v.q → v'.pz = v.pz + ((rest.take 1).length : Int) → RtGo c v' st tok rest QQ) (hbk : ∀ v', v'.q = v.q → v'.pz = v.pz + ((rest.take 1).length : Int) → RtBk c v' st tok rest QQ) (hrs : ∀ v', RtRs c v' st rest E) : c.wp (execs (whlBody S1) (rtE c.sc c.L)) QQ E (c.st h t) := by
  have r0 := @rt_read c v A₀ base mean mg mb
  have rs := @rt_sp c
  have rw' := @rt_wd c
  have rq := @rt_qt c
  rw [hS] at r0 rs rw' rq
  rw [show (bodOf (stB 19 6)).getD 2 (.Pass default) = .While _ _ _ _ from rfl] at hS
  subst hS
  refine wpAny_execs_cons (if_tst l.no_punct o (fun z => nomatch z) fun _ h1 k1 o1 => execs_1 ?_)
  refine r0 (pre := pre) (rest := rest) rfl rfl l hT hp hl hne o1 fun pz tp tn h2 k2 hpz o2 => ?_
  have rest4 : ∀ ln tl h t, (c.pl ⟨v.q, some (.str (mkS (rest.take 1)) tn), pz, tp, v.st, ln, tl, v.tok, v.tt⟩).on h → c.wp (execs ((whlBody ((bodOf (stB 19 6)).getD 2 (.Pass default))).drop 2) (rtE c.sc c.L)) QQ E (c.st h t) := fun ln tl h3 k3 o3 => no_tst (l.debug rfl) o3 fun h4 k4 o4 => execs_1 (by
    cases st with
    | sp => exact rs (v := ⟨v.q, some (.str (mkS (rest.take 1)) tn), pz, tp, v.st, ln, tl, v.tok, v.tt⟩) rfl l hst hto hok.1 hok.2 rfl rfl hesc o4 (hgo _ rfl hpz) (hbk _ rfl hpz)
    | wd => exact rw' (v := ⟨v.q, some (.str (mkS (rest.take 1)) tn), pz, tp, v.st, ln, tl, v.tok, v.tt⟩) rfl l hst hto hok hlen rfl rfl hesc o4 (hgo _ rfl hpz) (hbk _ rfl hpz)
    | qt k => exact rq (v := ⟨v.q, some (.str (mkS (rest.take 1)) tn), pz, tp, v.st, ln, tl, v.tok, v.tt⟩) rfl l hst hto hok hlen rfl rfl hesc o4 (hgo _ rfl hpz) (hrs _))
  refine wpAny_execs_cons (if_tst (c := c.pl ⟨v.q, some (.str (mkS (rest.take 1)) tn), pz, tp, v.st, v.ln, v.tl, v.tok, v.tt⟩) (l.nx_eq rfl rfl) o2 (fun _ h3 k3 o3 => execs_1 (ag_line l o3 fun ln tl h4 k4 o4 => ?_)) fun _ h3 k3 o3 => wpAny_execs_nil ?_)
  · exact rest4 ln tl h4 k4 o4
  · exact rest4 v.ln v.tl h3 k3 o3
end
section
variable {c : Rc} {v : Rv} {A₀ : Around} {base : Heap} {mean : ExcName → Option Value} {mg mb : Str → Option Value} {Q : Flow → Shared → Prop} {E : Value → Shared → Prop} {h : Heap} {t : Nat} {tok : List Nat}
/-- behind the loop -/
theorem rt_tail (l : Lx c A₀ base mean mg mb) (hto : v.tok = mkS tok) (hl : tok.length ≤ 100000) (o : (c.pl v).on h)
    (hq : ∀ val h t m tt, val = (if v.q = false ∧ tok = [] then .none else .str (mkS tok) v.tt) → Fr c.h₀ c.L h m → News c.h₀ c.L h (c.led { v with tok := mkS [], tt := tt }) → Q (.ret val) (c.st h t)) :
    c.wp (execs ((bodOf (stB 19 6)).drop 3) (rtE c.sc c.L)) Q E (c.st h t) := by
  obtain ⟨w, sc, dp, un, gd, outer, h₀, L, tk, tk5, x, dx, sio, ds, q1, q2, T, r0, te, g, d, os⟩ := c
  obtain ⟨q, nc, pz, tp, st, ln, tl, vt, tt⟩ := v
  dsimp only at hto
  subst hto
  have ow : ∀ m led, Pl.own ⟨PySem.Challenge.rw_op0238_01.row.prog, w, rtA dp un gd sc L outer, h₀, L, m, led, rtE sc L, g, d, os⟩ := fun _ _ => ⟨l.kind, rfl⟩
  have hsc : scpOf (stB 19 6) = sc := l.hsc
  have kr : (rtE sc L).kindOf (Str.ofString "result") = some .local := by rw [← hsc]; rfl
  rw [show (bodOf (stB 19 6)).drop 3 = [_, _, _, _, _] from rfl]
  refine wpAny_execs_cons (as_name (c := Rc.pl ⟨w, sc, dp, un, gd, outer, h₀, L, tk, tk5, x, dx, sio, ds, q1, q2, T, r0, te, g, d, os⟩ ⟨q, nc, pz, tp, st, ln, tl, mkS tok, tt⟩) (ow _ _) o kr (l.attr rfl (by rfl) rfl (by kernel_rfl)) (fun u h1 t1 hu o1 => ?_) rfl)
  have key : ∃ m, Fr h₀ L h1 m ∧ m (Str.ofString "self") = some (.ref x) ∧ m (Str.ofString "quoted") = some (.bool q) ∧ m (Str.ofString "result") = some (.str (mkS tok) tt) := ⟨_, o1.F, (Pl.put_ne (by decide)).trans rfl, (Pl.put_ne (by decide)).trans rfl, Pl.put_eq.trans (by rw [hu])⟩
  have N1 : News h₀ L h1 (rtL w tk tk5 x dx sio ds q1 q2 T pz tp st ln tl (mkS tok) tt r0) := o1.N
  clear o o1 hu
  obtain ⟨m, F1, m1, m2, m3⟩ := key
  refine wpAny_execs_cons (st_put (m := m) (rest := (x, instObj 722 dx) :: (sio, instObj 587 ds) :: (q1, dqObj) :: (q2, dqObj) :: r0) ⟨F1, N1⟩ l.X m1 l.kind l.self (.head _) l.h0 l.hr (by kernel_rfl) (by rfl) (Nat.le_of_ble_eq_true rfl) rfl (vl_const (x := Str.ofString "")) fun u h2 t2 hu o2 => ?_)
  obtain ⟨tt', rfl⟩ := hu
  have F2 : Fr h₀ L h2 m := o2.F
  have N2 : News h₀ L h2 (rtL w tk tk5 x dx sio ds q1 q2 T pz tp st ln tl (mkS []) tt' r0) := by rw [← em_s]; exact o2.N
  clear o2 F1 N1
  have kq : (rtE sc L).kindOf (Str.ofString "quoted") = some .local := by rw [← hsc]; rfl
  have fin : ∀ val m h3 t3, val = (if q = false ∧ tok = [] then Value.none else .str (mkS tok) tt) → m (Str.ofString "self") = some (.ref x) → m (Str.ofString "result") = some val → Fr h₀ L h3 m → News h₀ L h3 (rtL w tk tk5 x dx sio ds q1 q2 T pz tp st ln tl (mkS []) tt' r0) →
      wpAny (model PySem.Challenge.rw_op0238_01.row.prog w) (rtA dp un gd sc L outer) (execs ((bodOf (stB 19 6)).drop 6) (rtE sc L)) Q E ⟨h3, g, d, t3, os⟩ := by
    intro val m h3 t3 hv s1 s2 F3 N3
    rw [show (bodOf (stB 19 6)).drop 6 = [_, _] from rfl]
    refine no_tst (c := ⟨PySem.Challenge.rw_op0238_01.row.prog, w, rtA dp un gd sc L outer, h₀, L, m, rtL w tk tk5 x dx sio ds q1 q2 T pz tp st ln tl (mkS []) tt' r0, rtE sc L, g, d, os⟩) ((tst_gt (j := 0) (t := tk 25) (vl_self l.X s1 l.kind l.self (.tail _ (.tail _ (.head _))) (.tail _ (.head _)) (by rfl) rfl (by kernel_rfl))).as rfl) ⟨F3, N3⟩ fun h4 t4 o4 => ?_
    exact execs_1 (wpAny_Return_some (nameX_L o4.F s2 (hq val h4 t4 m tt' hv o4.F o4.N) l.kind kr))
  refine wpAny_execs_cons (if_tst (c := ⟨PySem.Challenge.rw_op0238_01.row.prog, w, rtA dp un gd sc L outer, h₀, L, m, rtL w tk tk5 x dx sio ds q1 q2 T pz tp st ln tl (mkS []) tt' r0, rtE sc L, g, d, os⟩) (tst_and3b (tst_bool (vl_self l.X m1 l.kind l.self (.tail _ (.tail _ (.head _))) (.tail _ (.head _)) (by rfl) rfl (by kernel_rfl)) rfl) (tst_not (tst_bool (vl_loc (ow _ _) m2 kq) rfl)) (tst_eq (vl_loc (ow _ _) m3 kr).s vl_const)) ⟨F2, N2⟩ (fun hz h3 t3 o3 => ?_) fun hz h3 t3 o3 => wpAny_execs_nil ?_)
  · obtain ⟨z1, z2⟩ := Bool.and_eq_true_iff.mp hz
    have hq0 : q = false := by simpa using z1
    have ht0 : tok = [] := by
      rcases tok with _ | ⟨a, r⟩
      · rfl
      · exact absurd (congrArg (fun y : Str => y.cps.toList) (beq_iff_eq.mp z2)) (by rw [em_s]; exact fun z => nomatch z)
    refine execs_1 (as_name (c := ⟨PySem.Challenge.rw_op0238_01.row.prog, w, rtA dp un gd sc L outer, h₀, L, m, rtL w tk tk5 x dx sio ds q1 q2 T pz tp st ln tl (mkS []) tt' r0, rtE sc L, g, d, os⟩) (ow _ _) o3 kr vl_none (fun u h4 t4 hu o4 => ?_) rfl)
    subst hu
    exact fin .none _ h4 t4 (by rw [if_pos ⟨hq0, ht0⟩]) ((Pl.put_ne (by decide)).trans m1) Pl.put_eq o4.F o4.N
  · refine fin (.str (mkS tok) tt) m h3 t3 ?_ m1 m3 o3.F o3.N
    rw [if_neg]
    rintro ⟨rfl, rfl⟩
    rw [em_s, mk_eq] at hz
    cases hz
end
theorem step_of {h₀ : Heap} {L : Addr} {s s' : Shared} {J : Nat → (Str → Option Value) → List (Addr × Obj) → Prop} {Q : Flow → Shared → Prop} {n : Nat} {f : Flow} (hf : f = .next ∨ f = .cont) (h : WhileStep2 h₀ L s J Q n .next s') : WhileStep2 h₀ L s J Q n f s' := by
  rcases hf with rfl | rfl
  · exact h
  · exact h
noncomputable def rtRet (w : World) (tk tk5 : Nat → Tok) (x dx sio ds q1 q2 : Nat) (T : Str) (rest0 : List Nat) (r0 : List (Addr × Obj)) (news' : List (Addr × Obj)) (v : Value) : Prop :=
  ∃ q tok fin r pre p tp st ts ln tl tt t, rt .sp false [] rest0 = some (q, tok, fin, r) ∧ v = (if q = false ∧ tok = [] then .none else .str (mkS tok) t) ∧
    news' = rtL w tk tk5 x dx sio ds q1 q2 T p tp st ln tl (mkS []) tt r0 ∧ st = (if fin then .none else .str (Str.ofString " ") ts) ∧ T = mkS (pre ++ r) ∧ p = (pre.length : Int) ∧ (fin = true → r = [])
set_option maxHeartbeats 40000000 in
theorem rt_ct (w : World) (tk_1 tk5 : Nat → Tok) (x dx sio ds q1 q2 : Nat) (pre0 rest0 : List Nat) (T : Str) (p0 : Int) (tp ts tl tt : Tok) (ln : Int) (r0 : List (Addr × Obj)) (hT0 : T = mkS (pre0 ++ rest0)) (hp0 : p0 = (pre0.length : Int)) (hesc : ∀ c ∈ rest0, c ≠ 92) (hlen : pre0.length + rest0.length ≤ 1000)
    (o1 : dx < x) (o2 : x < ds) (o3 : ds < sio) (o4 : sio < q1) (o5 : q1 < q2) (hr1 : ∀ p ∈ r0, p.1 ≠ dx) (hr2 : ∀ p ∈ r0, p.1 ≠ ds) :
    DoesX w 690 [.ref x] [] 60 300 (fun news => news = rtL w tk_1 tk5 x dx sio ds q1 q2 T p0 tp (stV .sp ts) ln tl (mkS []) tt r0) (fun _ news' r => rtRet w tk_1 tk5 x dx sio ds q1 q2 T rest0 r0 news' r) (fun _ news' => rt .sp false [] rest0 = none ∧ ∀ p ∈ r0, p ∈ news') := by
  unfold DoesX
  w_on
  k_fill
  intro mean mg mb dp un gd cn ns ig ic mo a ccd outer A₀ base h₀ L m news s Q E B F X N TT XB TB KD hpre hd hu hret hexc
  subst hpre
  refine wpAny_call ?_
  k_dflt k_enter
  k_steps
  unfold Held
  rename News _ _ _ _ => N1
  rename Fr _ _ _ (fun _ => _) => F1
  rename Below _ _ _ _ => B1
  rename Frag.In _ _ => X1
  rename Top _ _ _ _ _ _ => T1
  have lx : ∀ L te, Lx ⟨w, _, dp + 1, un + 3, gd, _, _, L, tk_1, tk5, x, dx, sio, ds, q1, q2, T, r0, te, s.gens, s.drawn, s.os⟩ _ _ _ _ _ := fun L te => ⟨rfl, B1, X1, T1, by show dp + 1 + 40 < _; omega, by show un + 3 + 200 < _; omega, Nat.ne_of_gt (Nat.lt_trans o1 o2), fun p hp => by
      simp only [List.mem_cons] at hp
      rcases hp with rfl | rfl | rfl | rfl | hp
      · exact Nat.ne_of_gt o1
      · exact Nat.ne_of_gt (Nat.lt_trans o1 (Nat.lt_trans o2 o3))
      · exact Nat.ne_of_gt (Nat.lt_trans o1 (Nat.lt_trans o2 (Nat.lt_trans o3 o4)))
      · exact Nat.ne_of_gt (Nat.lt_trans o1 (Nat.lt_trans o2 (Nat.lt_trans o3 (Nat.lt_trans o4 o5))))
      · exact hr1 p hp⟩
  refine end_of F1 (RtEnd w tk_1 tk5 x dx sio ds q1 q2 T rest0 r0) ?_ ?_
  · refine While_inv2 (RtJ w tk_1 tk5 x dx sio ds q1 q2 T rest0 r0) (n₀ := rest0.length) F1 N1 ⟨.sp, false, [], pre0, rest0, _, _, none, _, _, _, _, _, rtM_init, rfl, rfl, hT0, hp0, rfl, ⟨rfl, rfl⟩, hesc, Nat.le_of_eq (Nat.zero_add _), hlen⟩ ?_
    clear F1 N1
    rintro n m₁ news₁ h₁ tk₁ F₁ N₁ ⟨st, q, tok, pre, rest, p, te, nc, tp, ts, ln, tl, tt, rfl, rfl, hn, hT, hp, hrt, hok, hch, htl, hlen'⟩
    have hne : ∀ p ∈ (dx, lexD w tk_1 sio q1 q2 (Str.ofString "") true (stV st ts) ln tl (mkS tok) tt) :: (x, instObj 722 dx) :: (sio, instObj 587 ds) :: (q1, dqObj) :: (q2, dqObj) :: r0, p.1 ≠ ds := by
      intro p hp
      simp only [List.mem_cons] at hp
      rcases hp with rfl | rfl | rfl | rfl | rfl | hp
      · exact Nat.ne_of_lt (Nat.lt_trans o1 o2)
      · exact Nat.ne_of_lt o2
      · exact Nat.ne_of_gt o3
      · exact Nat.ne_of_gt (Nat.lt_trans o3 o4)
      · exact Nat.ne_of_gt (Nat.lt_trans (Nat.lt_trans o3 o4) o5)
      · exact hr2 p hp
    refine isTrue_plain (wpAny_Constant_bool (wpAny_truthy_bool ?_))
    rw [if_pos rfl]
    have hp1 : ∀ {d : Nat} {r : List Nat}, rest = d :: r → T = mkS ((pre ++ [d]) ++ r) ∧ (p + ((rest.take 1).length : Int)) = ((pre ++ [d]).length : Int) ∧ rest.length = r.length + 1 := by
      rintro d r rfl
      exact ⟨by rw [hT, List.append_assoc]; rfl, by rw [hp, List.length_append]; rfl, rfl⟩
    refine rt_turn (c := ⟨w, _, dp + 1, un + 3, gd, _, _, _, tk_1, tk5, x, dx, sio, ds, q1, q2, T, r0, te, s.gens, s.drawn, s.os⟩) (v := ⟨q, nc, p, tp, stV st ts, ln, tl, mkS tok, tt⟩) (pre := pre) (rest := rest) (st := st) (tok := tok) rfl (lx _ te) hT hp hlen' hne rfl rfl hok (by omega) hch ⟨F₁, N₁⟩ ?_ ?_ ?_
    · rintro ⟨q0, nc0, pz0, tp0, st0, ln0, tl0, vt0, tt0⟩ hvq hvp f d r st' q' tok' h t nc' ts' tt' hr hf o hrt' hok' htk
      dsimp only at hvq hvp o hrt'
      subst hvq hvp
      obtain ⟨g1, g2, g3⟩ := hp1 hr
      exact step_of hf ⟨h, t, _, _, r.length, rfl, o.F, o.N, by omega, st', q', tok', pre ++ [d], r, _, _, _, _, _, _, _, _, rfl, rfl, rfl, g1, g2, hrt'.symm.trans hrt, hok', fun c hc => hch c (hr ▸ .tail _ hc), by omega, by rw [List.length_append, List.length_singleton]; omega⟩
    · rintro ⟨q0, nc0, pz0, tp0, st0, ln0, tl0, vt0, tt0⟩ hvq hvp q' tok' fin r sv h t nc' ts' tt' o hsv hrt' hr htk hfr
      dsimp only at hvq hvp o hrt'
      subst hvq hvp
      refine ⟨rfl, h, t, q', tok', fin, r, pre ++ rest.take 1, _, te, nc', tp0, sv, ts', ln0, tl0, tt', rfl, o.F, o.N, hsv, ?_, ?_, hrt.symm.trans hrt', hfr, by omega⟩
      · rw [hT, ← hr, List.append_assoc, List.take_append_drop]
      · rw [hp, List.length_append]; rfl
    · rintro ⟨q0, nc0, pz0, tp0, st0, ln0, tl0, vt0, tt0⟩ k p1 k1 p2 p3 p4 h t Q' rfl rfl o
      have F2 := o.F
      have N2 := o.N
      clear lx hne hp1 F₁ N₁ o
      dsimp only at F2 N2 ⊢
      k_steps
      exact hexc _ _ _ _ _ _ _ (by assumption) (by assumption) (by assumption) (by assumption) ⟨by rw [← hrt]; rfl, fun p hp => by simp [hp]⟩
  · rintro f s' ⟨rfl, h', tk', q, tok, fin, r, pre, p, te, nc, tp, st, ts, ln, tl, tt, rfl, F2, N2, hst, hT, hp, hrt, hr, htl⟩
    refine rt_tail (c := ⟨w, _, dp + 1, un + 3, gd, _, _, _, tk_1, tk5, x, dx, sio, ds, q1, q2, T, r0, te, s.gens, s.drawn, s.os⟩) (v := ⟨q, nc, p, tp, st, ln, tl, mkS tok, tt⟩) (lx _ te) rfl (by omega) ⟨F2, N2⟩ fun val h2 t2 m2 tt2 hv F3 N3 => ?_
    clear lx F2 N2
    have F4 := F3
    have N4 : News _ _ h2 (rtL w tk_1 tk5 x dx sio ds q1 q2 T p tp st ln tl (mkS []) tt2 r0) := N3
    clear F3 N3
    k_steps
    exact hret _ _ _ _ (by k_asm) (by k_asm) ⟨q, tok, fin, r, pre, _, _, _, _, _, _, _, _, hrt, hv, rfl, hst, hT, hp, hr⟩
end Rt_
local macro_rules | `(tactic| walk_at "none2") => `(tactic| skip)
section Nx_
set_option maxRecDepth 100000
set_option maxHeartbeats 4000000

/-- a contract with built-in exceptions that may leave it -/
noncomputable def DoesY (w : World) (f : Addr) (args : List Value) (kw : List (Str × Value)) (dn unn : Nat) (Pre : List (Addr × Obj) → Prop) (Ret : List (Addr × Obj) → List (Addr × Obj) → Value → Prop) (Exc : String → List (Addr × Obj) → List (Addr × Obj) → Prop) : Prop :=
  ∀ (mean : ExcName → Option Value) (mg mb : Str → Option Value) (dp un : Nat) (gd : Option (List Code)) (cn : Str) (ns : List (Str × NameKind)) (ig ic : Bool) (mo : List (Str × Const)) (a : Addr) (ccd : Value) (outer : List Env) (A₀ : Around) (base h₀ : Heap) (L : Addr) (m : Str → Option Value) (news : List (Addr × Obj)) (s : Shared)
    (Q E : Value → Shared → Prop),
    Below A₀ base outer h₀ → Fr h₀ L s.heap m → (Mine.K1 w.params).In h₀ → News h₀ L s.heap news → Top Mine.q1 (looseW Mine.q1 lz) mean mg mb h₀ → (Mine.K1 w.params).In base → Top Mine.q1 (looseW Mine.q1 lz) mean mg mb base → KtsDicts (outer.filterMap (·.frame)) h₀ → Pre news → dp + dn < recursionLimit → un + unn < cLine →
    (∀ r news' h' tk', Fr h₀ L h' m → News h₀ L h' news' → Ret news news' r → Q r { s with heap := h', toks := tk' }) →
    (∀ X e t vs g news' h' tk', Fr h₀ L g m → RaisedS base g (envOf cn ⟨.function, ns, ig, ic, mo⟩ L a ccd :: outer) e (.type X) t vs news' h' → g.UpToSlots h' → Exc X news news' → E (.ref e) { s with heap := h', toks := tk' }) →
    wpAny (model PySem.Challenge.rw_op0238_01.row.prog w) (ktrTop dp un gd cn ⟨.function, ns, ig, ic, mo⟩ L a ccd [] outer) (call (.ref f) args kw) Q E s
/-- the next word -/
noncomputable def nxRet (w : World) (tk tk5 : Nat → Tok) (x dx sio ds q1 q2 : Nat) (T : Str) (rest0 : List Nat) (r0 : List (Addr × Obj)) (news' : List (Addr × Obj)) (v : Value) : Prop :=
  ∃ q tok fin r pre p tp st ts ln tl tt t, rt .sp false [] rest0 = some (q, tok, fin, r) ∧ ¬ (q = false ∧ tok = []) ∧ v = .str (mkS tok) t ∧
    news' = rtL w tk tk5 x dx sio ds q1 q2 T p tp st ln tl (mkS []) tt r0 ∧ st = (if fin then .none else .str (Str.ofString " ") ts) ∧ T = mkS (pre ++ r) ∧ p = (pre.length : Int) ∧ (fin = true → r = [])
local macro_rules | `(tactic| walk_at "truthy ref") => `(tactic| (k_here; k_dflt (refine' deque_truthy ?N ?m ?_; (case N => k_asm); (case m => k_mem); k_whole)))
local macro_rules | `(tactic| walk_at "call ref") => `(tactic| (k_here; (with_reducible show wpAny _ _ (call (Value.ref 690) _ _) _ _ _); refine held ?_))
theorem next_sp (w : World) (tk_1 tk5 : Nat → Tok) (x dx sio ds q1 q2 : Nat) (pre0 rest0 : List Nat) (T : Str) (p0 : Int) (tp ts tl tt : Tok) (ln : Int) (r0 : List (Addr × Obj)) (hT0 : T = mkS (pre0 ++ rest0)) (hp0 : p0 = (pre0.length : Int)) (hesc : ∀ c ∈ rest0, c ≠ 92) (hlen : pre0.length + rest0.length ≤ 1000)
    (o1 : dx < x) (o2 : x < ds) (o3 : ds < sio) (o4 : sio < q1) (o5 : q1 < q2) (hr1 : ∀ p ∈ r0, p.1 ≠ dx) (hr2 : ∀ p ∈ r0, p.1 ≠ ds) :
    DoesY w 719 [.ref x] [] 80 400 (fun news => news = rtL w tk_1 tk5 x dx sio ds q1 q2 T p0 tp (stV .sp ts) ln tl (mkS []) tt r0) (fun _ news' v => nxRet w tk_1 tk5 x dx sio ds q1 q2 T rest0 r0 news' v) (fun X _ news' => (∀ p ∈ r0, p ∈ news') ∧ ((X = "ValueError" ∧ rt .sp false [] rest0 = none) ∨ (X = "StopIteration" ∧ ∃ fin r, rt .sp false [] rest0 = some (false, [], fin, r)))) := by
  unfold DoesY
  w_on
  k_fill
  intro mean mg mb dp un gd cn ns ig ic mo a ccd outer A₀ base h₀ L m news s Q E B F X N TT XB TB KD hpre hd hu hret hexc
  subst hpre
  refine wpAny_call ?_
  k_dflt k_enter
  k_steps
  unfold Held
  refine doesX_use (rt_ct w tk_1 tk5 x dx sio ds q1 q2 pre0 rest0 T p0 tp ts tl tt ln r0 hT0 hp0 hesc hlen o1 o2 o3 o4 o5 hr1 hr2) (by assumption) (by k_asm) (by k_asm) (by k_asm) (by k_asm) XB TB (by assumption) rfl (by ktr_room) (by ktr_units) ?_ ?_
  · rintro v news' h' tk' F' N' ⟨q, tok, fin, r, pre, p, tp, st, ts, ln, tl, tt, t, hrt, hv, rfl, hst, hT, hp, hr⟩
    by_cases hc : q = false ∧ tok = []
    · rw [if_pos hc] at hv
      obtain ⟨rfl, rfl⟩ := hc
      subst hv
      dsimp only
      k_steps
      refine hexc _ _ _ _ _ _ _ _ (by assumption) (by assumption) (by assumption) ⟨fun p hp => by simp [hp], .inr ⟨rfl, _, _, hrt⟩⟩
    · rw [if_neg hc] at hv
      subst hv
      dsimp only
      k_steps
      exact hret _ _ _ _ (by k_asm) (by k_asm) ⟨q, tok, fin, r, pre, p, _, _, _, _, _, _, _, hrt, hc, rfl, rfl, hst, hT, hp, hr⟩
  · intro e t vs g news' h' tk' FG S R U hx
    dsimp only
    k_steps
    exact hexc _ _ _ _ _ _ _ _ (by assumption) (by assumption) (by assumption) ⟨hx.2, .inl ⟨rfl, hx.1⟩⟩
end Nx_
section NxD_
set_option maxRecDepth 100000
set_option maxHeartbeats 4000000

local macro_rules | `(tactic| walk_at "truthy ref") => `(tactic| (k_here; k_dflt (refine' deque_truthy ?N ?m ?_; (case N => k_asm); (case m => k_mem); k_whole)))
local macro_rules | `(tactic| walk_at "compareOp Eq str str") => `(tactic| (k_here; first | refine eq_no (by first | assumption | decide) ?_ | refine eq_yes (by first | assumption | exact mk_eq _ | decide) ?_))
local macro_rules | `(tactic| walk_at "truthy str") => `(tactic| (k_here; first | (with_reducible refine truthy_nil ?_) | (with_reducible refine truthy_cons (by first | assumption | exact Nat.le_of_ble_eq_true rfl) ?_)))
local macro_rules | `(tactic| walk_at "call ref") => `(tactic| (k_here; (with_reducible show wpAny _ _ (call (Value.ref 533) _ _) _ _ _); refine held ?_))
theorem next_dn (w : World) (tk_1 tk5 : Nat → Tok) (x dx sio ds q1 q2 : Nat) (pre0 : List Nat) (T : Str) (p0 : Int) (tp tl tt : Tok) (ln : Int) (r0 : List (Addr × Obj)) (hT0 : T = mkS (pre0 ++ [])) (hp0 : p0 = (pre0.length : Int)) (hlen : pre0.length + ([] : List Nat).length ≤ 1000)
    (o1 : dx < x) (o2 : x < ds) (o3 : ds < sio) (o4 : sio < q1) (o5 : q1 < q2) (hr1 : ∀ p ∈ r0, p.1 ≠ dx) (hr2 : ∀ p ∈ r0, p.1 ≠ ds) :
    DoesY w 719 [.ref x] [] 80 400 (fun news => news = rtL w tk_1 tk5 x dx sio ds q1 q2 T p0 tp .none ln tl (mkS []) tt r0) (fun _ news' v => False) (fun X _ news' => (∀ p ∈ r0, p ∈ news') ∧ X = "StopIteration") := by
  unfold DoesY
  w_on
  k_fill
  intro mean mg mb dp un gd cn ns ig ic mo a ccd outer A₀ base h₀ L m news s Q E B F X N TT XB TB KD hpre hd hu hret hexc
  subst hpre
  have hne : ∀ p ∈ (dx, lexD w tk_1 sio q1 q2 (Str.ofString "") true .none ln tl (mkS []) tt) :: (x, instObj 722 dx) :: (sio, instObj 587 ds) :: (q1, dqObj) :: (q2, dqObj) :: r0, p.1 ≠ ds := by
    intro p hp
    simp only [List.mem_cons] at hp
    rcases hp with rfl | rfl | rfl | rfl | rfl | hp
    · exact Nat.ne_of_lt (Nat.lt_trans o1 o2)
    · exact Nat.ne_of_lt o2
    · exact Nat.ne_of_gt o3
    · exact Nat.ne_of_gt (Nat.lt_trans o3 o4)
    · exact Nat.ne_of_gt (Nat.lt_trans (Nat.lt_trans o3 o4) o5)
    · exact hr2 p hp
  refine wpAny_call ?_
  k_dflt k_enter
  k_steps
  unfold Held
  k_dflt (refine' does_use (read_ctT _ _ _ _ _ _ _ _ _ _ _ ?hT ?hp ?hl ?hm ?hne) ?B ?F ?X ?N ?T ?pre ?hd ?hu ?_; (case N => k_asm); (case pre => exact rfl); (case B => k_asm); (case F => k_asm); (case X => k_asm); (case T => k_asm); (case hT => assumption); (case hp => assumption); (case hl => assumption); (case hm => k_mem); (case hne => assumption); (case hd => ktr_room); (case hu => ktr_units); k_whole; (intro r' nw' h' tk' F' N' hR'); (obtain ⟨t', tp', e1, e2⟩ := hR'); subst e1; subst e2; (try dsimp only); (try k_sweep))
  k_steps
  exact hexc _ _ _ _ _ _ _ _ (by assumption) (by assumption) (by assumption) ⟨fun p hp => by simp [hp], rfl⟩
end NxD_
section Rebase_
set_option maxRecDepth 100000
set_option maxHeartbeats 4000000

section
variable {A₀ : Around} {base h₀ G h' : Heap} {outer : List Env} {L a e t : Addr} {m : Str → Option Value} {name : Str} {scope : Scope} {cd cls : Value} {vs : List Value} {news : List (Addr × Obj)}
/-- behind a raise that was caught outside the text: the frame stands over a ground whose frames' slots may have turned -/
theorem rebase (B : Below A₀ base outer h₀) (F : Fr h₀ L G m) (R : RaisedS base G (envOf name scope L a cd :: outer) e cls t vs news h') (hsm : G.UpToSlots h') :
    ∃ g', KtsTurn (outer.filterMap (·.frame)) h₀ g' ∧ Fr g' L h' m ∧ Below A₀ base outer g' ∧ News g' L h' news ∧ ∃ o, h'.get? e = some o ∧ o.cls = cls := by
  obtain ⟨⟨B', hB, hBG, hl, hfl, hnew⟩, htup⟩ := R
  have hL : B'.get? L = none := by
    obtain ⟨_, ⟨L', _, hf, hn', _⟩, _⟩ := hfl.2.2.1
    obtain rfl : L = L' := Option.some.inj hf
    exact hn'
  obtain ⟨g', T, F', K'⟩ := kts_ground B F hBG hfl.1 hsm
  refine ⟨g', T, F', K', fun q hq => ⟨hfl.1 _ _ (hl q hq).1, (fun z => by have := (hl q hq).1; rw [z, hL] at this; cases this), T.none_ _ (kts_none F.keep (hl q hq).2.1)⟩, hfl.there⟩
end
/-- the words behind a place -/
noncomputable def toksN : Nat → Bool → List Nat → Option (List (List Nat))
  | 0, _, _ => some []
  | _ + 1, true, _ => some []
  | n + 1, false, rest => match rt .sp false [] rest with
    | none => none
    | some (q, tok, fin, r) => if q = false ∧ tok = [] then some [] else (toksN n fin r).map (tok :: ·)
theorem rt_len : ∀ (rest : List Nat) (st : LSt) (q : Bool) (tok : List Nat) {q' : Bool} {tok' : List Nat} {fin : Bool} {r : List Nat}, rt st q tok rest = some (q', tok', fin, r) → (fin = true → r = []) ∧ (fin = false → r.length < rest.length) ∧ tok'.length + r.length ≤ tok.length + rest.length
  | [], .sp, _, _, _, _, _, _, h => by cases h; exact ⟨fun _ => rfl, (fun h => nomatch h), Nat.le_refl _⟩
  | [], .wd, _, _, _, _, _, _, h => by cases h; exact ⟨fun _ => rfl, (fun h => nomatch h), Nat.le_refl _⟩
  | [], .qt _, _, _, _, _, _, _, h => by cases h
  | c :: r, .sp, q, tok, _, _, _, _, h => by
    rw [rt] at h
    split at h
    · have := rt_len r _ _ _ h; refine ⟨this.1, fun z => Nat.lt_succ_of_lt (this.2.1 z), ?_⟩; simp only [List.length_cons]; omega
    · split at h
      · have := rt_len r _ _ _ h; refine ⟨this.1, fun z => Nat.lt_succ_of_lt (this.2.1 z), ?_⟩; simp only [List.length_cons]; omega
      · have := rt_len r _ _ _ h; refine ⟨this.1, fun z => Nat.lt_succ_of_lt (this.2.1 z), ?_⟩; simp only [List.length_cons, List.length_nil] at this ⊢; omega
  | c :: r, .wd, q, tok, _, _, _, _, h => by
    rw [rt] at h
    split at h
    · cases h; exact ⟨(fun h => nomatch h), fun _ => Nat.lt_succ_self _, by simp only [List.length_cons]; omega⟩
    · split at h
      · have := rt_len r _ _ _ h; refine ⟨this.1, fun z => Nat.lt_succ_of_lt (this.2.1 z), ?_⟩; simp only [List.length_cons]; omega
      · have := rt_len r _ _ _ h; refine ⟨this.1, fun z => Nat.lt_succ_of_lt (this.2.1 z), ?_⟩; simp only [List.length_cons, List.length_append, List.length_nil] at this ⊢; omega
  | c :: r, .qt k, q, tok, _, _, _, _, h => by
    rw [rt] at h
    split at h
    · have := rt_len r _ _ _ h; refine ⟨this.1, fun z => Nat.lt_succ_of_lt (this.2.1 z), ?_⟩; simp only [List.length_cons]; omega
    · have := rt_len r _ _ _ h; refine ⟨this.1, fun z => Nat.lt_succ_of_lt (this.2.1 z), ?_⟩; simp only [List.length_cons, List.length_append, List.length_nil] at this ⊢; omega
theorem rt_suffix : ∀ (rest : List Nat) (st : LSt) (q : Bool) (tok : List Nat) {q' : Bool} {tok' : List Nat} {fin : Bool} {r : List Nat}, rt st q tok rest = some (q', tok', fin, r) → ∃ pre, rest = pre ++ r
  | [], .sp, _, _, _, _, _, _, h => by cases h; exact ⟨[], rfl⟩
  | [], .wd, _, _, _, _, _, _, h => by cases h; exact ⟨[], rfl⟩
  | [], .qt _, _, _, _, _, _, _, h => by cases h
  | c :: r, .sp, q, tok, _, _, _, _, h => by
    rw [rt] at h
    split at h
    · obtain ⟨p, e⟩ := rt_suffix r _ _ _ h; exact ⟨c :: p, by rw [e]; rfl⟩
    · split at h
      · obtain ⟨p, e⟩ := rt_suffix r _ _ _ h; exact ⟨c :: p, by rw [e]; rfl⟩
      · obtain ⟨p, e⟩ := rt_suffix r _ _ _ h; exact ⟨c :: p, by rw [e]; rfl⟩
  | c :: r, .wd, q, tok, _, _, _, _, h => by
    rw [rt] at h
    split at h
    · cases h; exact ⟨[c], rfl⟩
    · split at h
      · obtain ⟨p, e⟩ := rt_suffix r _ _ _ h; exact ⟨c :: p, by rw [e]; rfl⟩
      · obtain ⟨p, e⟩ := rt_suffix r _ _ _ h; exact ⟨c :: p, by rw [e]; rfl⟩
  | c :: r, .qt k, q, tok, _, _, _, _, h => by
    rw [rt] at h
    split at h
    · obtain ⟨p, e⟩ := rt_suffix r _ _ _ h; exact ⟨c :: p, by rw [e]; rfl⟩
    · obtain ⟨p, e⟩ := rt_suffix r _ _ _ h; exact ⟨c :: p, by rw [e]; rfl⟩
/-- texts as values -/
inductive TxtsAre : List Value → List (List Nat) → Prop where
  | nil : TxtsAre [] []
  | cons {l : List Nat} {t : Tok} {vs : List Value} {ws : List (List Nat)} : TxtsAre vs ws → TxtsAre (.str (mkS l) t :: vs) (l :: ws)
theorem TxtsAre.snoc : ∀ {vs : List Value} {ws : List (List Nat)}, TxtsAre vs ws → ∀ (l : List Nat) (t : Tok), TxtsAre (vs ++ [.str (mkS l) t]) (ws ++ [l])
  | _, _, .nil, _, _ => .cons .nil
  | _, _, .cons h, l, t => .cons (h.snoc l t)
theorem TxtsAre.len : ∀ {vs : List Value} {ws : List (List Nat)}, TxtsAre vs ws → vs.length = ws.length
  | _, _, .nil => rfl
  | _, _, .cons h => congrArg (· + 1) h.len
end Rebase_
section LexLoop_
set_option maxRecDepth 100000
set_option maxHeartbeats 4000000

noncomputable abbrev lsObj (vs : List Value) (c : Nat) : Obj := { cls := .type "list", data := .seq vs.toArray c }
theorem lex_next (w : World) : findIn (Mine.K1 w.params) (.ref 722) "__next__" = some (some (.ref 719)) := by kernel_rfl
theorem lex_nextF (w : World) : isFn (Mine.K1 w.params) (.ref 719) = true := by kernel_rfl
theorem stop_stop : isSubtype (.type "StopIteration") (.type "StopIteration") = pure true := by rw [isSubtype_type]; kernel_rfl
theorem val_stop : isSubtype (.type "ValueError") (.type "StopIteration") = pure false := by rw [isSubtype_type]; kernel_rfl
theorem ls_push (acc : List Value) (c : Nat) (v : Value) : Obj.mapSeq (·.push v) (lsObj acc c) = lsObj (acc ++ [v]) (c + 1) := by
  show ({ cls := .type "list", data := .seq (acc.toArray.push v) (if (acc.toArray.push v).size == acc.toArray.size then c else c + 1) } : Obj) = _
  have h : ((acc.toArray.push v).size == acc.toArray.size) = false := by rw [beq_eq_false_iff_ne, Array.size_push]; omega
  rw [h, List.push_toArray]; rfl
section
variable {w : World} {mean : ExcName → Option Value} {mg mb : Str → Option Value} {dp un : Nat} {gd : Option (List Code)} {cn : Str} {ns : List (Str × NameKind)} {ig ic : Bool} {mo : List (Str × Const)} {a : Addr} {ccd : Value} {outer : List Env} {A₀ : Around} {base h₀ : Heap} {L : Addr} {m : Str → Option Value} {s : Shared}
  {tk_1 tk5 : Nat → Tok} {x dx sio ds q1 q2 S : Nat} {Tx : Str} {r00 : List (Addr × Obj)} {R : Result → Shared → Prop}
theorem ext_loop (B : Below A₀ base outer h₀) (X : (Mine.K1 w.params).In h₀) (T : Top Mine.q1 (looseW Mine.q1 lz) mean mg mb h₀) (XB : (Mine.K1 w.params).In base) (TB : Top Mine.q1 (looseW Mine.q1 lz) mean mg mb base) (KD : KtsDicts (outer.filterMap (·.frame)) h₀)
    (hd : dp + 80 < recursionLimit) (hu : un + 410 < cLine) (o1 : dx < x) (o2 : x < ds) (o3 : ds < sio) (o4 : sio < q1) (o5 : q1 < q2) (o6 : q2 < S) (hr1 : ∀ p ∈ r00, p.1 ≠ dx) (hr2 : ∀ p ∈ r00, p.1 ≠ ds) (hr3 : ∀ p ∈ r00, p.1 ≠ S)  :
    ∀ (n : Nat) (fin : Bool) (pre rest : List Nat) (p : Int) (tp ts tl tt : Tok) (ln : Int) (st : Value) (acc : List Value) (ws0 : List (List Nat)) (c : Nat) (hh : Heap) (tk : Nat), Fr h₀ L hh m →
    News h₀ L hh (rtL w tk_1 tk5 x dx sio ds q1 q2 Tx p tp st ln tl (mkS []) tt ((S, lsObj acc c) :: r00)) → st = (if fin then .none else .str (Str.ofString " ") ts) → Tx = mkS (pre ++ rest) → p = (pre.length : Int) → (fin = true → rest = []) → (∀ c ∈ rest, c ≠ 92) → pre.length + rest.length ≤ 1000 →
    TxtsAre acc ws0 → (fin = false → ws0.length + rest.length ≤ 1001) → (fin = true ∧ 1 ≤ n ∨ rest.length + 2 ≤ n) → 
    (∀ ws vs c g' h' tk', toksN n fin rest = some ws → TxtsAre vs (ws0 ++ ws) → KtsTurn (outer.filterMap (·.frame)) h₀ g' → Fr g' L h' m → News g' L h' ((S, lsObj vs c) :: r00) → Below A₀ base outer g' → R (.ok (.ret .none)) { s with heap := h', toks := tk' }) →
    (∀ e t vs g news' h' tk', toksN n fin rest = none → Fr h₀ L g m → RaisedS base g (envOf cn ⟨.function, ns, ig, ic, mo⟩ L a ccd :: outer) e (.type "ValueError") t vs news' h' → g.UpToSlots h' → (∀ p ∈ r00, p ∈ news') → R (.error (.ref e)) { s with heap := h', toks := tk' }) →
    codeAny (model PySem.Challenge.rw_op0238_01.row.prog w) (ktrTop dp un gd cn ⟨.function, ns, ig, ic, mo⟩ L a ccd [] outer) (.builtin "list.extend.loop" ⟨[.ref S, .ref x, .none], []⟩) R { s with heap := hh, toks := tk } := by
  intro n
  induction n with
  | zero => intro fin pre rest p tp ts tl tt ln st acc ws0 c hh tk F N hst hTx hp hfin hesc hlen hacc hwl hfuel; omega
  | succ n ih =>
    intro fin pre rest p tp ts tl tt ln st acc ws0 c hh tk F N hst hTx hp hfin hesc hlen hacc hwl hfuel hok herr
    have I : InstAt hh x (instObj 722 dx) 722 (some (lexD w tk_1 sio q1 q2 (Str.ofString "") true st ln tl (mkS []) tt)) := InstAt.of_news N (.tail _ (.tail _ (.head _))) (.tail _ (.head _))
    have hr1' : ∀ p ∈ (S, lsObj acc c) :: r00, p.1 ≠ dx := fun p hp => by
      rcases List.mem_cons.mp hp with rfl | hp
      · exact Nat.ne_of_gt (Nat.lt_trans (Nat.lt_trans (Nat.lt_trans (Nat.lt_trans (Nat.lt_trans o1 o2) o3) o4) o5) o6)
      · exact hr1 p hp
    have hr2' : ∀ p ∈ (S, lsObj acc c) :: r00, p.1 ≠ ds := fun p hp => by
      rcases List.mem_cons.mp hp with rfl | hp
      · exact Nat.ne_of_gt (Nat.lt_trans (Nat.lt_trans (Nat.lt_trans o3 o4) o5) o6)
      · exact hr2 p hp
    refine codeAny_builtin PySem.F.entry_extend_loop ?_
    rw [Around.under_plainId PySem.F.plain_extend_loop]
    show wpAny _ _ (pyNext (.ref x) >>= fun r => match r with
      | none => ret .none
      | some v => Builtin.List.listUpdate (.ref S) (·.push v) >>= fun _ => again (.builtin "list.extend.loop" ⟨[.ref S, .ref x, .none], []⟩)) _ _ _
    refine wpAny_bind (owit_next F X I (lex_next w) (lex_nextF w) ?_)
    have stop : ∀ e t vs g news' h' tk', toksN (n + 1) fin rest = some [] → Fr h₀ L g m → RaisedS base g (envOf cn ⟨.function, ns, ig, ic, mo⟩ L a ccd :: outer) e (.type "StopIteration") t vs news' h' → g.UpToSlots h' → (∀ p ∈ (S, lsObj acc c) :: r00, p ∈ news') →
        OwitStop (model PySem.Challenge.rw_op0238_01.row.prog w) (ktrTop dp un gd cn ⟨.function, ns, ig, ic, mo⟩ L a ccd [] outer).in1 (fun r s' => wpAny (model PySem.Challenge.rw_op0238_01.row.prog w) (ktrTop dp un gd cn ⟨.function, ns, ig, ic, mo⟩ L a ccd [] outer).in1 (match r with
      | none => ret .none
      | some v => Builtin.List.listUpdate (.ref S) (·.push v) >>= fun _ => again (.builtin "list.extend.loop" ⟨[.ref S, .ref x, .none], []⟩)) (fun fin s' => match fin with | .done f => R (.ok f) s' | .again c' => c'.quiet = true ∧ codeAny (model PySem.Challenge.rw_op0238_01.row.prog w) (ktrTop dp un gd cn ⟨.function, ns, ig, ic, mo⟩ L a ccd [] outer) c' R s') (fun e s' => R (.error e) s') s') (fun e s' => R (.error e) s') (.ref e) { s with heap := h', toks := tk' } := by
      intro e t vs g news' h' tk' hw FG S' U' hm
      obtain ⟨g', KT, F', B', N', o, ho, hoc⟩ := rebase B FG S' U'
      unfold OwitStop
      refine wpAny_isInstance (T := "StopIteration") ⟨o, ho, hoc⟩ stop_stop ?_
      rw [if_pos rfl]
      exact wpAny_pure (hok [] acc c g' h' tk' hw (by rw [List.append_nil]; exact hacc) KT F' (fun q hq => N' q (hm q hq)) B')
    cases fin with
    | true =>
      obtain rfl := hfin rfl
      subst hst
      refine next_dn w tk_1 tk5 x dx sio ds q1 q2 pre Tx p tp tl tt ln ((S, lsObj acc c) :: r00) hTx hp hlen o1 o2 o3 o4 o5 hr1' hr2' mean mg mb dp (un + 1) gd cn ns ig ic mo a ccd outer A₀ base h₀ L m _ { s with heap := hh, toks := tk } _ _ B F X N T XB TB KD rfl (by omega) (by omega) (fun r news' h' tk' _ _ hf => hf.elim) ?_
      rintro X e t vs g news' h' tk' FG S' U' ⟨hm, rfl⟩
      exact stop e t vs g news' h' tk' rfl FG S' U' hm
    | false =>
      subst hst
      refine next_sp w tk_1 tk5 x dx sio ds q1 q2 pre rest Tx p tp ts tl tt ln ((S, lsObj acc c) :: r00) hTx hp hesc hlen o1 o2 o3 o4 o5 hr1' hr2' mean mg mb dp (un + 1) gd cn ns ig ic mo a ccd outer A₀ base h₀ L m _ { s with heap := hh, toks := tk } _ _ B F X N T XB TB KD rfl (by omega) (by omega) ?_ ?_
      · rintro v news' h' tk' F' N' ⟨q, tok, fin', r, pre', p', tp', st', ts', ln', tl', tt', t, hrt, hne, rfl, rfl, hst', hT', hp', hr'⟩
        have hlr := rt_len rest .sp false [] hrt
        have htoks : toksN (n + 1) false rest = (toksN n fin' r).map (tok :: ·) := by
          rw [toksN, hrt]
          dsimp only
          rw [if_neg hne]
        have hwl' := hwl rfl
        have hal := hacc.len
        obtain ⟨U1, U2⟩ := news_upd (pre := [(ds, sioD w tk5 Tx p' tp'), (dx, lexD w tk_1 sio q1 q2 (Str.ofString "") true st' ln' tl' (mkS []) tt'), (x, instObj 722 dx), (sio, instObj 587 ds), (q1, dqObj), (q2, dqObj)]) (post := r00) (f := Obj.mapSeq (·.push (Value.str (mkS tok) t))) F' N'
          (fun q hq => by
            simp only [List.mem_cons, List.not_mem_nil, or_false] at hq
            rcases hq with rfl | rfl | rfl | rfl | rfl | rfl <;> dsimp only <;> refine neN ?_ <;> omega) hr3 (ls_push acc c _) rfl
        have hS := (N' (S, lsObj acc c) (.tail _ (.tail _ (.tail _ (.tail _ (.tail _ (.tail _ (.head _)))))))).1
        dsimp only
        refine wpAny_bind ?_
        show wpAny _ _ (updateSeq S _) _ _ _
        refine wpAny_updateSeq hS rfl ?_ (by rw [List.size_toArray, sizeLine_eq]; omega) (by rw [Array.size_push, List.size_toArray, sizeLine_eq]; omega)
        refine wpAny_pure ⟨plainId_quiet PySem.F.plain_extend_loop _, ?_⟩
        have hTl := congrArg (fun y : Str => y.cps.toList.length) (hTx.symm.trans hT')
        simp only [List.length_append] at hTl
        refine ih fin' pre' r p' tp' ts' tl' tt' ln' st' (acc ++ [Value.str (mkS tok) t]) (ws0 ++ [tok]) (c + 1) _ _ U1 U2 hst' hT' hp' hr' ?_ (by omega) (hacc.snoc tok t) (fun z => ?_) ?_ ?_ ?_
        · intro d hd'
          obtain ⟨pp, epp⟩ := rt_suffix rest _ _ _ hrt
          exact hesc d (epp ▸ List.mem_append_right _ hd')
        · have := hlr.2.1 z; simp only [List.length_append, List.length_cons, List.length_nil]; omega
        · cases fin' with
          | true => left; refine ⟨rfl, ?_⟩; rcases hfuel with ⟨h1, _⟩ | h1
                    · cases h1
                    · omega
          | false => right; have := hlr.2.1 rfl; rcases hfuel with ⟨h1, _⟩ | h1
                     · cases h1
                     · omega
        · intro ws vs c' g' h'' tk'' hw hv KT F'' N'' B''
          refine hok (tok :: ws) vs c' g' h'' tk'' (by rw [htoks, hw]; rfl) (by rw [List.append_assoc] at hv; exact hv) KT F'' N'' B''
        · intro e t' vs g news' h'' tk'' hw FG S' U' hm
          exact herr e t' vs g news' h'' tk'' (by rw [htoks, hw]; rfl) FG S' U' hm
      · rintro X e t vs g news' h' tk' FG S' U' ⟨hm, hx⟩
        rcases hx with ⟨rfl, hx⟩ | ⟨rfl, fin', r, hx⟩
        · obtain ⟨g', KT, F', B', N', o, ho, hoc⟩ := rebase B FG S' U'
          unfold OwitStop
          refine wpAny_isInstance (T := "ValueError") ⟨o, ho, hoc⟩ val_stop ?_
          rw [if_neg Bool.false_ne_true]
          exact herr e t vs g news' h' tk' (by rw [toksN, hx]) FG S' U' (fun q hq => hm q (.tail _ hq))
        · exact stop e t vs g news' h' tk' (by rw [toksN, hx]; rfl) FG S' U' hm
end
end LexLoop_
section Cmp_
set_option maxRecDepth 100000
set_option maxHeartbeats 4000000

/-- a namespace's object -/
noncomputable def NsIs (o : Obj) (m : Str → Option Value) : Prop := ∃ es ep, o.data = .dict es ep ∧ StrKeys es ∧ ∀ name, nsFind es name = m name
theorem NsIs.at {h : Heap} {a : Addr} {o : Obj} {m : Str → Option Value} (n : NsIs o m) (e : h.get? a = some o) : h.Ns a m :=
  let ⟨es, ep, a1, a2, a3⟩ := n; ⟨o, es, ep, e, a1, a2, a3⟩
theorem ns_is {h : Heap} {a : Addr} {m : Str → Option Value} (n : h.Ns a m) : ∃ o, h.get? a = some o ∧ NsIs o m :=
  let ⟨o, es, ep, e, a1, a2, a3⟩ := n; ⟨o, e, es, ep, a1, a2, a3⟩
theorem news_sub {h₀ h : Heap} {L : Addr} {l l' : List (Addr × Obj)} (N : News h₀ L h l) (hs : ∀ p ∈ l', p ∈ l) : News h₀ L h l' := fun p hp => N p (hs p hp)
/-- one object of the ledger turns -/
theorem led_turn {h₀ h h' : Heap} {L a : Addr} {o o' : Obj} {m : Str → Option Value} {rest : List (Addr × Obj)} (F : Fr h₀ L h m) (N : News h₀ L h ((a, o) :: rest)) (hne : ∀ p ∈ rest, p.1 ≠ a)
    (hs : ∀ b x, b ≠ a → h.get? b = some x → h'.get? b = some x) (ho : h'.get? a = some o') : Fr h₀ L h' m ∧ News h₀ L h' ((a, o') :: rest) := by
  have D := N (a, o) (.head _)
  obtain ⟨oL, es, ep, hL, r⟩ := F.ns
  refine ⟨⟨⟨oL, es, ep, hs _ _ (Ne.symm D.2.1) hL, r⟩, fun b x q => hs _ _ (fun z => ?_) (F.keep b x q), F.above⟩, fun p hp => ?_⟩
  · have := D.2.2; rw [← z, q] at this; cases this
  · rcases List.mem_cons.mp hp with rfl | hp
    · exact ⟨ho, D.2⟩
    · have P := N p (.tail _ hp); exact ⟨hs _ _ (hne p hp) P.1, P.2⟩
/-- one object of the ledger goes -/
theorem led_drop {h₀ h h' : Heap} {L a : Addr} {o : Obj} {m : Str → Option Value} {rest : List (Addr × Obj)} (F : Fr h₀ L h m) (N : News h₀ L h ((a, o) :: rest)) (hne : ∀ p ∈ rest, p.1 ≠ a)
    (hs : ∀ b x, b ≠ a → h.get? b = some x → h'.get? b = some x) : Fr h₀ L h' m ∧ News h₀ L h' rest := by
  have D := N (a, o) (.head _)
  obtain ⟨oL, es, ep, hL, r⟩ := F.ns
  refine ⟨⟨⟨oL, es, ep, hs _ _ (Ne.symm D.2.1) hL, r⟩, fun b x q => hs _ _ (fun z => ?_) (F.keep b x q), F.above⟩, fun p hp => ?_⟩
  · have := D.2.2; rw [← z, q] at this; cases this
  · have P := N p (.tail _ hp); exact ⟨hs _ _ (hne p hp) P.1, P.2⟩
/-- a comprehension's name: in its own frame, or in a cell -/
noncomputable def Tgt (cenv : Env) (x : Str) (tg : List (Addr × Obj)) (v : Option Value) : Prop :=
  (∃ oC m, cenv.kindOf x = some .local ∧ tg = [(cenv.locals, oC)] ∧ NsIs oC m ∧ ∀ u, v = some u → m x = some u) ∨
  (∃ oC m c oc v0, cenv.kindOf x = some .cell ∧ cenv.cells.lookup x = some c ∧ c ≠ cenv.locals ∧ tg = [(c, oc), (cenv.locals, oC)] ∧ NsIs oC m ∧ oc.data = .cell v0 ∧ ∀ u, v = some u → v0 = some u)
section
variable {M : Model} {prog : Program} {w : World} {A : Around} {s : Shared} {h₀ : Heap} {L : Addr} {m : Str → Option Value} {cenv : Env} {x : Str} {tg rest : List (Addr × Obj)} {v : Value} {v0 : Option Value} {E : Value → Shared → Prop}
theorem tgt_assign {px : Pos} {Q : Unit → Shared → Prop} (hk : cenv.scope.kind = .function) (F : Fr h₀ L s.heap m) (N : News h₀ L s.heap (tg ++ rest)) (hd : ∀ p ∈ rest, p.1 ∉ tg.map (·.1)) (ht : Tgt cenv x tg v0)
    (h : ∀ h' tk tg', Fr h₀ L h' m → News h₀ L h' (tg' ++ rest) → Tgt cenv x tg' (some v) → tg'.map (·.1) = tg.map (·.1) → Q () { s with heap := h', toks := tk }) : wpAny M A (assign (.Name x px) cenv v) Q E s := by
  have hp : (cenv.scope.kind == .class || (cenv.scope.kind == .module && cenv.locals != cenv.globals)) = false := by rw [hk]; rfl
  rcases ht with ⟨oC, mC, e1, rfl, n, _⟩ | ⟨oC, mC, c, oc, w0, e1, e2, e3, rfl, n, hc, _⟩
  · refine wpAny_assign_Name (wpAny_storeName_local e1 (n.at (N _ (.head _)).1) (fun h' hn hs => ?_) hp)
    obtain ⟨o', ho', n'⟩ := ns_is hn
    obtain ⟨F', N'⟩ := led_turn F N (fun p hp q => hd p hp (by simp [q])) (fun b x hb e => hs.extBut b x hb e) ho'
    exact h h' _ [(cenv.locals, o')] F' N' (.inl ⟨o', _, e1, rfl, n', fun u hu => by cases hu; simp⟩) rfl
  · refine wpAny_assign_Name (wpAny_storeName_cell hk e1 e2 ⟨oc, (N _ (.head _)).1, hc⟩ fun h' hv hs => ?_)
    obtain ⟨o', ho', hd'⟩ := hv
    obtain ⟨F', N'⟩ := led_turn F N (fun p hp q => by
      rcases List.mem_cons.mp hp with rfl | hp
      · exact e3 q.symm
      · exact hd p hp (by simp [q])) (fun b x hb e => hs.extBut b x hb e) ho'
    exact h h' _ [(c, o'), (cenv.locals, oC)] F' N' (.inr ⟨oC, mC, c, o', _, e1, e2, e3, rfl, n, hd', fun u hu => by cases hu; rfl⟩) rfl
theorem append_led {W : Addr} {vs : List Value} {c : Nat} {news : List (Addr × Obj)} {Q : Value → Shared → Prop} (F : Fr h₀ L s.heap m) (N : News h₀ L s.heap ((W, lsObj vs c) :: news)) (hne : ∀ p ∈ news, p.1 ≠ W) (hl : vs.length ≤ 100000)
    (h : ∀ h', Fr h₀ L h' m → News h₀ L h' ((W, lsObj (vs ++ [v]) (c + 1)) :: news) → Q .none { s with heap := h' }) : wpAny (model prog w) A (call (.builtin "list.append") [.ref W, v]) Q E s := by
  obtain ⟨U1, U2⟩ := news_upd (pre := []) (post := news) (f := Obj.mapSeq (·.push v)) F N (fun _ h => (nomatch h)) hne (ls_push vs c v) rfl
  have hg := (N _ (.head _)).1
  have hL : s.heap.IsList W vs.toArray := ⟨_, hg, rfl, c, rfl⟩
  refine wpAny_call_entry slot_list_append hL.typeIs entry_list_append ?_ (args_list_append _ _)
  show wpAny _ _ (updateSeq W (·.push v) >>= fun _ => ret .none) _ _ s
  refine wpAny_bind ?_
  exact wpAny_updateSeq hg rfl (wpAny_pure ⟨.none, rfl, h _ U1 U2⟩) (by rw [List.size_toArray, sizeLine_eq]; omega) (by rw [Array.size_push, List.size_toArray, sizeLine_eq]; omega)
/-- what a heap part stands upon is kept -/
theorem st_keep {P : Heap → Prop} {fp : List Addr} {h h' : Heap} {m' : Str → Option Value} {n1 n2 : List (Addr × Obj)} (F : Fr h₀ L h m) (F' : Fr h₀ L h' m') (N : News h₀ L h n1) (N' : News h₀ L h' n2)
    (hfp : ∀ b ∈ fp, (∃ o, (b, o) ∈ n1 ∧ (b, o) ∈ n2) ∨ ∃ o, h₀.get? b = some o) (hP : (∀ b ∈ fp, ∀ o, h.get? b = some o → h'.get? b = some o) → P h') : P h' := by
  refine hP fun b hb o e => ?_
  rcases hfp b hb with ⟨o1, i1, i2⟩ | ⟨o1, e1⟩
  · have := (N _ i1).1
    rw [e] at this
    cases this
    exact (N' _ i2).1
  · have := F.keep _ _ e1
    rw [e] at this
    cases this
    exact F'.keep _ _ e1
noncomputable abbrev tests (ifs : List Expr) (env : Env) : Sem Bool := forIn ifs true fun c r => if r = true then do let ok ← isTrue c env (eval c env); pure (ForInStep.yield ok) else pure (ForInStep.yield r)
/-- a turn's element: the ledger grows, the specials stand -/
noncomputable def EltR (h₀ : Heap) (L : Addr) (m : Str → Option Value) (sp nw : List (Addr × Obj)) (Rel : Value → List (Addr × Obj) → Prop) (s : Shared) (y : Value) (s' : Shared) : Prop :=
  ∃ nw' h' tk', s' = { s with heap := h', toks := tk' } ∧ Fr h₀ L h' m ∧ News h₀ L h' (sp ++ nw') ∧ (∀ p ∈ nw, p ∈ nw') ∧ (∀ p ∈ nw', p.1 ∉ sp.map (·.1)) ∧ Rel y nw'
theorem comp_loop {R : Result → Shared → Prop} {elt iter : Expr} {px : Pos} {ifs : List Expr} {scope : Scope} {pos : Pos} {I D : Addr} {fp : List Addr} {n : Nat} {P : Nat → Value → Prop} {St : Nat → Heap → Prop}
    (W : Walks prog w A I fp [I] n P St) (hI : ∀ i h, St i h → ∃ o, h.get? I = some o) (hn : n ≤ 1000) (hk : cenv.scope.kind = .function) (tg0 nw0 : List (Addr × Obj))
    (J : Nat → List Value → List (Addr × Obj) → Prop) (h0 : J 0 [] nw0) (oI : Obj)
    (F : Fr h₀ L s.heap m) (N : News h₀ L s.heap ((D, lsObj [] 0) :: (I, oI) :: (tg0 ++ nw0))) (hst : St 0 s.heap) (ht : Tgt cenv x tg0 v0)
    (hDI : D ≠ I) (hDt : D ∉ tg0.map (·.1)) (hIt : I ∉ tg0.map (·.1)) (hdn : ∀ p ∈ nw0, p.1 ∉ D :: I :: tg0.map (·.1)) (hfp : ∀ b ∈ fp, b = I ∨ (∃ o, (b, o) ∈ nw0) ∨ ∃ o, h₀.get? b = some o)
    (turn : ∀ i ys nw tg oD oI v (s₃ : Shared) E', i < n → P i v → J i ys nw → Tgt cenv x tg (some v) → (∀ p ∈ nw0, p ∈ nw) → Fr h₀ L s₃.heap m → News h₀ L s₃.heap (((D, oD) :: (I, oI) :: tg) ++ nw) → (∀ p ∈ nw, p.1 ∉ ((D, oD) :: (I, oI) :: tg).map (·.1)) →
      wpAny (model prog w) A (tests ifs cenv) (fun ok s₄ => if ok = true then
        wpAny (model prog w) A (eval elt cenv) (fun y s₅ => EltR h₀ L m ((D, oD) :: (I, oI) :: tg) nw (fun y nw' => J (i + 1) (ys ++ [y]) nw') s₃ y s₅) E' s₄
        else EltR h₀ L m ((D, oD) :: (I, oI) :: tg) nw (fun _ nw' => J (i + 1) ys nw') s₃ .none s₄) E' s₃)
    (hR : ∀ ys c h' tk' nw tg, ys.length ≤ n → J n ys nw → Fr h₀ L h' m → News h₀ L h' ((D, lsObj ys c) :: (tg ++ nw)) → Tgt cenv x tg none → tg.map (·.1) = tg0.map (·.1) → (∀ p ∈ nw, p.1 ∉ D :: I :: tg0.map (·.1)) → (∀ p ∈ nw0, p ∈ nw) → R (.ok .next) { s with heap := h', toks := tk' }) :
    codeAny (model prog w) A (.compLoop (.ListComp elt [⟨.Name x px, iter, ifs, 0⟩] scope pos) 0 (.ref I) (.ref D) cenv) R s := by
  have tnone : ∀ {tg u}, Tgt cenv x tg u → Tgt cenv x tg none := fun h => by
    rcases h with ⟨oC, mC, e1, e2, e3, _⟩ | ⟨oC, mC, c, oc, w0, e1, e2, e3, e4, e5, e6, _⟩
    · exact .inl ⟨oC, mC, e1, e2, e3, fun u hu => by cases hu⟩
    · exact .inr ⟨oC, mC, c, oc, w0, e1, e2, e3, e4, e5, e6, fun u hu => by cases hu⟩
  refine codeAny_compLoop_tests
    (fun k s' => ∃ h' tk i ys c nw tg oI, s' = { s with heap := h', toks := tk } ∧ St i h' ∧ J i ys nw ∧ ys.length ≤ i ∧ i ≤ n ∧ k = n + 1 - i ∧ Fr h₀ L h' m ∧ News h₀ L h' ((D, lsObj ys c) :: (I, oI) :: (tg ++ nw)) ∧ Tgt cenv x tg none ∧
      tg.map (·.1) = tg0.map (·.1) ∧ (∀ p ∈ nw, p.1 ∉ D :: I :: tg0.map (·.1)) ∧ (∀ p ∈ nw0, p ∈ nw)) ?_ (n + 1)
    ⟨s.heap, s.toks, 0, [], 0, nw0, tg0, oI, rfl, hst, h0, Nat.le_refl _, Nat.zero_le _, rfl, F, N, tnone ht, rfl, hdn, fun _ h => h⟩
  rintro k s' ⟨h1, tk1, i, ys, c, nw, tg, oI1, rfl, hst1, hJ, hyl, hin, rfl, F1, N1, ht1, hta, hdn1, hsub⟩
  have hkeep : ∀ {h' : Heap} {tg' nw' : List (Addr × Obj)} {oD' oD'' oI' : Obj} {h'' : Heap} {tg'' nw'' : List (Addr × Obj)} {j : Nat}, Fr h₀ L h' m → News h₀ L h' ((D, oD') :: (I, oI') :: (tg' ++ nw')) → Fr h₀ L h'' m → News h₀ L h'' ((D, oD'') :: (I, oI') :: (tg'' ++ nw'')) → (∀ p ∈ nw0, p ∈ nw') → (∀ p ∈ nw0, p ∈ nw'') → St j h' → St j h'' := by
    intro h' tg' nw' oD' oD'' oI' h'' tg'' nw'' j Fa Na Fb Nb sa sb hs
    refine st_keep (P := St j) (fp := fp) Fa Fb Na Nb (fun b hb => ?_) (W.frame _ _ _ hs)
    rcases hfp b hb with rfl | ⟨o, ho⟩ | h
    · exact .inl ⟨oI', by simp, by simp⟩
    · exact .inl ⟨o, by simp [sa _ ho], by simp [sb _ ho]⟩
    · exact .inr h
  have hDtg : D ∉ tg.map (·.1) := hta ▸ hDt
  have hItg : I ∉ tg.map (·.1) := hta ▸ hIt
  by_cases hlt : i < n
  · refine W.item i _ _ _ hlt hst1 fun v h2 tk2 hP hst2 hk2 => ?_
    obtain ⟨oI2, hoI2⟩ := hI _ _ hst2
    have hI1 : ∀ p ∈ (D, lsObj ys c) :: (tg ++ nw), p.1 ≠ I := by
      intro p hp
      rcases List.mem_cons.mp hp with rfl | hp
      · exact hDI
      · rcases List.mem_append.mp hp with hp | hp
        · exact fun z => hItg (z ▸ List.mem_map_of_mem hp)
        · exact fun z => hdn1 p hp (by simp [z])
    have N1' : News h₀ L h1 ((I, oI1) :: (D, lsObj ys c) :: (tg ++ nw)) := news_sub N1 (by simp only [List.mem_cons]; rintro p (h | h | h) <;> simp [h])
    obtain ⟨F2, N2⟩ := led_turn F1 N1' hI1 (fun b x hb e => hk2 b x (by simp [hb]) e) hoI2
    have N2' : News h₀ L h2 (tg ++ ((D, lsObj ys c) :: (I, oI2) :: nw)) := news_sub N2 (by intro p hp; simp only [List.mem_append, List.mem_cons] at hp ⊢; rcases hp with h | h | h | h <;> simp [h])
    refine tgt_assign hk F2 N2' (fun p hp => ?_) ht1 fun h3 tk3 tg3 F3 N3 ht3 hta3 => ?_
    · rcases List.mem_cons.mp hp with rfl | hp
      · exact hDtg
      · rcases List.mem_cons.mp hp with rfl | hp
        · exact hItg
        · exact fun z => hdn1 p hp (by rw [← hta]; simp [z])
    have N3' : News h₀ L h3 (((D, lsObj ys c) :: (I, oI2) :: tg3) ++ nw) := news_sub N3 (by intro p hp; simp only [List.cons_append, List.mem_append, List.mem_cons] at hp ⊢; rcases hp with h | h | h | h <;> simp [h])
    have N2'' : News h₀ L h2 ((D, lsObj ys c) :: (I, oI2) :: (tg ++ nw)) := news_sub N2' (by intro p hp; simp only [List.mem_append, List.mem_cons] at hp ⊢; rcases hp with h | h | h | h <;> simp [h])
    have hst3 : St (i + 1) h3 := hkeep F2 N2'' F3 N3' hsub hsub hst2
    have hmap : ((D, lsObj ys c) :: (I, oI2) :: tg3).map (·.1) = D :: I :: tg0.map (·.1) := by simp [hta3, hta]
    refine wpAny_mono (turn i ys nw tg3 (lsObj ys c) oI2 v _ _ hlt hP hJ ht3 hsub F3 N3' (fun p hp => hmap ▸ hdn1 p hp)) (fun ok s4 h4 => ?_) fun _ _ e => e
    cases ok with
    | false =>
      simp only [Bool.false_eq_true, if_false] at h4 ⊢
      obtain ⟨nw4, h4', tk4, rfl, F4, N4, hs4, hd4, hJ4⟩ := h4
      exact ⟨n + 1 - (i + 1), by omega, h4', tk4, i + 1, ys, c, nw4, tg3, oI2, rfl, hkeep F3 N3' F4 N4 hsub (fun p hp => hs4 p (hsub p hp)) hst3, hJ4, by omega, hlt, rfl, F4, N4, tnone ht3, hta3.trans hta, fun p hp => hmap ▸ hd4 p hp, fun p hp => hs4 p (hsub p hp)⟩
    | true =>
      simp only [if_true] at h4 ⊢
      refine wpAny_mono h4 (fun y s5 h5 => ?_) fun _ _ e => e
      obtain ⟨nw5, h5', tk5, rfl, F5, N5, hs5, hd5, hJ5⟩ := h5
      have hD5 : ∀ p ∈ (I, oI2) :: (tg3 ++ nw5), p.1 ≠ D := by
        intro p hp
        rcases List.mem_cons.mp hp with rfl | hp
        · exact Ne.symm hDI
        · rcases List.mem_append.mp hp with hp | hp
          · exact fun z => hDt (by rw [← hta, ← hta3, ← z]; exact List.mem_map_of_mem hp)
          · exact fun z => hd5 p hp (by simp [z])
      refine append_led F5 N5 hD5 (by omega) fun h6 F6 N6 => ?_
      exact ⟨n + 1 - (i + 1), by omega, h6, tk5, i + 1, ys ++ [y], c + 1, nw5, tg3, oI2, rfl, hkeep F3 N3' F6 N6 hsub (fun p hp => hs5 p (hsub p hp)) hst3, hJ5, by simp; omega, hlt, rfl, F6, N6, tnone ht3, hta3.trans hta, fun p hp => hmap ▸ hd5 p hp, fun p hp => hs5 p (hsub p hp)⟩
  · obtain rfl : i = n := by omega
    refine W.done _ _ _ hst1 fun h2 tk2 hk2 => ?_
    have hI1 : ∀ p ∈ (D, lsObj ys c) :: (tg ++ nw), p.1 ≠ I := by
      intro p hp
      rcases List.mem_cons.mp hp with rfl | hp
      · exact hDI
      · rcases List.mem_append.mp hp with hp | hp
        · exact fun z => hItg (z ▸ List.mem_map_of_mem hp)
        · exact fun z => hdn1 p hp (by simp [z])
    have N1' : News h₀ L h1 ((I, oI1) :: (D, lsObj ys c) :: (tg ++ nw)) := news_sub N1 (by simp only [List.mem_cons]; rintro p (h | h | h) <;> simp [h])
    obtain ⟨F2, N2⟩ := led_drop F1 N1' hI1 (fun b x hb e => hk2 b x (by simp [hb]) e)
    exact hR ys c h2 tk2 nw tg hyl hJ F2 N2 ht1 hta hdn1 hsub
theorem compEnv_cells {env : Env} {scope : Scope} {g : Addr} {cl : List (Str × Addr)} {q : Str} {Q : Env → Shared → Prop}
    (hQ : Q { scope := scope, locals := s.heap.objs.size, globals := g, cells := cellsFrom (s.heap.objs.size + 1) scope.names cl, qual := q, func := none, code := env.code, frame := env.frame, builtins := env.builtins }
      { s with heap := pushCells (s.heap.push { cls := .type "dict", data := .dict #[] }) scope.names }) :
    wpAny M A (newFunctionEnv scope g cl [] q none .none (some env)) Q E s := by
  simp only [newFunctionEnv, Option.isSome_some, if_true]
  refine wpAny_bind (wpAny_alloc ?_)
  refine wpAny_bind (wpAny_layCells _ (fun name kind cells => by cases hkc : kind == NameKind.cell <;> simp) _ _ _ _ ?_)
  rw [show ({ s with heap := s.heap.push { cls := .type "dict", data := .dict #[] } } : Shared).heap.objs.size = s.heap.objs.size + 1 from Heap.size_push ..]
  exact wpAny_bind (wpAny_pure (wpAny_pure hQ))
/-- the scope's one own name, in the frame or in a cell -/
noncomputable def OneName (scope : Scope) (x : Str) : Prop :=
  (scope.names.lookup x = some .local ∧ (∀ n acc, cellsFrom n scope.names acc = acc) ∧ ∀ h, pushCells h scope.names = h) ∨
  (scope.names.lookup x = some .cell ∧ (∀ n acc, cellsFrom n scope.names acc = (x, n) :: acc) ∧ ∀ h, pushCells h scope.names = h.push { cls := .type "cell", data := .cell none })
noncomputable abbrev cenvOf (scope : Scope) (env : Env) (C : Addr) (cl : List (Str × Addr)) : Env :=
  { scope := relabel scope env, locals := C, globals := env.globals, cells := cl, qual := env.qual, func := none, code := env.code, frame := env.frame, builtins := env.builtins }
end
section
variable {prog : Program} {w : World} {A : Around} {s : Shared} {h₀ : Heap} {L : Addr} {m : Str → Option Value} {env : Env} {x : Str} {E : Value → Shared → Prop}
theorem relabel_cell {env : Env} : ∀ {names : List (Str × NameKind)} {x : Str}, names.lookup x = some .cell →
    (names.map fun (n, k) => if (k == NameKind.free && env.scope.kind == .function && env.kindOf n == some .cell) then (n, NameKind.cell) else (n, k)).lookup x = some .cell
  | [], _, h => by simp at h
  | (n, k) :: r, x, h => by
    have ih := @relabel_cell env r x
    show List.lookup x ((if (k == NameKind.free && env.scope.kind == .function && env.kindOf n == some .cell) = true then (n, NameKind.cell) else (n, k)) :: _) = _
    cases hx : x == n with
    | true =>
      simp only [List.lookup_cons, hx] at h
      cases h
      simp [List.lookup_cons, hx]
    | false =>
      simp only [List.lookup_cons, hx] at h
      by_cases hc : (k == NameKind.free && env.scope.kind == .function && env.kindOf n == some .cell) = true
      · rw [if_pos hc]; simp only [List.lookup_cons, hx]; exact ih h
      · rw [if_neg hc]; simp only [List.lookup_cons, hx]; exact ih h
theorem nsIs_new : NsIs ({ cls := .type "dict", data := .dict #[] } : Obj) (fun _ => none) := by
  obtain ⟨o, e, n⟩ := ns_is (Heap.Ns.new ({ objs := #[] } : Heap) (.type "dict"))
  have h2 : (({ objs := #[] } : Heap).push ({ cls := .type "dict", data := .dict #[] } : Obj)).get? ({ objs := #[] } : Heap).objs.size = some ({ cls := .type "dict", data := .dict #[] } : Obj) := Heap.get?_push_size _ rfl
  have : o = ({ cls := .type "dict", data := .dict #[] } : Obj) := Option.some.inj (e.symm.trans h2)
  exact this ▸ n
section
variable (prog : Program) (w : World) (A : Around) (h₀ : Heap) (L : Addr) (m : Str → Option Value) (env : Env) (scope : Scope) (cl : List (Str × Addr)) (x : Str) (elt : Expr) (ifs : List Expr)
/-- a comprehension's turns, over an invariant -/
noncomputable def CmpTurn (n : Nat) (P : Nat → Value → Prop) (nw0 : List (Addr × Obj)) (J : Nat → List Value → List (Addr × Obj) → Prop) : Prop :=
  ∀ C cl' i ys nw sp tg v (s₃ : Shared) E', (cl' = cl ∨ ∃ c, cl' = (x, c) :: cl) → i < n → P i v → J i ys nw → Tgt (cenvOf scope env C cl') x tg (some v) → (∀ p ∈ tg, p ∈ sp) → (∀ p ∈ nw0, p ∈ nw) → Fr h₀ L s₃.heap m → News h₀ L s₃.heap (sp ++ nw) → (∀ p ∈ nw, p.1 ∉ sp.map (·.1)) →
    wpAny (model prog w) A (tests ifs (cenvOf scope env C cl')) (fun ok s₄ => if ok = true then
      wpAny (model prog w) A (eval elt (cenvOf scope env C cl')) (fun y s₅ => EltR h₀ L m sp nw (fun y nw' => J (i + 1) (ys ++ [y]) nw') s₃ y s₅) E' s₄
      else EltR h₀ L m sp nw (fun _ nw' => J (i + 1) ys nw') s₃ .none s₄) E' s₃
/-- behind the turns; the block's own frame C still stands -/
noncomputable def CmpFin (n : Nat) (nw0 : List (Addr × Obj)) (J : Nat → List Value → List (Addr × Obj) → Prop) (FIN : Addr → Addr → Shared → Prop) (s : Shared) : Prop :=
  ∀ D C oC mC ys c h' tk' nw, NsIs oC mC → ys.length ≤ n → J n ys nw → Fr h₀ L h' m → News h₀ L h' ((C, oC) :: (D, lsObj ys c) :: nw) → (∀ p ∈ nw, p.1 ≠ D ∧ p.1 ≠ C) → D ≠ C → (∀ p ∈ nw0, p ∈ nw) → (∀ p ∈ nw0, p.1 < D) → FIN D C { s with heap := h', toks := tk' }
noncomputable def CmpGo (FIN : Addr → Addr → Shared → Prop) (it : Value) (s₂ : Shared) : Prop :=
  ∃ I oI nw0 fp n P St, ∃ J : Nat → List Value → List (Addr × Obj) → Prop, it = .ref I ∧ Walks prog w A I fp [I] n P St ∧ (∀ i h, St i h → ∃ o, h.get? I = some o) ∧ n ≤ 1000 ∧ St 0 s₂.heap ∧
      Fr h₀ L s₂.heap m ∧ News h₀ L s₂.heap ((I, oI) :: nw0) ∧ (∀ p ∈ nw0, p.1 ≠ I) ∧ (∀ b ∈ fp, b = I ∨ (∃ o, (b, o) ∈ nw0) ∨ ∃ o, h₀.get? b = some o) ∧ J 0 [] nw0 ∧
      CmpTurn prog w A h₀ L m env scope cl x elt ifs n P nw0 J ∧ CmpFin h₀ L m n nw0 J FIN s₂
end
/-- a comprehension whose element may call: the ledger grows -/
theorem comp_core {elt iter : Expr} {px : Pos} {ifs : List Expr} {scope : Scope} {pos ps : Pos} {cl : List (Str × Addr)} {use : Option (Value → Sem Unit)} {Q : Value → Shared → Prop}
    (hclos : closureFor scope env = pure cl) (hkind : scope.kind = .function) (hnames : ∀ y ∈ scope.names, y.2 = .local → scope.names.lookup y.1 = some .local) (hx : OneName scope x)
    (hs : ∀ x, foldedSetIterable iter env x = pure x)
    (h : wpAny (model prog w) A (eval iter env) (fun xv s₁ => wpAny (model prog w) A (pyIter xv) (CmpGo prog w A h₀ L m env scope cl x elt ifs (fun D C s => compPost (model prog w) A E use Q (.ref D) C (.ok .next) s)) E s₁) E s) :
    wpAny (model prog w) A (comprehension (.ListComp elt [⟨.Name x px, iter, ifs, 0⟩] scope pos) scope env ps (newList []) false (eval iter env) use) Q E s := by
  refine wpAny_comprehension_free (use := use) rfl hs hclos hkind hnames (wpAny_mono h (fun xv s₁ h₁ => wpAny_mono h₁ (fun it s₂ h₂ => ?_) fun _ _ e => e) fun _ _ e => e)
  obtain ⟨I, oI, nw0, fp, n, P, St, J, rfl, W, hI, hn, hst, F, N, hdI, hfp, hJ0, turn, hret⟩ := h₂
  refine wpAny_newObj_type (compEnv_cells ?_)
  dsimp only
  have hlt : ∀ p ∈ (I, oI) :: nw0, p.1 < s₂.heap.objs.size := fun p hp => Heap.lt_size (N p hp).1
  have F1 := F.push (lsObj [] 0)
  have N1 := N.push F (lsObj [] 0)
  have F2 := F1.push ({ cls := .type "dict", data := .dict #[] } : Obj)
  have N2 := N1.push F1 ({ cls := .type "dict", data := .dict #[] } : Obj)
  generalize hD : s₂.heap.objs.size = D at *
  rw [Heap.size_push, hD] at N2
  have hCsz : (s₂.heap.push (lsObj [] 0)).objs.size = D + 1 := by rw [Heap.size_push, hD]
  have key : ∀ (cl' : List (Str × Addr)) (H : Heap) (tg0 : List (Addr × Obj)), (cl' = cl ∨ ∃ c, cl' = (x, c) :: cl) → Fr h₀ L H m → News h₀ L H ((D, lsObj [] 0) :: (I, oI) :: (tg0 ++ nw0)) → (∀ b o, s₂.heap.get? b = some o → H.get? b = some o) →
      Tgt (cenvOf scope env (D + 1) cl') x tg0 none → (∀ a ∈ tg0.map (·.1), D < a) → (D + 1) ∈ tg0.map (·.1) →
      codeAny (model prog w) A (.compStart (.ListComp elt [⟨.Name x px, iter, ifs, 0⟩] scope pos) 0 (.ref I) (.ref D) (cenvOf scope env (D + 1) cl')) (compPost (model prog w) A E use Q (.ref D) (D + 1)) { s₂ with heap := H } := by
    intro cl' H tg0 hcl FH NH hk htg hta hCm
    have hDI : D ≠ I := Nat.ne_of_gt (hlt (I, oI) (.head _))
    have hnwlt : ∀ p ∈ nw0, p.1 < D := fun p hp => hlt p (.tail _ hp)
    have hstH : St 0 H := W.frame _ _ _ hst fun b hb o e => hk b o e
    have loop : codeAny (model prog w) A (.compLoop (.ListComp elt [⟨.Name x px, iter, ifs, 0⟩] scope pos) 0 (.ref I) (.ref D) (cenvOf scope env (D + 1) cl')) (compPost (model prog w) A E use Q (.ref D) (D + 1)) { s₂ with heap := H } := by
      refine comp_loop (s := { s₂ with heap := H }) W hI hn (show (relabel scope env).kind = .function from hkind) tg0 nw0 J hJ0 oI FH NH hstH htg hDI (fun z => Nat.lt_irrefl _ (hta _ z)) (fun z => Nat.lt_irrefl _ (Nat.lt_trans (hta _ z) (hlt (I, oI) (.head _)))) (fun p hp z => ?_) hfp ?_ ?_
      · rcases List.mem_cons.mp z with z | z
        · exact Nat.lt_irrefl _ (z ▸ hnwlt p hp)
        · rcases List.mem_cons.mp z with z | z
          · exact hdI p hp z
          · exact Nat.lt_irrefl _ (Nat.lt_trans (hta _ z) (hnwlt p hp))
      · intro i ys nw tg oD oI' v s₃ E' hi hP hJ ht hsub F3 N3 hd3
        exact turn (D + 1) cl' i ys nw _ tg v s₃ E' hcl hi hP hJ ht (fun p hp => List.mem_cons_of_mem _ (List.mem_cons_of_mem _ hp)) hsub F3 N3 hd3
      · intro ys c h' tk' nw tg hyl hJ F' N' ht' hta' hd' hsub
        obtain ⟨oC, mC, hoC, hnC⟩ : ∃ oC mC, (D + 1, oC) ∈ tg ∧ NsIs oC mC := by
          rcases ht' with ⟨oC, mC, _, rfl, nC, _⟩ | ⟨oC, mC, c, oc, w0, _, _, _, rfl, nC, _⟩
          · exact ⟨oC, mC, .head _, nC⟩
          · exact ⟨oC, mC, .tail _ (.head _), nC⟩
        refine hret D (D + 1) oC mC ys c h' tk' nw hnC hyl hJ F' (news_sub N' fun p hp => ?_) (fun p hp => ⟨fun z => hd' p hp (z ▸ .head _), fun z => hd' p hp (by rw [z]; exact .tail _ (.tail _ hCm))⟩) (Nat.ne_of_lt (Nat.lt_succ_self _)) hsub hnwlt
        rcases List.mem_cons.mp hp with rfl | hp
        · exact .tail _ (List.mem_append_left _ hoC)
        · rcases List.mem_cons.mp hp with rfl | hp
          · exact .head _
          · exact .tail _ (List.mem_append_right _ hp)
    exact codeAny_compStart_list loop (W.self 0 _ _ _ hstH loop)
  rcases hx with ⟨hl, hcf, hpc⟩ | ⟨hl, hcf, hpc⟩
  · rw [hcf, hpc, hCsz]
    refine key cl _ [(D + 1, { cls := .type "dict", data := .dict #[] })] (.inl rfl) F2 (news_sub N2 fun p hp => ?_) (fun b o e => Heap.get?_push_of_some _ (Heap.get?_push_of_some _ e)) (.inl ⟨_, _, lookup_relabel_local hl, rfl, nsIs_new, fun u hu => by cases hu⟩) (fun a ha => by rw [List.mem_singleton.mp ha]; exact Nat.lt_succ_self _) (.head _)
    rcases List.mem_cons.mp hp with rfl | hp
    · exact .tail _ (.head _)
    · rcases List.mem_cons.mp hp with rfl | hp
      · exact .tail _ (.tail _ (.head _))
      · rcases List.mem_append.mp hp with hp | hp
        · rw [List.mem_singleton.mp hp]; exact .head _
        · exact .tail _ (.tail _ (.tail _ hp))
  · have F3 := F2.push ({ cls := .type "cell", data := .cell none } : Obj)
    have N3 := N2.push F2 ({ cls := .type "cell", data := .cell none } : Obj)
    have hcsz : ((s₂.heap.push (lsObj [] 0)).push ({ cls := .type "dict", data := .dict #[] } : Obj)).objs.size = D + 2 := by rw [Heap.size_push, hCsz]
    rw [hcsz] at N3
    rw [hcf, hpc, hCsz]
    refine key ((x, D + 2) :: cl) _ [(D + 2, { cls := .type "cell", data := .cell none }), (D + 1, { cls := .type "dict", data := .dict #[] })] (.inr ⟨_, rfl⟩) F3 (news_sub N3 fun p hp => ?_) (fun b o e => Heap.get?_push_of_some _ (Heap.get?_push_of_some _ (Heap.get?_push_of_some _ e)))
      (.inr ⟨_, _, D + 2, _, _, relabel_cell hl, List.lookup_cons_self, Nat.succ_ne_self _, rfl, nsIs_new, rfl, fun u hu => by cases hu⟩) (fun a ha => ?_) (.tail _ (.head _))
    · rcases List.mem_cons.mp hp with rfl | hp
      · exact .tail _ (.tail _ (.head _))
      · rcases List.mem_cons.mp hp with rfl | hp
        · exact .tail _ (.tail _ (.tail _ (.head _)))
        · rcases List.mem_append.mp hp with hp | hp
          · rcases List.mem_cons.mp hp with rfl | hp
            · exact .head _
            · rw [List.mem_singleton.mp hp]; exact .tail _ (.head _)
          · exact .tail _ (.tail _ (.tail _ (.tail _ hp)))
    · rcases List.mem_cons.mp ha with rfl | ha
      · exact Nat.lt_succ_of_lt (Nat.lt_succ_self _)
      · rw [List.mem_singleton.mp ha]; exact Nat.lt_succ_self _
end
end Cmp_
section BaD_
open PySem PySem.W PyProof.Rows PySem.Calls PySem.Spec Builtin Builtin.ObjectAttr Builtin.Getset_descriptor Builtin.Bytes

set_option maxRecDepth 100000
set_option maxHeartbeats 4000000

section
variable {prog : Program} {w : World} {A : Around} {s : Shared} {R : Result → Shared → Prop} {E : Value → Shared → Prop} {h₀ : Heap} {L : Addr} {m : Str → Option Value} {news : List (Addr × Obj)}
theorem wpCl_callSpecial {self : Value} {T : String} {name : Str} {id : String} {args : List Value} {Q : Option Value → Shared → Prop} (hT : s.TypeIs self T) (h : Slot T name id)
    (hc : wpCl (model prog w) A (call (.builtin id) (self :: args) []) (fun v => Q (some v)) E s) : wpCl (model prog w) A (callSpecial? self name args []) Q E s := by
  simp only [callSpecial?]
  refine wpCl_bind (wpCl_any (wpAny_specialOf hT h.lookup ?_))
  simp only [h.bind]
  refine wpCl_holding (wpCl_bind (wpCl_any (wpAny_pure ?_)))
  exact wpCl_bind (wpCl_mono hc (fun v s' h' => wpCl_any (wpAny_pure h')) fun _ _ h' => h')
theorem ba_make {k : Int} {t : Tok} {Q : Value → Shared → Prop} (F : Fr h₀ L s.heap m) (N : News h₀ L s.heap news) (h0 : 0 ≤ k) (hn : k ≤ 1000)
    (h : ∀ a h', Fr h₀ L h' m → News h₀ L h' ((a, baObj (Array.replicate k.toNat 0)) :: news) → (∀ p ∈ news, p.1 < a) → Q (.ref a) { s with heap := h' }) :
    wpCl (model prog w) A (call (.type "bytearray") [.int k t] []) Q E s := by
  obtain ⟨hh, g, d, tk, os⟩ := s
  have N' := N.push F (baObj #[])
  have F' := F.push (baObj #[])
  have hget : (hh.push (baObj #[])).get? hh.objs.size = some (baObj #[]) := Heap.get?_push_size _ rfl
  have hlt : ∀ p ∈ news, p.1 < hh.objs.size := fun p hp => Heap.lt_size (N p hp).1
  refine wpCl_call (codeCl_of_tree ?_)
  show wpCl _ _ (again (.builtin "type.__call__" ⟨[.type "bytearray", .int k t], []⟩)) _ _ _
  refine wpCl_any (wpAny_pure ⟨Code.quiet_builtin _ (by decide +kernel), rfl, codeCl_builtin entry_typeCall ?_⟩)
  rw [ba_tc]
  refine wpCl_bind (wpCl_any (wpAny_call (code_ba_new _ ?_)))
  have hT : ∀ (h1 : Heap), h1.get? hh.objs.size = some (baObj #[]) → ∀ g d tk os, Shared.TypeIs ⟨h1, g, d, tk, os⟩ (.ref hh.objs.size) "bytearray" := fun h1 e _ _ _ _ => ⟨_, e, rfl⟩
  dsimp only
  unfold baRest
  refine wpCl_bind (wpCl_any (wpAny_isInstance (hT _ hget _ _ _ _) ba_sub ?_))
  rw [if_neg (show ¬ ((!true) = true) from Bool.false_ne_true)]
  refine wpCl_bind (wpCl_holding (wpCl_callSpecial (hT _ hget _ _ _ _) ba_init (wpCl_call (codeCl_call_builtin (Code.quiet_builtin _ (by decide +kernel)) rfl ba_initE (@check_slot (model prog w) _ _ _ "bytearray.__init__" "bytearray" "__init__" (.ref hh.objs.size) [.int k t] [] _ ba_initKind ba_initSplit ?_ (ba_initArgs _ _) ?_)))))
  · exact ((Looks.ld hget).andThen .now).andThen (Looks.of_pure ba_sub)
  · refine ba_initCl hget h0 hn fun h2 hs2 hg2 => ?_
    obtain ⟨F2, N2⟩ := led_turn F' N' (fun p hp => Nat.ne_of_lt (hlt p hp)) hs2 hg2
    dsimp only
    rw [if_neg (show ¬ ((Value.none != Value.none) = true) by decide)]
    exact wpCl_any (wpAny_pure (h _ _ F2 N2 hlt))
end
end BaD_
section BaI_
open PySem PySem.W PyProof.Rows PySem.Calls PySem.Spec

set_option maxRecDepth 100000
set_option maxHeartbeats 4000000

theorem ba_setSlot : Slot "bytearray" "__setitem__" "bytearray.__setitem__" :=
  .of (owner := "bytearray") (n := "__setitem__") (by rw [typeLookup_type, builtinLookup_eq_fast]; kernel_rfl) (by decide +kernel) (by decide +kernel) (by decide +kernel)
    (by first | exact .inl (by decide +kernel) | exact .inr (by decide +kernel)) (by rw [isSubtype_type]; kernel_rfl)
theorem ba_setE : entryFor table "bytearray.__setitem__" = some Builtin.«bytearray.__setitem__» := by first | exact entryFor_of_fast (by kernel_rfl) | exact entryFor_of_tree (by kernel_rfl)
theorem ba_setArgs (a b c : Value) : argsOk "bytearray.__setitem__" ⟨[a, b, c], []⟩ := by unfold argsOk; kernel_rfl
theorem ba_noBytes : typeLookup (.type "bytearray") "__bytes__" = pure none := by rw [typeLookup_type, builtinLookup_eq_fast]; kernel_rfl
theorem ba_noIndex : typeLookup (.type "bytearray") "__index__" = pure none := by rw [typeLookup_type, builtinLookup_eq_fast]; kernel_rfl
theorem ba_buffer : typeLookup (.type "bytearray") "__buffer__" = pure (some (.builtin "bytearray.__buffer__")) := by rw [typeLookup_type, builtinLookup_eq_fast]; kernel_rfl
theorem ba_buf1 : ("bytearray.__buffer__".endsWith ("." ++ "__buffer__")) = true := by decide +kernel
theorem ba_buf2 : ("bytearray.__buffer__".dropRight ("__buffer__".length + 1)) = "bytearray" := by decide +kernel
theorem int_asIndex' (n : Int) (t : Tok) : asIndex (.int n t) = pure n := by kernel_rfl
section
variable {prog : Program} {w : World} {A : Around} {s : Shared} {E : Value → Shared → Prop} {h₀ : Heap} {L a : Addr} {m : Str → Option Value} {news : List (Addr × Obj)} {b : Array UInt8}
theorem ba_subscript {k : Int} {t : Tok} {Q : Option Int → Shared → Prop} (h0 : 0 ≤ k) (hn : k ≤ 1000) (h : Q (some k) s) : wpAny (model prog w) A (Builtin.Bytes.subscript? (.int k t)) Q E s := by
  unfold Builtin.Bytes.subscript?
  refine wpAny_bind ?_
  refine wpAny_specialOf (typeIs_int _ _ _) int_index ?_
  rw [if_neg (show ¬ ((some (Value.builtin "int.__index__")).isNone = true) from Bool.false_ne_true)]
  refine wpAny_bind ?_
  rw [int_asIndex']
  refine wpAny_pure ?_
  have f1 : Builtin.Bytes.fitsIndex k = true := by
    unfold Builtin.Bytes.fitsIndex
    rw [Bool.and_eq_true]
    exact ⟨decide_eq_true (by omega), decide_eq_true (by omega)⟩
  rw [f1, if_neg (show ¬ ((!true) = true) from Bool.false_ne_true)]
  exact wpAny_pure h
theorem ba_setItem {k v : Int} {t u : Tok} {Q : Unit → Shared → Prop} (F : Fr h₀ L s.heap m) (N : News h₀ L s.heap ((a, baObj b) :: news)) (hne : ∀ p ∈ news, p.1 ≠ a) (h0 : 0 ≤ k) (hk : k < b.size) (hb : b.size ≤ 1000) (hv0 : 0 ≤ v) (hv : v < 256)
    (h : ∀ h', Fr h₀ L h' m → News h₀ L h' ((a, baObj (b.setIfInBounds k.toNat v.toNat.toUInt8)) :: news) → Q () { s with heap := h' }) :
    wpAny (model prog w) A (setItem (.ref a) (.int k t) (.int v u)) Q E s := by
  have hg := (N _ (.head _)).1
  have hT : s.TypeIs (.ref a) "bytearray" := ⟨_, hg, rfl⟩
  unfold setItem
  refine wpAny_holding ?_
  refine wpAny_bind (wpAny_sequenceKey hT (by decide) ?_)
  refine wpAny_bind (wpAny_callSpecial?_slot (name := Str.ofString "__setitem__") hT ba_setSlot (wpAny_call_entry ba_setSlot hT ba_setE ?_ (ba_setArgs _ _ _)))
  unfold Builtin.«bytearray.__setitem__»
  dsimp only
  rw [if_neg (by decide)]
  refine wpAny_bind ?_
  refine ba_subscript h0 (by omega) ?_
  dsimp only
  refine wpAny_bind ?_
  unfold Builtin.Bytes.byteValue
  refine wpAny_bind ?_
  rw [int_asIndex']
  refine wpAny_pure ?_
  have fv : (decide (v < 0) || decide (v ≥ 256)) = false := by rw [decide_eq_false (by omega), decide_eq_false (by omega)]; rfl
  rw [fv, if_neg Bool.false_ne_true]
  refine wpAny_pure ?_
  refine wpAny_bind ?_
  unfold Builtin.Bytes.payload Builtin.Bytes.payload?
  refine wpAny_bind (wpAny_bind (wpAny_load hg (wpAny_pure ?_)))
  refine wpAny_pure ?_
  have hs : seqIndex? k b.size = some k.toNat := by
    unfold seqIndex?
    rw [if_neg (show ¬ k < 0 by omega)]
    rw [if_pos (by rw [Bool.and_eq_true]; exact ⟨decide_eq_true h0, decide_eq_true hk⟩)]
  dsimp only
  rw [hs]
  dsimp only
  refine wpAny_bind ?_
  show wpAny _ _ (updateBytearray a fun x => x.setIfInBounds k.toNat v.toNat.toUInt8) _ _ _
  refine upd_bytes hg (by rw [Array.size_setIfInBounds]; exact hb) fun h2 => ?_
  obtain ⟨F2, N2⟩ := led_turn F N hne (fun b o hb e => (Heap.get?_update_ne _ _ _ _ hb).trans e) h2
  exact wpAny_pure ⟨.none, rfl, wpAny_pure (h _ F2 N2)⟩
theorem ba_new_bytes {Q : Value → Shared → Prop} (hg : s.heap.get? a = some (baObj b)) (hb : b.size ≤ 1000)
    (h : ∀ t k, Q (.bytes b t) { s with toks := k }) : codeAny (model prog w) A (.call (.builtin "bytes.__new__") ⟨[.type "bytes", .ref a], []⟩) (wants Q E) s := by
  have hT : s.TypeIs (.ref a) "bytearray" := ⟨_, hg, rfl⟩
  refine codeAny_of_tree ?_
  show wpAny _ A.in1 (do checkBuiltinCall "bytes.__new__" ⟨[.type "bytes", .ref a], []⟩; again (.builtin "bytes.__new__" ⟨[.type "bytes", .ref a], []⟩)) _ _ s
  refine wpAny_bind (wpAny_of_eq (PySem.F.bm_newCall _) (wpAny_pure ⟨plainId_quiet PySem.F.bm_plain _, codeAny_builtin PySem.F.bm_entry ?_⟩))
  rw [Around.under_plainId PySem.F.bm_plain _]
  unfold Builtin.«bytes.__new__»
  refine wpAny_bind (wpAny_of_eq (a := true) rfl ?_)
  refine bm_if_false rfl ?_
  refine wpAny_bind (wpAny_of_eq PySem.F.bm_sub ?_)
  refine bm_if_false rfl ?_
  refine wpAny_bind (wpAny_of_eq (PySem.F.bm_bind _) ?_)
  refine wpAny_bind (wpAny_of_eq (a := ()) rfl ?_)
  refine wpAny_bind (wpAny_of_eq (a := ()) rfl ?_)
  refine bm_if_false rfl ?_
  refine wpAny_bind (wpAny_specialOf hT ba_noBytes ?_)
  refine wpAny_bind (wpAny_bind ?_)
  show wpAny _ _ (load a >>= _) _ _ _
  refine wpAny_bind (wpAny_load hg ?_)
  refine wpAny_pure (wpAny_pure ?_)
  refine bm_if_false rfl ?_
  refine wpAny_bind (wpAny_specialOf hT ba_noIndex ?_)
  refine bm_if_true rfl ?_
  first
    | show wpAny _ _ (Builtin.Bytes.buffer? "bytes.__new__" (.ref a) true >>= _) _ _ _
    | (refine wpAny_bind ?_; show wpAny _ _ (Builtin.Bytes.buffer? "bytes.__new__" (.ref a) true >>= _) _ _ _)
  refine wpAny_bind ?_
  unfold Builtin.Bytes.buffer?
  refine wpAny_bind (wpAny_specialOf hT ba_buffer ?_)
  dsimp only
  refine wpAny_bind ?_
  unfold Builtin.Bytes.slotIsOwn
  refine wpAny_bind (wpAny_specialOf hT ba_buffer ?_)
  dsimp only
  rw [ba_buf1, ba_buf2, if_neg (by decide)]
  refine wpAny_isInstance hT ba_sub ?_
  rw [if_neg (by decide)]
  refine wpAny_bind (wpAny_specialOf hT ba_buffer ?_)
  refine wpAny_bind ?_
  unfold Builtin.Bytes.ownRelease Builtin.Bytes.slotIsOwn
  refine wpAny_bind (wpAny_bind (wpAny_specialOf hT ba_release ?_))
  dsimp only
  rw [ba_rel1, ba_rel2, if_neg (by decide)]
  refine wpAny_isInstance hT ba_sub (wpAny_pure ?_)
  rw [if_neg (by decide)]
  refine wpAny_bind ?_
  unfold Builtin.Bytes.payload Builtin.Bytes.payload?
  refine wpAny_bind (wpAny_bind (wpAny_load hg (wpAny_pure (wpAny_pure (wpAny_pure ?_)))))
  refine wpAny_bind ?_
  refine wpAny_rule ?_
  refine wpAny_bind ?_
  refine wpAny_mkBytes ?_ (by rw [sizeLine_eq]; omega)
  exact wpAny_of_eq (a := .done (.ret (.bytes b s.toks))) rfl (h _ _)
/-- bytes(a bytearray) -/
theorem ba_bytes {Q : Value → Shared → Prop} (hg : s.heap.get? a = some (baObj b)) (hb : b.size ≤ 1000) (h : ∀ t k, Q (.bytes b t) { s with toks := k }) :
    wpAny (model prog w) A (call (.type "bytes") [.ref a]) Q E s := by
  refine callType_codes (Q₁ := fun obj s₁ => s₁.TypeIs obj "bytes" ∧ Q obj s₁) PySem.F.bm_called (PySem.F.bm_typeCall _) PySem.F.entry_object_init
    (ba_new_bytes hg hb fun t k => ⟨PySem.W.typeIs_bytes _ _ _, h t k⟩) fun obj s₁ h₁ => ?_
  exact ⟨h₁.1, PySem.F.args_object_init_2 obj _, object_init_meets PySem.F.bm_called.init.lookup PySem.F.bm_called.made (by decide) prog w A.in1 _ s₁ ⟨h₁.1, rfl, h₁.2⟩⟩
end
end BaI_
section Cmp2_
set_option maxRecDepth 100000
set_option maxHeartbeats 4000000

section
variable {prog : Program} {w : World} {A : Around} {s : Shared} {h₀ : Heap} {L : Addr} {m : Str → Option Value} {env : Env} {x : Str} {E : Value → Shared → Prop} {scope : Scope} {cl : List (Str × Addr)} {elt : Expr} {ifs : List Expr} {Q : Value → Shared → Prop} {FIN : Addr → Addr → Shared → Prop}
variable {nw : List (Addr × Obj)} {J : Nat → List Value → List (Addr × Obj) → Prop} {n : Nat}
noncomputable def CmpRet (h₀ : Heap) (L : Addr) (m : Str → Option Value) (n : Nat) (nw0 : List (Addr × Obj)) (J : Nat → List Value → List (Addr × Obj) → Prop) (Q : Value → Shared → Prop) (s : Shared) : Prop :=
  ∀ D ys c h' tk' nw, ys.length ≤ n → J n ys nw → Fr h₀ L h' m → News h₀ L h' ((D, lsObj ys c) :: nw) → (∀ p ∈ nw, p.1 ≠ D) → (∀ p ∈ nw0, p ∈ nw) → (∀ p ∈ nw0, p.1 < D) → Q (.ref D) { s with heap := h', toks := tk' }
/-- the block's own frame goes -/
theorem fin_ret (h : CmpRet h₀ L m n nw J Q s) : CmpFin h₀ L m n nw J (fun D C s' => compPost (model prog w) A E none Q (.ref D) C (.ok .next) s') s := by
  intro D C oC mC ys c h' tk' nw' hnC hyl hJ F' N' hd hDC hsub hlt
  refine ⟨mC, hnC.at (N' _ (.head _)).1, fun h'' hs'' => ?_⟩
  obtain ⟨Fz, Nz⟩ := led_drop F' N' (fun p hp => by
    rcases List.mem_cons.mp hp with rfl | hp
    · exact hDC
    · exact (hd p hp).2) (fun b x hb e => hs''.extBut b x hb e)
  exact h D ys c h'' tk' nw' hyl hJ Fz Nz (fun p hp => (hd p hp).1) hsub hlt
theorem comp_go {iter : Expr} {px : Pos} {pos : Pos}
    (hclos : closureFor scope env = pure cl) (hkind : scope.kind = .function) (hnames : ∀ y ∈ scope.names, y.2 = .local → scope.names.lookup y.1 = some .local) (hx : OneName scope x)
    (hs : ∀ x, foldedSetIterable iter env x = pure x)
    (h : wpAny (model prog w) A (eval iter env) (fun xv s₁ => wpAny (model prog w) A (pyIter xv) (CmpGo prog w A h₀ L m env scope cl x elt ifs (fun D C s => compPost (model prog w) A E none Q (.ref D) C (.ok .next) s)) E s₁) E s) :
    wpAny (model prog w) A (eval (.ListComp elt [⟨.Name x px, iter, ifs, 0⟩] scope pos) env) Q E s := by
  rw [eval_ListComp]
  exact comp_core hclos hkind hnames hx hs h
/-- stored in a cell before the block's own frame goes -/
theorem fin_cell {Q : Flow → Shared → Prop} {y : Str} {py : Pos} {cy : Addr} {oy : Obj} {v0 : Option Value} (hk : env.scope.kind = .function) (hy : env.kindOf y = some .cell) (hc : env.cells.lookup y = some cy) (hm : (cy, oy) ∈ nw) (ho : oy.data = .cell v0)
    (h : ∀ D ys c h' tk' nw' oy', ys.length ≤ n → J n ys nw' → Fr h₀ L h' m → oy'.data = .cell (some (.ref D)) → News h₀ L h' ((cy, oy') :: (D, lsObj ys c) :: nw'.filter (fun p => decide (p.1 ≠ cy))) → (∀ p ∈ nw, p ∈ nw') → (∀ p ∈ nw, p.1 < D) → Q .next { s with heap := h', toks := tk' }) :
    CmpFin h₀ L m n nw J (fun D C s' => compPost (model prog w) A E (some (assign (.Name y py) env)) (fun _ s'' => Q .next s'') (.ref D) C (.ok .next) s') s := by
  intro D C oC mC ys c h' tk' nw' hnC hyl hJ F' N' hd hDC hsub hlt
  have hcyD : cy ≠ D := Nat.ne_of_lt (hlt _ hm)
  have hcyC : cy ≠ C := (hd _ (hsub _ hm)).2
  have N1 : News h₀ L h' ((cy, oy) :: (C, oC) :: (D, lsObj ys c) :: nw'.filter (fun p => decide (p.1 ≠ cy))) := news_sub N' fun p hp => by
    rcases List.mem_cons.mp hp with rfl | hp
    · exact .tail _ (.tail _ (hsub _ hm))
    · rcases List.mem_cons.mp hp with rfl | hp
      · exact .head _
      · rcases List.mem_cons.mp hp with rfl | hp
        · exact .tail _ (.head _)
        · exact .tail _ (.tail _ (List.mem_filter.mp hp).1)
  show wpAny _ A (assign (.Name y py) env (.ref D)) _ _ _
  refine wpAny_assign_Name (wpAny_storeName_cell hk hy hc ⟨oy, (N1 _ (.head _)).1, ho⟩ fun h2 hv hs2 => ?_)
  obtain ⟨oy', ho', hd'⟩ := hv
  obtain ⟨F2, N2⟩ := led_turn F' N1 (fun p hp => by
    rcases List.mem_cons.mp hp with rfl | hp
    · exact Ne.symm hcyC
    · rcases List.mem_cons.mp hp with rfl | hp
      · exact Ne.symm hcyD
      · exact of_decide_eq_true (List.mem_filter.mp hp).2) (fun b x hb e => hs2.extBut b x hb e) ho'
  refine ⟨mC, hnC.at (N2 _ (.tail _ (.head _))).1, fun h3 hs3 => ?_⟩
  have N2' : News h₀ L h2 ((C, oC) :: (cy, oy') :: (D, lsObj ys c) :: nw'.filter (fun p => decide (p.1 ≠ cy))) := news_sub N2 fun p hp => by
    rcases List.mem_cons.mp hp with rfl | hp
    · exact .tail _ (.head _)
    · rcases List.mem_cons.mp hp with rfl | hp
      · exact .head _
      · exact .tail _ (.tail _ hp)
  obtain ⟨F3, N3⟩ := led_drop F2 N2' (fun p hp => by
    rcases List.mem_cons.mp hp with rfl | hp
    · exact hcyC
    · rcases List.mem_cons.mp hp with rfl | hp
      · exact hDC
      · exact (hd p (List.mem_filter.mp hp).1).2) (fun b x hb e => hs3.extBut b x hb e)
  exact h D ys c h3 tk' nw' oy' hyl hJ F3 hd' N3 hsub hlt
/-- stored in the frame before the block's own frame goes -/
theorem fin_local {Q : Flow → Shared → Prop} {y : Str} {py : Pos} (hL : env.locals = L) (hk : env.scope.kind = .function) (hy : env.kindOf y = some .local)
    (h : ∀ D ys c h' tk' nw', ys.length ≤ n → J n ys nw' → Fr h₀ L h' (fun z => if z = y then some (.ref D) else m z) → News h₀ L h' ((D, lsObj ys c) :: nw') → (∀ p ∈ nw, p ∈ nw') → (∀ p ∈ nw, p.1 < D) → Q .next { s with heap := h', toks := tk' }) :
    CmpFin h₀ L m n nw J (fun D C s' => compPost (model prog w) A E (some (assign (.Name y py) env)) (fun _ s'' => Q .next s'') (.ref D) C (.ok .next) s') s := by
  intro D C oC mC ys c h' tk' nw' hnC hyl hJ F' N' hd hDC hsub hlt
  subst hL
  show wpAny _ A (assign (.Name y py) env (.ref D)) _ _ _
  refine wpAny_assign_Name (wpAny_storeName_local hy F'.ns (fun h2 hn2 hs2 => ?_) (by rw [hk]; rfl))
  have F2 := F'.set hn2 hs2
  have N2 := N'.set hs2
  refine ⟨mC, hnC.at (N2 _ (.head _)).1, fun h3 hs3 => ?_⟩
  obtain ⟨F3, N3⟩ := led_drop F2 N2 (fun p hp => by
    rcases List.mem_cons.mp hp with rfl | hp
    · exact hDC
    · exact (hd p hp).2) (fun b x hb e => hs3.extBut b x hb e)
  exact h D ys c h3 _ nw' hyl hJ F3 N3 hsub hlt
/-- a name's assignment of a comprehension -/
theorem assign_comp {iter : Expr} {y : Str} {px py : Pos} {pos spos : Pos} {Q : Flow → Shared → Prop}
    (hsw : swapsWith (.ListComp elt [⟨.Name x px, iter, ifs, 0⟩] scope pos) (some (.Name y py)) spos.line env = pure true)
    (hclos : closureFor scope env = pure cl) (hkind : scope.kind = .function) (hnames : ∀ y ∈ scope.names, y.2 = .local → scope.names.lookup y.1 = some .local) (hx : OneName scope x)
    (hs : ∀ x, foldedSetIterable iter env x = pure x)
    (h : wpAny (model prog w) A (eval iter env) (fun xv s₁ => wpAny (model prog w) A (pyIter xv) (CmpGo prog w A h₀ L m env scope cl x elt ifs (fun D C s => compPost (model prog w) A E (some (assign (.Name y py) env)) (fun _ s'' => Q .next s'') (.ref D) C (.ok .next) s)) E s₁) E s) :
    wpAny (model prog w) A (exec (.Assign [.Name y py] (.ListComp elt [⟨.Name x px, iter, ifs, 0⟩] scope pos) spos) env) Q E s := by
  rw [exec_Assign_Name_used _ _ _ _ hsw]
  refine wpAny_bind (wpAny_standAt (wpAny_bind ?_))
  show wpAny _ A (do let _ ← comprehension (.ListComp elt [⟨.Name x px, iter, ifs, 0⟩] scope pos) scope env _ (newList []) false (eval iter env) (some (assign (.Name y py) env))) _ _ s
  exact wpAny_bind (wpAny_mono (comp_core (Q := fun _ s' => Q .next s') hclos hkind hnames hx hs h) (fun _ s' hq => wpAny_pure (wpAny_pure hq)) fun _ _ e => e)
/-- an iterator newly laid -/
theorem go_new {oI : Obj} {fp : List Addr} {n : Nat} {P : Nat → Value → Prop} {St : Nat → Heap → Prop} (F : Fr h₀ L s.heap m) (N : News h₀ L s.heap nw) (W : Walks prog w A s.heap.objs.size fp [s.heap.objs.size] n P St) (hI : ∀ i h, St i h → ∃ o, h.get? s.heap.objs.size = some o)
    (hn : n ≤ 1000) (hst : St 0 (s.heap.push oI)) (hfp : ∀ b ∈ fp, b = s.heap.objs.size ∨ (∃ o, (b, o) ∈ nw) ∨ ∃ o, h₀.get? b = some o) (h0 : J 0 [] nw) (ht : CmpTurn prog w A h₀ L m env scope cl x elt ifs n P nw J) (hr : CmpFin h₀ L m n nw J FIN s) (hf : oI.isFreed = false := by rfl) :
    CmpGo prog w A h₀ L m env scope cl x elt ifs FIN (.ref s.heap.objs.size) { s with heap := s.heap.push oI } :=
  ⟨_, oI, nw, fp, n, P, St, J, rfl, W, hI, hn, hst, F.push oI, N.push F oI hf, fun p hp => Nat.ne_of_lt (Heap.lt_size (N p hp).1), hfp, h0, ht, hr⟩
theorem go_list {ax : Addr} {items : Array Value} (hh : A.handled = none) (F : Fr h₀ L s.heap m) (N : News h₀ L s.heap nw) (hl : s.heap.IsList ax items) (ha : (∃ o, (ax, o) ∈ nw) ∨ ∃ o, h₀.get? ax = some o) (hn : items.size ≤ 1000) (h0 : J 0 [] nw)
    (ht : CmpTurn prog w A h₀ L m env scope cl x elt ifs items.size (fun i v => items[i]? = some v) nw J) (hr : CmpFin h₀ L m items.size nw J FIN s) :
    wpAny (model prog w) A (pyIter (.ref ax)) (CmpGo prog w A h₀ L m env scope cl x elt ifs FIN) E s := by
  refine wpAny_pyIter_list hl ?_
  obtain ⟨o, e, c, k, d⟩ := hl
  have hlt := Heap.lt_size e
  refine go_new F N (Walks.list hh _ ax (Nat.ne_of_lt hlt) items) (fun i h st => ⟨_, st.1.choose_spec.1⟩) hn ⟨⟨_, Heap.get?_push_size _ rfl, rfl, rfl⟩, ⟨o, Heap.get?_push_of_some _ e, c, k, d⟩⟩ (fun b hb => ?_) h0 ht hr
  simp only [List.mem_cons, List.not_mem_nil, or_false] at hb
  rcases hb with rfl | rfl
  · exact .inl rfl
  · exact .inr ha
theorem go_tuple {ax : Addr} {items : Array Value} (hh : A.handled = none) (F : Fr h₀ L s.heap m) (N : News h₀ L s.heap nw) (hl : s.heap.IsTuple ax items) (ha : (∃ o, (ax, o) ∈ nw) ∨ ∃ o, h₀.get? ax = some o) (hn : items.size ≤ 1000) (h0 : J 0 [] nw)
    (ht : CmpTurn prog w A h₀ L m env scope cl x elt ifs items.size (fun i v => items[i]? = some v) nw J) (hr : CmpFin h₀ L m items.size nw J FIN s) :
    wpAny (model prog w) A (pyIter (.ref ax)) (CmpGo prog w A h₀ L m env scope cl x elt ifs FIN) E s := by
  refine wpAny_pyIter_tuple hl ?_
  obtain ⟨o, e, c, k, d⟩ := hl
  have hlt := Heap.lt_size e
  refine go_new F N (Walks.tuple hh _ ax (Nat.ne_of_lt hlt) items) (fun i h st => ⟨_, st.1.choose_spec.1⟩) hn ⟨⟨_, Heap.get?_push_size _ rfl, rfl, rfl⟩, ⟨o, Heap.get?_push_of_some _ e, c, k, d⟩⟩ (fun b hb => ?_) h0 ht hr
  simp only [List.mem_cons, List.not_mem_nil, or_false] at hb
  rcases hb with rfl | rfl
  · exact .inl rfl
  · exact .inr ha
theorem go_str {y : Str} {t : Tok} (hh : A.handled = none) (F : Fr h₀ L s.heap m) (N : News h₀ L s.heap nw) (hn : y.cps.size ≤ 1000) (h0 : J 0 [] nw)
    (ht : CmpTurn prog w A h₀ L m env scope cl x elt ifs y.cps.size (SignAt y) nw J) (hr : CmpFin h₀ L m y.cps.size nw J FIN s) :
    wpAny (model prog w) A (pyIter (.str y t)) (CmpGo prog w A h₀ L m env scope cl x elt ifs FIN) E s := by
  cases ha : y.cps.all (· < 128)
  · exact wpAny_pyIter_wide ha (go_new F N (Walks.strWide hh _ y t) (fun i h st => ⟨_, st.choose_spec.1⟩) hn ⟨_, Heap.get?_push_size _ rfl, rfl, rfl⟩ (fun b hb => by simp at hb; exact .inl hb) h0 ht hr)
  · exact wpAny_pyIter_ascii ha (go_new F N (Walks.strAscii hh _ y t) (fun i h st => ⟨_, st.choose_spec.1⟩) hn ⟨_, Heap.get?_push_size _ rfl, rfl, rfl⟩ (fun b hb => by simp at hb; exact .inl hb) h0 ht hr)
theorem go_bytes {y : Array UInt8} {t : Tok} (hh : A.handled = none) (F : Fr h₀ L s.heap m) (N : News h₀ L s.heap nw) (hn : y.size ≤ 1000) (h0 : J 0 [] nw)
    (ht : CmpTurn prog w A h₀ L m env scope cl x elt ifs y.size (fun i v => ∃ c u, y[i]? = some c ∧ v = .int (c.toNat : Int) u) nw J) (hr : CmpFin h₀ L m y.size nw J FIN s) :
    wpAny (model prog w) A (pyIter (.bytes y t)) (CmpGo prog w A h₀ L m env scope cl x elt ifs FIN) E s :=
  KBw.pyIter_bytes (go_new F N (KBw.walks hh _ y t) (fun i h st => ⟨_, st.choose_spec.1⟩) hn ⟨_, Heap.get?_push_size _ rfl, rfl, rfl⟩ (fun b hb => by simp at hb; exact .inl hb) h0 ht hr)
theorem go_range {r : Addr} {a b c : Int} {t u v : Tok} {n : Nat} (hh : A.handled = none) (F : Fr h₀ L s.heap m) (N : News h₀ L s.heap nw) (hr' : IsRange s.heap r a b c t u v) (hsmall : Builtin.Range.small a b c = true) (hsz : Builtin.Range.rangeSize a b c = (n : Int)) (hn : n ≤ 1000) (h0 : J 0 [] nw)
    (ht : CmpTurn prog w A h₀ L m env scope cl x elt ifs n (fun i v => ∃ t, v = .int (a + i * c) t) nw J) (hr : CmpFin h₀ L m n nw J FIN s) :
    wpAny (model prog w) A (pyIter (.ref r)) (CmpGo prog w A h₀ L m env scope cl x elt ifs FIN) E s := by
  refine wpAny_pyIter_range hr' hsmall ?_
  rw [hsz]
  refine go_new F N (Walks.range hh _ a c n) (fun i h st => ⟨_, st⟩) hn ?_ (fun b hb => by simp at hb; exact .inl hb) h0 ht hr
  show IsRangeIter _ _ _ _ _
  have : a + ((0 : Nat) : Int) * c = a := by simp
  rw [this]
  have : (n : Int) - ((0 : Nat) : Int) = n := by simp
  rw [this]
  exact Heap.get?_push_size _ rfl
/-- without tests -/
theorem tests_nil {Q : Bool → Shared → Prop} (h : Q true s) : wpAny (model prog w) A (tests [] env) Q E s := by
  show wpAny _ _ (forIn ([] : List Expr) true _) _ _ _
  rw [List.forIn_nil]
  exact wpAny_pure h
end
end Cmp2_
section ForL_
set_option maxRecDepth 100000
set_option maxHeartbeats 4000000

section
variable (prog : Program) (w : World) (A : Around) (h₀ : Heap) (env : Env) (x : Str) (body : List Stmt)
/-- a loop's turns over an invariant of the frame and the ledger -/
noncomputable def ForTurn (n : Nat) (P : Nat → Value → Prop) (J : Nat → (Str → Option Value) → List (Addr × Obj) → Prop) : Prop :=
  ∀ i v m₁ nw I oI (s₁ : Shared) E', i < n → P i v → J i m₁ nw → Fr h₀ env.locals s₁.heap (fun y => if y = x then some v else m₁ y) → News h₀ env.locals s₁.heap ((I, oI) :: nw) → (∀ p ∈ nw, p.1 ≠ I) →
    wpAny (model prog w) A (execs body env) (fun f s₃ => f = .next ∧ ∃ m₂ nw₂ h' tk', s₃ = { s₁ with heap := h', toks := tk' } ∧ Fr h₀ env.locals h' m₂ ∧ News h₀ env.locals h' ((I, oI) :: nw₂) ∧ (∀ p ∈ nw₂, p.1 ≠ I) ∧ J (i + 1) m₂ nw₂) E' s₁
noncomputable def ForGo (Q : Flow → Shared → Prop) (it : Value) (s₂ : Shared) : Prop :=
  ∃ I oI m nw fp n P St, ∃ J : Nat → (Str → Option Value) → List (Addr × Obj) → Prop, it = .ref I ∧ Walks prog w A I fp [I] n P St ∧ (∀ i h, St i h → ∃ o, h.get? I = some o) ∧ St 0 s₂.heap ∧ Fr h₀ env.locals s₂.heap m ∧ News h₀ env.locals s₂.heap ((I, oI) :: nw) ∧ (∀ p ∈ nw, p.1 ≠ I) ∧
    (∀ b ∈ fp, b = I ∨ (∃ o, ∀ i m nw, J i m nw → (b, o) ∈ nw) ∨ ∃ o, h₀.get? b = some o) ∧ J 0 m nw ∧ ForTurn prog w A h₀ env x body n P J ∧
    ∀ m' nw' h' tk', J n m' nw' → Fr h₀ env.locals h' m' → News h₀ env.locals h' nw' → Q .next { s₂ with heap := h', toks := tk' }
end
section
variable {prog : Program} {w : World} {A : Around} {s : Shared} {h₀ : Heap} {env : Env} {x : Str} {E : Value → Shared → Prop} {body : List Stmt} {Q : Flow → Shared → Prop}
theorem for_go {iter : Expr} {px pos : Pos} (hk : env.scope.kind = .function) (hx : env.kindOf x = some .local) (hs : ∀ x, foldedSetIterable iter env x = pure x)
    (h : wpAny (model prog w) A (eval iter env) (fun xv s₁ => wpAny (model prog w) A (pyIter xv) (ForGo prog w A h₀ env x body Q) E s₁) E s) :
    wpAny (model prog w) A (exec (.For (.Name x px) iter body [] pos) env) Q E s := by
  refine wpAny_For (wpAny_mono h (fun xv s₁ h₁ => wpAny_mono h₁ (fun it s₂ h₂ => ?_) fun _ _ e => e) fun _ _ e => e) hs
  obtain ⟨I, oI, m, nw, fp, n, P, St, J, rfl, W, hI, hst, F, N, hnI, hfp, h0, turn, hR⟩ := h₂
  refine codeAny_forLoop_any (fun k s' => ∃ h' tk i m' nw' oI', s' = { s₂ with heap := h', toks := tk } ∧ St i h' ∧ Fr h₀ env.locals h' m' ∧ News h₀ env.locals h' ((I, oI') :: nw') ∧ (∀ p ∈ nw', p.1 ≠ I) ∧ J i m' nw' ∧ i ≤ n ∧ k = n + 1 - i) ?_ (n + 1)
    ⟨s₂.heap, s₂.toks, 0, m, nw, oI, rfl, hst, F, N, hnI, h0, Nat.zero_le _, rfl⟩
  rintro k s' ⟨h1, tk1, i, m1, nw1, oI1, rfl, hst1, F1, N1, hn1, hJ, hin, rfl⟩
  by_cases hlt : i < n
  · refine W.item i _ _ _ hlt hst1 fun v h2 tk2 hP hst2 hk2 => ?_
    obtain ⟨oI2, hoI2⟩ := hI _ _ hst2
    obtain ⟨F2, N2⟩ := led_turn F1 N1 hn1 (fun b x hb e => hk2 b x (by simp [hb]) e) hoI2
    refine wpAny_of_eq (a := ()) rfl ?_
    refine wpAny_assign_Name (wpAny_storeName_local hx F2.ns (fun h3 hn3 hs3 => ?_) (by rw [hk]; rfl))
    have F3 := F2.set hn3 hs3
    have N3 := N2.set hs3
    refine wpAny_mono (turn i v m1 nw1 I oI2 _ _ hlt hP hJ F3 N3 hn1) (fun f s4 h4 => ?_) fun _ _ e => e
    obtain ⟨rfl, m4, nw4, h4', tk4, rfl, F4, N4, hn4, hJ4⟩ := h4
    have keep : ∀ {ha hb : Heap} {ma mb : Str → Option Value} {na nb : List (Addr × Obj)} {ja jb : Nat} {mja mjb : Str → Option Value} {j : Nat}, Fr h₀ env.locals ha ma → Fr h₀ env.locals hb mb → News h₀ env.locals ha ((I, oI2) :: na) → News h₀ env.locals hb ((I, oI2) :: nb) → J ja mja na → J jb mjb nb → St j ha → St j hb := by
      intro ha hb ma mb na nb ja jb mja mjb j Fa Fb Na Nb Ja Jb hs
      refine st_keep (P := St j) (fp := fp) Fa Fb Na Nb (fun b hb => ?_) (W.frame _ _ _ hs)
      rcases hfp b hb with rfl | ⟨o, ho⟩ | h
      · exact .inl ⟨oI2, .head _, .head _⟩
      · exact .inl ⟨o, .tail _ (ho _ _ _ Ja), .tail _ (ho _ _ _ Jb)⟩
      · exact .inr h
    exact ⟨n + 1 - (i + 1), by omega, h4', tk4, i + 1, m4, nw4, oI2, rfl, keep F2 F4 N2 N4 hJ hJ4 hst2, F4, N4, hn4, hJ4, hlt, rfl⟩
  · obtain rfl : i = n := by omega
    refine W.done _ _ _ hst1 fun h2 tk2 hk2 => wpAny_execs_nil ?_
    obtain ⟨F2, N2⟩ := led_drop F1 N1 hn1 (fun b x hb e => hk2 b x (by simp [hb]) e)
    exact hR m1 nw1 h2 tk2 hJ F2 N2
variable {nw : List (Addr × Obj)} {J : Nat → (Str → Option Value) → List (Addr × Obj) → Prop} {m : Str → Option Value}
theorem for_range {r : Addr} {a b c : Int} {t u v : Tok} {n : Nat} (hh : A.handled = none) (F : Fr h₀ env.locals s.heap m) (N : News h₀ env.locals s.heap nw) (hr' : IsRange s.heap r a b c t u v) (hsmall : Builtin.Range.small a b c = true) (hsz : Builtin.Range.rangeSize a b c = (n : Int)) (h0 : J 0 m nw)
    (ht : ForTurn prog w A h₀ env x body n (fun i v => ∃ t, v = .int (a + i * c) t) J) (hr : ∀ m' nw' h' tk', J n m' nw' → Fr h₀ env.locals h' m' → News h₀ env.locals h' nw' → Q .next { s with heap := h', toks := tk' }) :
    wpAny (model prog w) A (pyIter (.ref r)) (ForGo prog w A h₀ env x body Q) E s := by
  refine wpAny_pyIter_range hr' hsmall ?_
  rw [hsz]
  refine ⟨_, _, m, nw, _, n, _, _, J, rfl, Walks.range hh _ a c n, fun i h st => ⟨_, st⟩, ?_, F.push _, N.push F _, fun p hp => Nat.ne_of_lt (Heap.lt_size (N p hp).1), fun b hb => by simp at hb; exact .inl hb, h0, ht, hr⟩
  show IsRangeIter _ _ _ _ _
  have : a + ((0 : Nat) : Int) * c = a := by simp
  rw [this]
  have : (n : Int) - ((0 : Nat) : Int) = n := by simp
  rw [this]
  exact Heap.get?_push_size _ rfl
theorem for_str {y : Str} {t : Tok} (hh : A.handled = none) (F : Fr h₀ env.locals s.heap m) (N : News h₀ env.locals s.heap nw) (h0 : J 0 m nw)
    (ht : ForTurn prog w A h₀ env x body y.cps.size (SignAt y) J) (hr : ∀ m' nw' h' tk', J y.cps.size m' nw' → Fr h₀ env.locals h' m' → News h₀ env.locals h' nw' → Q .next { s with heap := h', toks := tk' }) :
    wpAny (model prog w) A (pyIter (.str y t)) (ForGo prog w A h₀ env x body Q) E s := by
  have hn : ∀ p ∈ nw, p.1 ≠ s.heap.objs.size := fun p hp => Nat.ne_of_lt (Heap.lt_size (N p hp).1)
  cases ha : y.cps.all (· < 128)
  · exact wpAny_pyIter_wide ha ⟨_, _, m, nw, _, _, _, _, J, rfl, Walks.strWide hh _ y t, fun i h st => ⟨_, st.choose_spec.1⟩, ⟨_, Heap.get?_push_size _ rfl, rfl, rfl⟩, F.push _, N.push F _, hn, fun b hb => by simp at hb; exact .inl hb, h0, ht, hr⟩
  · exact wpAny_pyIter_ascii ha ⟨_, _, m, nw, _, _, _, _, J, rfl, Walks.strAscii hh _ y t, fun i h st => ⟨_, st.choose_spec.1⟩, ⟨_, Heap.get?_push_size _ rfl, rfl, rfl⟩, F.push _, N.push F _, hn, fun b hb => by simp at hb; exact .inl hb, h0, ht, hr⟩
end
end ForL_
local macro_rules | `(tactic| walk_at "none3") => `(tactic| skip)
local macro_rules | `(tactic| walk_at "none4") => `(tactic| skip)
local macro_rules | `(tactic| walk_at "none5") => `(tactic| skip)
section LexList_
set_option maxRecDepth 100000
set_option maxHeartbeats 4000000

theorem iter_ct (w : World) (x : Nat) : Does w 712 [.ref x] [] 20 100 (fun _ => True) (fun news news' r => news' = news ∧ r = .ref x) := by
  unfold Does
  w_on
  k_fill
  intro mean mg mb dp un gd cn ns ig ic mo a ccd cl outer A₀ base h₀ L m news s Q E B F X N T hpre hd hu hret
  refine wpAny_call ?_
  k_dflt k_enter
  k_steps
  exact hret _ _ _ _ (by k_asm) (by k_asm) ⟨rfl, rfl⟩
theorem lex_iter (w : World) : findIn (Mine.K1 w.params) (.ref 722) "__iter__" = some (some (.ref 712)) := by kernel_rfl
theorem lex_iterF (w : World) : isFn (Mine.K1 w.params) (.ref 712) = true := by kernel_rfl
theorem lex_noLen (w : World) : findIn (Mine.K1 w.params) (.ref 722) "__len__" = some none := by kernel_rfl
theorem lex_noHint (w : World) : findIn (Mine.K1 w.params) (.ref 722) "__length_hint__" = some none := by kernel_rfl
theorem ls_clear (c : Nat) : Obj.mapSeq (fun _ => (#[] : Array Value)) (lsObj [] c) = lsObj [] c := rfl
theorem ls_popush (c : Nat) : Obj.mapSeq (·.pop) (lsObj [Value.none] c) = lsObj [] (c + 1) := rfl
section
variable {w : World} {mean : ExcName → Option Value} {mg mb : Str → Option Value} {dp un : Nat} {gd : Option (List Code)} {cn : Str} {ns : List (Str × NameKind)} {ig ic : Bool} {mo : List (Str × Const)} {a : Addr} {ccd : Value} {outer : List Env} {A₀ : Around} {base h₀ : Heap} {L : Addr} {m : Str → Option Value} {s : Shared}
  {tk_1 tk5 : Nat → Tok} {x dx sio ds q1 q2 : Nat} {r00 : List (Addr × Obj)} {Q E : Value → Shared → Prop}
theorem lex_list (B : Below A₀ base outer h₀) (F : Fr h₀ L s.heap m) (X : (Mine.K1 w.params).In h₀) (T : Top Mine.q1 (looseW Mine.q1 lz) mean mg mb h₀) (XB : (Mine.K1 w.params).In base) (TB : Top Mine.q1 (looseW Mine.q1 lz) mean mg mb base) (KD : KtsDicts (outer.filterMap (·.frame)) h₀)
    {text : List Nat} {tp ts tl tt : Tok} {ln : Int} (N : News h₀ L s.heap (rtL w tk_1 tk5 x dx sio ds q1 q2 (mkS text) 0 tp (stV .sp ts) ln tl (mkS []) tt r00))
    (hesc : ∀ c ∈ text, c ≠ 92) (hlen : text.length ≤ 1000)
    (hd : dp + 100 < recursionLimit) (hu : un + 500 < cLine) (o1 : dx < x) (o2 : x < ds) (o3 : ds < sio) (o4 : sio < q1) (o5 : q1 < q2) (hr1 : ∀ p ∈ r00, p.1 ≠ dx) (hr2 : ∀ p ∈ r00, p.1 ≠ ds)
    (hok : ∀ S ws vs c g' h' tk', toksN (text.length + 2) false text = some ws → TxtsAre vs ws → KtsTurn (outer.filterMap (·.frame)) h₀ g' → Fr g' L h' m → News g' L h' ((S, lsObj vs c) :: r00) → (∀ p ∈ r00, p.1 < S) → Below A₀ base outer g' → Q (.ref S) { s with heap := h', toks := tk' })
    (herr : ∀ e t vs g news' h' tk', toksN (text.length + 2) false text = none → Fr h₀ L g m → RaisedS base g (envOf cn ⟨.function, ns, ig, ic, mo⟩ L a ccd :: outer) e (.type "ValueError") t vs news' h' → g.UpToSlots h' → (∀ p ∈ r00, p ∈ news') → E (.ref e) { s with heap := h', toks := tk' }) :
    wpAny (model PySem.Challenge.rw_op0238_01.row.prog w) (ktrTop dp un gd cn ⟨.function, ns, ig, ic, mo⟩ L a ccd [] outer) (call (.type "list") [.ref x]) Q E s := by
  obtain ⟨hh, g, d, tk, os⟩ := s
  generalize hS : hh.objs.size = S
  have hlt : ∀ p ∈ rtL w tk_1 tk5 x dx sio ds q1 q2 (mkS text) 0 tp (stV .sp ts) ln tl (mkS []) tt r00, p.1 < S := fun p hp => hS ▸ Heap.lt_size (N p hp).1
  have o6 : q2 < S := hlt (q2, dqObj) (.tail _ (.tail _ (.tail _ (.tail _ (.tail _ (.head _))))))
  have hr3 : ∀ p ∈ r00, p.1 < S := fun p hp => hlt p (.tail _ (.tail _ (.tail _ (.tail _ (.tail _ (.tail _ hp))))))
  have F1 := F.push (lsObj [] 0)
  have N1 := N.push F (lsObj [] 0)
  dsimp only at F1 N1 N F
  rw [hS] at N1
  have hSne : ∀ p ∈ rtL w tk_1 tk5 x dx sio ds q1 q2 (mkS text) 0 tp (stV .sp ts) ln tl (mkS []) tt r00, p.1 ≠ S := fun p hp => Nat.ne_of_lt (hlt p hp)
  refine callType_codes (Q₁ := fun obj s₁ => obj = .ref S ∧ s₁ = ⟨hh.push (lsObj [] 0), g, d, tk, os⟩) PySem.F.called_list (PySem.F.typeCall_list_1 _) PySem.F.entry_list_init (code_list_new _ ⟨by rw [hS], rfl⟩) fun obj s₁ h₁ => ?_
  obtain ⟨rfl, rfl⟩ := h₁
  have hS1 := (N1 _ (.head _)).1
  refine ⟨⟨_, hS1, rfl⟩, PySem.F.args_list_init_2 _ _, ?_⟩
  show wpAny _ _ (do let old ← Builtin.List.listItems (.ref S); Builtin.List.listUpdate (.ref S) (fun _ => #[]); letGo old.toList.reverse; Builtin.List.listExtendWith (.ref S) (.ref x) .none) _ _ _
  refine wpAny_bind ?_
  unfold Builtin.List.listItems
  refine wpAny_bind (wpAny_seqItems hS1 rfl (wpAny_pure ?_))
  show wpAny _ _ (updateSeq S (fun _ => #[]) >>= fun _ => letGo (#[] : Array Value).toList.reverse >>= fun _ => Builtin.List.listExtendWith (.ref S) (.ref x) .none) _ _ _
  refine wpAny_bind (wpAny_updateSeq hS1 rfl ?_)
  obtain ⟨F2, N2⟩ := news_upd (pre := []) (f := Obj.mapSeq (fun _ => (#[] : Array Value))) F1 N1 (fun _ h => (nomatch h)) hSne (ls_clear 0) rfl
  refine wpAny_bind (wpAny_letGo ?_)
  unfold Builtin.List.listExtendWith
  have I : InstAt _ x (instObj 722 dx) 722 (some (lexD w tk_1 sio q1 q2 (Str.ofString "") true (stV .sp ts) ln tl (mkS []) tt)) := InstAt.of_news N2 (.tail _ (.tail _ (.tail _ (.head _)))) (.tail _ (.tail _ (.head _)))
  refine wpAny_bind ((I.type (M := model PySem.Challenge.rw_op0238_01.row.prog w)).here ?_)
  have h1 : Builtin.List.listSameRef (.ref S) (.ref x) = false := by
    have : S ≠ x := Ne.symm (hSne (x, instObj 722 dx) (.tail _ (.tail _ (.head _))))
    simp [Builtin.List.listSameRef, this]
  have h2 : (Value.ref 722 == Value.type "list") = false := by decide
  have h3 : (Value.ref 722 == Value.type "tuple") = false := by decide
  simp only [h1, h2, h3, Bool.or_false, Bool.false_eq_true, if_false]
  refine wpAny_bind (owit_iter F2 X I (lex_iter w) (lex_iterF w) ?_)
  refine iter_ct w x mean mg mb dp (un + 2) gd cn ns ig ic mo a ccd [] outer A₀ base h₀ L m _ _ _ _ B F2 X N2 T trivial (by omega) (by omega) ?_
  rintro r news' h' tk' F3 N3 ⟨rfl, rfl⟩
  have I3 : InstAt h' x (instObj 722 dx) 722 (some (lexD w tk_1 sio q1 q2 (Str.ofString "") true (stV .sp ts) ln tl (mkS []) tt)) := InstAt.of_news N3 (.tail _ (.tail _ (.tail _ (.head _)))) (.tail _ (.tail _ (.head _)))
  refine owit_it F3 X I3 (lex_next w) ?_
  refine wpAny_bind (wpAny_holding ?_)
  unfold Builtin.List.listLengthHint
  have L1 : Looks (model PySem.Challenge.rw_op0238_01.row.prog w) h' (specialOf (.ref x) "__len__") none := I3.type.andThen (looks_findIn (X.keeps F3.keep) (lex_noLen w))
  have L2 : Looks (model PySem.Challenge.rw_op0238_01.row.prog w) h' (specialOf (.ref x) "__length_hint__") none := I3.type.andThen (looks_findIn (X.keeps F3.keep) (lex_noHint w))
  refine wpAny_bind (L1.here ?_)
  show wpAny _ _ (specialOf (Value.ref x) (Str.ofString "__length_hint__") >>= _) _ _ _
  refine wpAny_bind (L2.here ?_)
  refine wpAny_pure ?_
  show wpAny _ _ (rule "list.extend.makes-room" >>= fun _ => Builtin.List.listTouch (.ref S) >>= fun _ => again (.builtin "list.extend.loop" ⟨[.ref S, .ref x, .none], []⟩)) _ _ _
  refine wpAny_bind (wpAny_rule (wpAny_bind ?_))
  show wpAny _ _ (updateSeq S (·.push .none) >>= fun _ => updateSeq S (·.pop)) _ _ _
  have hS3 := (N3 _ (.head _)).1
  obtain ⟨F4, N4⟩ := news_upd (pre := []) (f := Obj.mapSeq (·.push Value.none)) F3 N3 (fun _ h => (nomatch h)) hSne (ls_push [] 0 _) rfl
  obtain ⟨F5, N5⟩ := news_upd (pre := []) (f := Obj.mapSeq (·.pop)) F4 N4 (fun _ h => (nomatch h)) hSne (ls_popush _) rfl
  refine wpAny_bind (wpAny_updateSeq hS3 rfl ?_)
  refine wpAny_updateSeq (hz := by seq_fits) (N4 _ (.head _)).1 rfl ?_
  refine wpAny_pure ⟨plainId_quiet PySem.F.plain_extend_loop _, ?_⟩
  have N6 : News h₀ L _ (rtL w tk_1 tk5 x dx sio ds q1 q2 (mkS text) 0 tp (stV .sp ts) ln tl (mkS []) tt ((S, lsObj [] (0 + 1 + 1)) :: r00)) := fun p hp => N5 p (by
    simp only [List.nil_append, List.mem_cons] at hp ⊢
    rcases hp with h | h | h | h | h | h | h | h <;> simp [h])
  refine ext_loop (s := ⟨hh, g, d, tk, os⟩) B X T XB TB KD (dp := dp) (un := un + 1) (by omega) (by omega) o1 o2 o3 o4 o5 o6 hr1 hr2 (fun p hp => Nat.ne_of_lt (hr3 p hp)) (text.length + 2) false [] text 0 tp ts tl tt ln _ [] [] _ _ _ F5 N6 rfl rfl rfl (fun z => nomatch z) hesc (by simpa using hlen) .nil (fun _ => by simp only [List.length_nil]; omega) (.inr (Nat.le_refl _)) ?_ ?_
  · intro ws vs c g' h' tk' hw hv KT F' N' B'
    exact ⟨rfl, hok S ws vs c g' h' tk' hw hv KT F' N' hr3 B'⟩
  · intro e t vs g' news' h' tk' hw FG S' U' hm
    exact herr e t vs g' news' h' tk' hw FG S' U' hm
end
end LexList_
section Spl_
set_option maxRecDepth 100000
set_option maxHeartbeats 4000000

/-- a contract of a callee within which raises are caught: the caller's ground may turn its frames' slots -/
noncomputable def DoesS (w : World) (f : Addr) (args : List Value) (kw : List (Str × Value)) (dn unn : Nat) (Pre : List (Addr × Obj) → Prop) (Ret : List (Addr × Obj) → List (Addr × Obj) → Value → Prop) (Exc : String → List (Addr × Obj) → List (Addr × Obj) → Prop) : Prop :=
  ∀ (mean : ExcName → Option Value) (mg mb : Str → Option Value) (dp un : Nat) (gd : Option (List Code)) (cn : Str) (ns : List (Str × NameKind)) (ig ic : Bool) (mo : List (Str × Const)) (a : Addr) (ccd : Value) (outer : List Env) (A₀ : Around) (base h₀ : Heap) (L : Addr) (m : Str → Option Value) (news : List (Addr × Obj)) (s : Shared)
    (Q E : Value → Shared → Prop),
    Below A₀ base outer h₀ → Fr h₀ L s.heap m → (Mine.K1 w.params).In h₀ → News h₀ L s.heap news → Top Mine.q1 (looseW Mine.q1 lz) mean mg mb h₀ → (Mine.K1 w.params).In base → Top Mine.q1 (looseW Mine.q1 lz) mean mg mb base → KtsDicts (outer.filterMap (·.frame)) h₀ → Pre news → dp + dn < recursionLimit → un + unn < cLine →
    (∀ r news' g' h' tk', KtsTurn (outer.filterMap (·.frame)) h₀ g' → Fr g' L h' m → News g' L h' news' → Below A₀ base outer g' → (Mine.K1 w.params).In g' → Top Mine.q1 (looseW Mine.q1 lz) mean mg mb g' → KtsDicts (outer.filterMap (·.frame)) g' → Ret news news' r → Q r { s with heap := h', toks := tk' }) →
    (∀ X e t vs g news' h' tk', Fr h₀ L g m → RaisedS base g (envOf cn ⟨.function, ns, ig, ic, mo⟩ L a ccd :: outer) e (.type X) t vs news' h' → g.UpToSlots h' → Exc X news news' → E (.ref e) { s with heap := h', toks := tk' }) →
    wpAny (model PySem.Challenge.rw_op0238_01.row.prog w) (ktrTop dp un gd cn ⟨.function, ns, ig, ic, mo⟩ L a ccd [] outer) (call (.ref f) args kw) Q E s
local macro_rules | `(tactic| walk_at "call ref") => `(tactic| (k_here; (with_reducible show wpAny _ _ (call (Value.ref 722) _ _) _ _ _); refine held ?_))
local macro_rules | `(tactic| walk_at "call type:list") => `(tactic| refine held ?_)
theorem split_ct (w : World) (text : List Nat) (t1 : Tok) (hesc : ∀ c ∈ text, c ≠ 92) (hlen : text.length ≤ 1000) :
    DoesS w 734 [.str (mkS text) t1] [] 150 700 (fun _ => True) (fun news news' r => ∃ S ws vs c, toksN (text.length + 2) false text = some ws ∧ r = .ref S ∧ news' = (S, lsObj vs c) :: news ∧ TxtsAre vs ws ∧ ∀ p ∈ news, p.1 < S) (fun X news news' => X = "ValueError" ∧ toksN (text.length + 2) false text = none ∧ ∀ p ∈ news, p ∈ news') := by
  unfold DoesS
  w_on
  k_fill
  intro mean mg mb dp un gd cn ns ig ic mo a ccd outer A₀ base h₀ L m news s Q E B F X N TT XB TB KD hpre hd hu hret hexc
  have hl : (mkS text).length ≤ 1000 := by rw [mkS_len]; exact hlen
  have X9 := X
  have T9 := TT
  refine wpAny_call ?_
  k_dflt k_enter
  k_steps
  unfold Held
  k_dflt (refine' does_use (lexNew_ct _ _ _ ?hl) ?B ?F ?X ?N ?T ?pre ?hd ?hu ?_; (case N => k_asm); (case B => k_asm); (case F => k_asm); (case X => k_asm); (case T => k_asm); (case pre => trivial); (case hl => assumption); (case hd => ktr_room); (case hu => ktr_units); k_whole; (intro r' nw' h' tk' F' N' hR'); (obtain ⟨x', dx', sio', ds', q1', q2', tka, tkb, tp', tl', tt', ts', e1, e2, l0, l1, l2, l3, l4, l5⟩ := hR'); subst e1; subst e2; (try k_lt l0); (try k_lt2 l1); (try k_lt2 l2); (try k_lt2 l3); (try k_lt2 l4); (try k_lt2 l5); (try dsimp only); (try k_sweep))
  k_steps
  unfold Held
  rename News _ _ _ ((_, sioD _ _ _ _ _) :: _) => N1
  rename ∀ p ∈ news, p.1 < _ => l0
  refine lex_list (tk_1 := tks [_, _, _, _, _, _, _, _, _, _, _, _, _, _, _, _, _, _, _, _, _, _, _, _, _, _, _]) (by assumption) (by k_asm) (by k_asm) (by k_asm) XB TB (by assumption) N1 hesc hlen (by ktr_room) (by ktr_units) (by assumption) (by assumption) (by assumption) (by assumption) (by assumption) (fun p hp => Nat.ne_of_lt (l0 p hp)) (fun p hp => Nat.ne_of_lt (Nat.lt_trans (Nat.lt_trans (l0 p hp) (by assumption)) (by assumption))) ?_ ?_
  · intro S ws vs c g2 h2 tk2 hw hv KT F2 N2 hS B2
    dsimp only
    k_steps
    exact hret _ _ _ _ _ (by assumption) (by k_asm) (by k_asm) (by assumption) (by assumption) (by assumption) (by assumption) ⟨S, ws, vs, c, hw, rfl, rfl, hv, hS⟩
  · intro e t vs g2 news2 h2 tk2 hw FG S2 U2 hm
    dsimp only
    k_steps
    exact hexc _ _ _ _ _ _ _ _ (by assumption) (by assumption) (by assumption) ⟨rfl, hw, hm⟩
end Spl_
local macro_rules | `(tactic| walk_at "none6") => `(tactic| skip)
local macro_rules | `(tactic| walk_at "none7") => `(tactic| skip)
section LSpl_
set_option maxRecDepth 100000
set_option maxHeartbeats 4000000

section
variable {prog : Program} {w : World} {A₀ A : Around} {s : Shared} {base h₀ : Heap} {L : Addr} {m : Str → Option Value} {env : Env} {news : List (Addr × Obj)} {K : Frag} {p : Program} {loose : List Str} {mean : ExcName → Option Value} {mg mb : Str → Option Value}
    {R : Result → Shared → Prop} {name qual : Str} {params : Arguments} {body : List Stmt} {scope : Scope} {dV kV doc pm cdv ct oc : Value} {an od : Option Addr} {osl : Array (Option Value)} {f : Addr} {args : Args} {binds : List (Str × Value)}
/-- a def with a try, called from the law's own frame (its env may hold cells) -/
theorem code_lawS (B : Below A₀ base [] h₀) (F : Fr h₀ L s.heap m) (X₀ : K.In h₀) (N : News h₀ L s.heap news) (T : Top p loose mean mg mb h₀) (hA : A.frames = some [env]) (hf : env.frame = some L) (hke : env.scope.kind = .function)
    (ho : K.lookup f = some ⟨oc, od, .func (fnOf name qual params body scope dV kV doc pm an cdv ct), osl⟩) (hcd : codeIn K cdv qual = true) (hroom : A.depth < recursionLimit)
    (hbind : BindsTo s (fnOf name qual params body scope dV kV doc pm an cdv ct) args binds) (hloc : ∀ y ∈ binds, scope.names.lookup y.1 = some .local)
    (h : ∀ g L' h₁, Fr h₀ L g m → Fr g L' h₁ (fun y => binds.reverse.lookup y) → News g L' h₁ news → Below A base [env] g → K.In g → Top p loose mean mg mb g → KtsDicts ([env].filterMap (·.frame)) g →
      wpAny (model prog w) (A.deeper (envOf qual scope L' f cdv)) (execs body (envOf qual scope L' f cdv))
        (fun fl s' => LeaveS0 ([env].filterMap (·.frame)) h₀ L m g R (match fl with | .ret v => v | _ => .none) s')
        (fun e s' => wpAny (model prog w) (A.deeper (envOf qual scope L' f cdv)) (leaving (envOf qual scope L' f cdv) e) (fun _ s'' => R (.error e) s'') (fun e' s'' => R (.error e') s'') s')
        { s with heap := h₁, toks := s.toks + binds.length })
    (hco : scope.isCoroutine = false) (hgen : scope.isGenerator = false) (hk : scope.kind = .function)
    (hcell : ∀ x ∈ scope.names, x.2 ≠ .cell) : codeAny (model prog w) A (.call (.ref f) args) R s := by
  have X := X₀.keeps F.keep
  have efs : [env].filterMap (·.frame) = [L] := by simp [hf]
  refine codeAny_call_def (fd := fnOf name qual params body scope dV kV doc pm an cdv ct) (body := body) (binds := binds) hroom (X _ _ ho) rfl (T.nolimit.keeps F.keep) (codeRec_of X hcd) rfl hbind hcell hloc (fun h₁ hns hk₁ => ?_) hco hgen hk
  obtain ⟨FG, BG, st, -⟩ := groundX (R := R) B F N hA hf hke
  obtain ⟨oL, es, ep, hLg, hLd, hLk, hLf⟩ := FG.ns
  refine wpAny_mono (h _ s.heap.objs.size h₁ FG ⟨hns, fun b o e => hk₁ b o (of_hideAll _ e), Nat.le_of_eq (hideAll_size _ _)⟩
    (fun p hp => ⟨hk₁ _ _ (N p hp).1, Nat.ne_of_lt (Heap.lt_size (N p hp).1), hideAll_none _ (List.mem_map_of_mem hp)⟩) BG (X₀.keeps st) (T.keeps st) (fun b hb => by
      rw [efs] at hb
      obtain rfl := List.mem_singleton.mp hb
      exact ⟨oL, es, ep, hLg, hLd⟩)) (fun fl s' hl => ?_) fun _ _ y => y
  obtain ⟨g', L', m', news', T', F', N', k⟩ := hl
  rw [efs] at T'
  have nL₀ : h₀.get? L = none := kts_self F
  obtain ⟨sl, hs⟩ := T'.up hLg
  refine k ⟨⟨_, es, ep, F'.keep _ _ hs, hLd, hLk, hLf⟩, fun b o e => F'.keep b o (T'.other b o (st b o e) (fun q => by
    obtain rfl := List.mem_singleton.mp q
    rw [nL₀] at e; cases e)), F.above⟩ fun p hp => ⟨(N' p hp).1, fun q => ?_, ?_⟩
  · have := (N' p hp).2.2; rw [q, hs] at this; cases this
  · cases q : h₀.get? p.1 with
    | none => rfl
    | some o =>
      obtain ⟨sl', hs'⟩ := T'.up (st _ _ q)
      have := (N' p hp).2.2
      rw [hs'] at this
      cases this
end
theorem doesS_use {w : World} {f : Addr} {args : List Value} {kw : List (Str × Value)} {dn unn : Nat} {Pre : List (Addr × Obj) → Prop} {Ret : List (Addr × Obj) → List (Addr × Obj) → Value → Prop} {Exc : String → List (Addr × Obj) → List (Addr × Obj) → Prop} (D : DoesS w f args kw dn unn Pre Ret Exc)
    {mean : ExcName → Option Value} {mg mb : Str → Option Value} {dp un : Nat} {gd : Option (List Code)} {cn : Str} {ns : List (Str × NameKind)} {ig ic : Bool} {mo : List (Str × Const)} {a : Addr} {ccd : Value} {outer : List Env} {A₀ : Around} {base h₀ : Heap} {L : Addr} {m : Str → Option Value} {news : List (Addr × Obj)} {s : Shared} {Q E : Value → Shared → Prop}
    (B : Below A₀ base outer h₀) (F : Fr h₀ L s.heap m) (X : (Mine.K1 w.params).In h₀) (N : News h₀ L s.heap news) (T : Top Mine.q1 (looseW Mine.q1 lz) mean mg mb h₀) (XB : (Mine.K1 w.params).In base) (TB : Top Mine.q1 (looseW Mine.q1 lz) mean mg mb base) (KD : KtsDicts (outer.filterMap (·.frame)) h₀) (hpre : Pre news) (hd : dp + dn < recursionLimit) (hu : un + unn < cLine)
    (h : ∀ r news' g' h' tk', KtsTurn (outer.filterMap (·.frame)) h₀ g' → Fr g' L h' m → News g' L h' news' → Below A₀ base outer g' → (Mine.K1 w.params).In g' → Top Mine.q1 (looseW Mine.q1 lz) mean mg mb g' → KtsDicts (outer.filterMap (·.frame)) g' → Ret news news' r → Q r { s with heap := h', toks := tk' })
    (hx : ∀ X e t vs g news' h' tk', Fr h₀ L g m → RaisedS base g (envOf cn ⟨.function, ns, ig, ic, mo⟩ L a ccd :: outer) e (.type X) t vs news' h' → g.UpToSlots h' → Exc X news news' → E (.ref e) { s with heap := h', toks := tk' }) :
    wpAny (model PySem.Challenge.rw_op0238_01.row.prog w) (ktrTop dp un gd cn ⟨.function, ns, ig, ic, mo⟩ L a ccd [] outer) (call (.ref f) args kw) Q E s :=
  D _ _ _ _ _ _ _ _ _ _ _ _ _ _ _ _ _ _ _ _ _ _ _ B F X N T XB TB KD hpre hd hu h hx
/-- split's answer: None for a refusal -/
noncomputable def lsRet (text : List Nat) (news news' : List (Addr × Obj)) (r : Value) : Prop :=
  (toksN (text.length + 2) false text = none ∧ r = .none ∧ ∀ p ∈ news, p ∈ news') ∨ ∃ S ws vs c, toksN (text.length + 2) false text = some ws ∧ r = .ref S ∧ (S, lsObj vs c) ∈ news' ∧ TxtsAre vs ws ∧ (∀ p ∈ news, p.1 < S) ∧ ∀ p ∈ news, p ∈ news'
noncomputable abbrev lawA (dp un : Nat) (gd : Option (List Code)) (env : Env) : Around := { handled := none, depth := dp, frames := some [env], guards := gd, units := un }
/-- a contract for calls from the law's own frame -/
noncomputable def DoesL (w : World) (f : Addr) (args : List Value) (dn unn : Nat) (Pre : List (Addr × Obj) → Prop) (Ret : List (Addr × Obj) → List (Addr × Obj) → Value → Prop) : Prop :=
  ∀ (mean : ExcName → Option Value) (mg mb : Str → Option Value) (dp un : Nat) (gd : Option (List Code)) (env : Env) (A₀ : Around) (base h₀ : Heap) (L : Addr) (m : Str → Option Value) (news : List (Addr × Obj)) (s : Shared) (Q E : Value → Shared → Prop),
    Below A₀ base [] h₀ → Fr h₀ L s.heap m → (Mine.K1 w.params).In h₀ → News h₀ L s.heap news → Top Mine.q1 (looseW Mine.q1 lz) mean mg mb h₀ → (Mine.K1 w.params).In base → Top Mine.q1 (looseW Mine.q1 lz) mean mg mb base → env.frame = some L → env.scope.kind = .function → Pre news → dp + dn < recursionLimit → un + unn < cLine →
    (∀ r news' h' tk', Fr h₀ L h' m → News h₀ L h' news' → Ret news news' r → Q r { s with heap := h', toks := tk' }) →
    wpAny (model PySem.Challenge.rw_op0238_01.row.prog w) (lawA dp un gd env) (call (.ref f) args) Q E s
local macro_rules | `(tactic| walk_at "call ref") => `(tactic| (k_here; (with_reducible show wpAny _ _ (call (Value.ref 734) _ _) _ _ _); refine held ?_))
theorem lsplit_ct (w : World) (text : List Nat) (t1 : Tok) (hesc : ∀ c ∈ text, c ≠ 92) (hlen : text.length ≤ 1000) :
    DoesL w 802 [.str (mkS text) t1] 200 1000 (fun _ => True) (fun news news' r => lsRet text news news' r) := by
  unfold DoesL
  w_on
  k_fill
  intro mean mg mb dp un gd env A₀ base h₀ L m news s Q E B F X N TT XB TB hf hke hpre hd hu hret
  have X9 := X
  have T9 := TT
  refine wpAny_call ?_
  k_dflt (refine' code_lawS ?k1 ?k2 ?k3 ?k4 ?k5 ?kA ?kF ?kK ?k6 ?k7 ?k8 ?k9 ?kB ?_ ?c2 ?c3 ?c4 ?c5; (case kA => exact rfl); (case kF => exact hf); (case kK => exact hke); (case k1 => k_asm); (case k2 => k_asm); (case k3 => k_asm); (case k4 => k_asm); (case k5 => k_asm); (case k6 => k_is); (case k7 => k_is); (case k8 => ktr_room); (case k9 => first | exact BindsTo.of_eq rfl | exact binds_K (by k_in) rfl (by k_is) rfl rfl rfl); (case kB => exact locs rfl); (case c2 => exact rfl); (case c3 => exact rfl); (case c4 => exact rfl); (case c5 => decide); k_whole; intro g' L' h' FG' F' N' B' X' T' D'; (try dsimp only); (try k_fold))
  k_steps
  unfold Held
  refine doesS_use (split_ct w text t1 hesc hlen) (by assumption) (by k_asm) (by k_asm) (by k_asm) (by k_asm) XB TB (by assumption) trivial (by ktr_room) (by ktr_units) ?_ ?_
  · rintro r news' g2 h2 tk2 KT F2 N2 B2 X2 T2 D2 ⟨S, ws, vs, c, hw, rfl, rfl, hv, hS⟩
    dsimp only
    k_steps
    exact hret _ _ _ _ (by k_asm) (by k_asm) (.inr ⟨S, ws, vs, c, hw, rfl, .head _, hv, hS, fun p hp => .tail _ hp⟩)
  · rintro X e t vs g2 news2 h2 tk2 FG S2 U2 ⟨rfl, hw, hm⟩
    dsimp only
    k_steps
    exact hret _ _ _ _ (by k_asm) (by k_asm) (.inl ⟨hw, rfl, hm⟩)
end LSpl_
end KM_
section RdDefs_
set_option maxRecDepth 100000
set_option maxHeartbeats 4000000

/-- the plain reader, sign by sign -/
noncomputable def sc : Option Nat → Option (List Nat) → List Nat → Option (List (List Nat))
  | none, word, [] => some word.toList
  | some _, _, [] => none
  | none, word, c :: r => if isQ c then sc (some c) (some (word.getD [])) r else if isW c then (sc none none r).map (word.toList ++ ·) else sc none (some (word.getD [] ++ [c])) r
  | some k, word, c :: r => if c = k then sc none word r else sc (some k) (some (word.getD [] ++ [c])) r
theorem sc_jump (k : Nat) : ∀ (r wd : List Nat), sc (some k) (some wd) r = if k ∈ r then sc none (some (wd ++ r.takeWhile (· != k))) ((r.dropWhile (· != k)).drop 1) else none
  | [], wd => by rw [if_neg (by simp)]; rfl
  | c :: r, wd => by
    rw [sc]
    by_cases h : c = k
    · subst h
      rw [if_pos rfl, if_pos (by simp)]
      simp
    · have h' : (c != k) = true := by simpa using h
      rw [if_neg h, Option.getD_some, sc_jump k r (wd ++ [c])]
      have hm : (k ∈ c :: r) = (k ∈ r) := by simp [Ne.symm h]
      simp only [hm, List.takeWhile_cons, List.dropWhile_cons, h', if_true, List.append_assoc, List.singleton_append]
theorem rt_ok : ∀ (rest : List Nat) (st : LSt) (q : Bool) (tok : List Nat) {q' : Bool} {tok' : List Nat} {fin : Bool} {r : List Nat}, st ≠ .sp → stOk st q tok → rt st q tok rest = some (q', tok', fin, r) → ¬ (q' = false ∧ tok' = [])
  | [], .sp, _, _, _, _, _, _, hs, _, _ => absurd rfl hs
  | _ :: _, .sp, _, _, _, _, _, _, hs, _, _ => absurd rfl hs
  | [], .wd, _, _, _, _, _, _, _, ok, h => by cases h; rintro ⟨rfl, rfl⟩; rcases ok with h | h; exact h rfl; cases h
  | [], .qt _, _, _, _, _, _, _, _, _, h => by cases h
  | c :: r, .wd, q, tok, _, _, _, _, _, ok, h => by
    rw [rt] at h
    split at h
    · cases h; rintro ⟨rfl, rfl⟩; rcases ok with h | h; exact h rfl; cases h
    · split at h
      · rename_i hq; exact rt_ok r _ _ _ (by intro z; cases z) (by simpa [stOk, isQ] using hq) h
      · exact rt_ok r .wd q (tok ++ [c]) (by intro z; cases z) (Or.inl (by simp)) h
  | c :: r, .qt k, q, tok, _, _, _, _, _, ok, h => by
    rw [rt] at h
    split at h
    · exact rt_ok r .wd true tok (by intro z; cases z) (Or.inr rfl) h
    · exact rt_ok r (.qt k) true (tok ++ [c]) (by intro z; cases z) ok h
/-- what follows a token -/
noncomputable def aft (fin : Bool) (r : List Nat) : Option (List (List Nat)) := if fin then some [] else sc none none r
theorem sc_rt : ∀ (rest : List Nat),
    (sc none none rest = match rt .sp false [] rest with | none => none | some (q, tok, fin, r) => if q = false ∧ tok = [] then some [] else (aft fin r).map (tok :: ·)) ∧
    (∀ q tok, stOk .wd q tok → sc none (some tok) rest = match rt .wd q tok rest with | none => none | some (_, tok', fin, r) => (aft fin r).map (tok' :: ·)) ∧
    (∀ k q tok, stOk (.qt k) q tok → sc (some k) (some tok) rest = match rt (.qt k) q tok rest with | none => none | some (_, tok', fin, r) => (aft fin r).map (tok' :: ·))
  | [] => ⟨rfl, fun _ _ _ => rfl, fun _ _ _ _ => rfl⟩
  | c :: r => by
    obtain ⟨h1, h2, h3⟩ := sc_rt r
    refine ⟨?_, fun q tok ok => ?_, fun k q tok ok => ?_⟩
    · rw [sc, rt]
      by_cases hq : isQ c = true
      · have hw : ¬ isW c = true := by
          simp only [isQ, isW, Bool.or_eq_true, beq_iff_eq] at hq ⊢
          omega
        rw [if_pos hq, if_neg hw, if_pos hq]
        have ok : stOk (.qt c) false [] := by simpa [stOk, isQ] using hq
        show sc (some c) (some []) r = _
        rw [h3 c false [] ok]
        cases hr : rt (.qt c) false [] r with
        | none => rfl
        | some z => obtain ⟨q', tok', fin, r'⟩ := z; dsimp only; rw [if_neg (rt_ok r _ _ _ (by intro z; cases z) ok hr)]
      · rw [if_neg hq]
        by_cases hw : isW c = true
        · rw [if_pos hw, if_pos hw, h1]
          show Option.map (([] : List (List Nat)) ++ ·) _ = _
          simp
        · rw [if_neg hw, if_neg hw, if_neg hq]
          have ok : stOk .wd false [c] := .inl (by simp)
          show sc none (some ([] ++ [c])) r = _
          rw [List.nil_append, h2 false [c] ok]
          cases hr : rt .wd false [c] r with
          | none => rfl
          | some z => obtain ⟨q', tok', fin, r'⟩ := z; dsimp only; rw [if_neg (rt_ok r _ _ _ (by intro z; cases z) ok hr)]
    · rw [sc, rt]
      by_cases hq : isQ c = true
      · have hw : ¬ isW c = true := by
          simp only [isQ, isW, Bool.or_eq_true, beq_iff_eq] at hq ⊢
          omega
        rw [if_pos hq, if_neg hw, if_pos hq]
        exact h3 c q tok (by simpa [stOk, isQ] using hq)
      · rw [if_neg hq]
        by_cases hw : isW c = true
        · rw [if_pos hw, if_pos hw]; rfl
        · rw [if_neg hw, if_neg hw, if_neg hq]
          exact h2 q (tok ++ [c]) (.inl (by simp))
    · rw [sc, rt]
      by_cases hk : c = k
      · rw [if_pos hk, if_pos hk]; exact h2 true tok (.inr rfl)
      · rw [if_neg hk, if_neg hk]; exact h3 k true (tok ++ [c]) ok
theorem toksN_sc : ∀ (n : Nat) (fin : Bool) (rest : List Nat), (fin = true ∧ 1 ≤ n ∨ rest.length + 2 ≤ n) → toksN n fin rest = aft fin rest
  | 0, _, _, h => by omega
  | n + 1, true, _, _ => rfl
  | n + 1, false, rest, h => by
    rw [toksN]
    show _ = sc none none rest
    rw [(sc_rt rest).1]
    cases hr : rt .sp false [] rest with
    | none => rfl
    | some z =>
      obtain ⟨q, tok, fin, r⟩ := z
      dsimp only
      split
      · rfl
      · have hl := rt_len rest _ _ _ hr
        have h' : rest.length + 2 ≤ n + 1 := h.resolve_left (fun z => nomatch z.1)
        rw [toksN_sc n fin r (by
          cases fin with
          | true => left; exact ⟨rfl, by omega⟩
          | false => right; have := hl.2.1 rfl; omega)]
theorem toks_sc (text : List Nat) : toksN (text.length + 2) false text = sc none none text := toksN_sc _ _ _ (.inr (Nat.le_refl _))
end RdDefs_
section TxtR2_
set_option maxRecDepth 100000

theorem item_mid (pre : List Nat) (c : Nat) (rest : List Nat) : Txt.item (mkS (pre ++ c :: rest)) (pre.length : Int) = mkS [c] := by
  refine item_meets (by omega) ?_
  simp
theorem getD_pre (pre : List Nat) (c : Nat) (rest : List Nat) (j : Nat) : (mkS (pre ++ c :: rest)).cps.getD (pre.length + 1 + j) 0 = rest.getD j 0 := by
  rw [Array.getD_eq_getD_getElem?, List.getD_eq_getElem?_getD]
  simp only [List.getElem?_toArray]
  rw [List.getElem?_append_right (by omega)]
  congr 1
  have : pre.length + 1 + j - pre.length = j + 1 := by omega
  rw [this, List.getElem?_cons_succ]
theorem fromI (n : Nat) {i : Int} (h : 0 ≤ i) : fromIndex n i = i.toNat := by
  unfold fromIndex
  rw [if_neg (by omega)]; omega
theorem find_no (pre : List Nat) (c : Nat) (rest : List Nat) (h : c ∉ rest) : Txt.find3 (mkS (pre ++ c :: rest)) (mkS [c]) ((pre.length : Int) + 1) = -1 := by
  rcases StrLaws.find3_spec (mkS (pre ++ c :: rest)) c ((pre.length : Int) + 1) with ⟨h0, _⟩ | ⟨k, _, h1, h2, h3, _⟩
  · exact h0
  · exfalso
    rw [fromI _ (by omega)] at h1
    obtain ⟨j, rfl⟩ : ∃ j, k = pre.length + 1 + j := ⟨k - (pre.length + 1), by omega⟩
    rw [getD_pre] at h3
    have hj : j < rest.length := by rw [mkS_len] at h2; simp at h2; omega
    exact h (by rw [← h3, List.getD_eq_getElem?_getD, List.getElem?_eq_getElem hj]; exact List.getElem_mem hj)
theorem tw_get {c : Nat} : ∀ {l : List Nat}, c ∈ l → l.getD (l.takeWhile (· != c)).length 0 = c ∧ (l.takeWhile (· != c)).length < l.length ∧ (∀ j, j < (l.takeWhile (· != c)).length → l.getD j 0 ≠ c)
  | [], h => by simp at h
  | d :: l, h => by
    by_cases e : d = c
    · subst e; simp
    · have h' : c ∈ l := by simpa [Ne.symm e] using h
      obtain ⟨i1, i2, i3⟩ := tw_get h'
      have e' : (d != c) = true := by simpa using e
      rw [List.takeWhile_cons, if_pos e']
      refine ⟨by simpa using i1, by simpa using i2, ?_⟩
      intro j hj
      cases j with
      | zero => simpa using e
      | succ j => exact fun z => i3 j (by simpa using hj) (by simpa using z)
theorem find_yes (pre : List Nat) (c : Nat) (rest : List Nat) (h : c ∈ rest) : Txt.find3 (mkS (pre ++ c :: rest)) (mkS [c]) ((pre.length : Int) + 1) = ((pre.length + 1 + (rest.takeWhile (· != c)).length : Nat) : Int) := by
  obtain ⟨i1, i2, i3⟩ := tw_get h
  have hl : (mkS (pre ++ c :: rest)).length = pre.length + rest.length + 1 := by rw [mkS_len]; simp; omega
  rcases StrLaws.find3_spec (mkS (pre ++ c :: rest)) c ((pre.length : Int) + 1) with ⟨h0, hn⟩ | ⟨k, h0, h1, h2, h3, h4⟩
  · exfalso
    refine hn (pre.length + 1 + (rest.takeWhile (· != c)).length) ?_ ?_ ?_
    · rw [fromI _ (by omega)]; omega
    · rw [hl]; omega
    · rw [getD_pre]; exact i1
  · have h0' : Txt.find3 (mkS (pre ++ c :: rest)) (mkS [c]) ((pre.length : Int) + 1) = (k : Int) := h0
    rw [h0']
    rw [fromI _ (by omega)] at h1 h4
    obtain ⟨j, rfl⟩ : ∃ j, k = pre.length + 1 + j := ⟨k - (pre.length + 1), by omega⟩
    rw [getD_pre] at h3
    have a1 : ¬ j < (rest.takeWhile (· != c)).length := fun z => i3 j z h3
    have a2 : ¬ (rest.takeWhile (· != c)).length < j := fun z => h4 (pre.length + 1 + (rest.takeWhile (· != c)).length) (by omega) (by omega) (by rw [getD_pre]; exact i1)
    omega
theorem takeWhile_pre {c : Nat} : ∀ (l : List Nat), l.take (l.takeWhile (· != c)).length = l.takeWhile (· != c)
  | [] => rfl
  | d :: l => by
    rw [List.takeWhile_cons]
    split
    · simp [takeWhile_pre l]
    · rfl
theorem slice_tw (pre : List Nat) (c : Nat) (rest : List Nat) (h : c ∈ rest) : Txt.slice (mkS (pre ++ c :: rest)) (some ((pre.length : Int) + 1)) (some ((pre.length + 1 + (rest.takeWhile (· != c)).length : Nat) : Int)) = mkS (rest.takeWhile (· != c)) := by
  obtain ⟨i1, i2, i3⟩ := tw_get h
  have hs := slice_closesL (x := mkS (pre ++ c :: rest)) (i := (pre.length : Int) + 1) (j := ((pre.length + 1 + (rest.takeWhile (· != c)).length : Nat) : Int)) (by omega) (by omega) (by rw [mkS_len]; simp; omega)
  rw [beq_iff_eq.mp hs]
  have e1 : ((pre.length : Int) + 1).toNat = pre.length + 1 := by omega
  have e2 : (((pre.length + 1 + (rest.takeWhile (· != c)).length : Nat) : Int) - ((pre.length : Int) + 1)).toNat = (rest.takeWhile (· != c)).length := by omega
  rw [e1, e2]
  have e3 : (pre ++ c :: rest).drop (pre.length + 1) = rest := by
    rw [List.drop_append]
    simp
  simp only [e3, takeWhile_pre]
theorem tw_split {c : Nat} : ∀ {l : List Nat}, c ∈ l → l = l.takeWhile (· != c) ++ c :: (l.dropWhile (· != c)).drop 1
  | [], h => by simp at h
  | d :: l, h => by
    by_cases e : d = c
    · subst e; simp
    · have h' : c ∈ l := by simpa [Ne.symm e] using h
      have e' : (d != c) = true := by simpa using e
      rw [List.takeWhile_cons, if_pos e', List.dropWhile_cons, if_pos e', List.cons_append, ← tw_split h']
theorem ws2_l : (Str.ofString " \t\n\r").cps.toList = [32, 9, 10, 13] := by decide +kernel
theorem fW2 {c : Nat} : c ∈ (Str.ofString " \t\n\r").cps.toList ↔ isW c = true := by
  rw [ws2_l]
  simp only [List.mem_cons, List.not_mem_nil, or_false, isW, Bool.or_eq_true, beq_iff_eq]
  constructor
  · rintro (h | h | h | h)
    · exact .inl (.inl (.inl h))
    · exact .inl (.inl (.inr h))
    · exact .inr h
    · exact .inl (.inr h)
  · rintro (((h | h) | h) | h)
    · exact .inl h
    · exact .inr (.inl h)
    · exact .inr (.inr (.inr h))
    · exact .inr (.inr (.inl h))
section
variable {prog : Program} {w : World} {A : Around} {E : Value → Shared → Prop} {s : Shared} {t u v : Tok} {T : Str} {pre rest : List Nat} {c : Nat} {k j : Int} {Q : Value → Shared → Prop}
theorem item_T {value slice : Expr} (hT : T = mkS (pre ++ c :: rest)) (hk : k = (pre.length : Int)) (hz : T.length ≤ 100000) (h : Q (.str (mkS [c]) s.toks) { s with toks := s.toks + 1 })
    (hs : subscripted slice false (.str T t) (.int k u) = operate [.str T t, .int k u] (getItem (.str T t) (.int k u)) := by with_unfolding_all rfl)
    (ht : ∀ r, letTemporaryGo value (.str T t) r = pure () := by intro _; with_unfolding_all rfl) :
    wpAny (model prog w) A (subscriptTail value slice (.str T t) (.int k u)) Q E s := by
  have hl : T.length = pre.length + rest.length + 1 := by rw [hT, mkS_len]; simp; omega
  refine item_str (fitsSsize_of (N := 9223372036854775808) (by omega) (by omega) (Int.le_refl _)) (by omega) (by omega) (fun _ => ?_) hs ht
  subst hT hk
  rw [item_mid]; exact h
theorem find_Tno (hT : T = mkS (pre ++ c :: rest)) (hj : j = (pre.length : Int) + 1) (hc : c ∉ rest) (h : Q (.int (-1) s.toks) { s with toks := s.toks + 1 }) : wpAny (model prog w) A (call (.builtin "str.find") [.str T t, .str (mkS [c]) u, .int j v]) Q E s := by
  refine SC.find3 ?_
  subst hT hj
  rw [find_no pre c rest hc]; exact h
theorem find_Tyes {inn : List Nat} (hT : T = mkS (pre ++ c :: rest)) (hj : j = (pre.length : Int) + 1) (hc : c ∈ rest) (hin : rest.takeWhile (· != c) = inn) (h : Q (.int ((pre.length + 1 + inn.length : Nat) : Int) s.toks) { s with toks := s.toks + 1 }) : wpAny (model prog w) A (call (.builtin "str.find") [.str T t, .str (mkS [c]) u, .int j v]) Q E s := by
  refine SC.find3 ?_
  subst hT hj
  rw [find_yes pre c rest hc, hin]; exact h
end
end TxtR2_
local macro_rules | `(tactic| walk_at "none8") => `(tactic| skip)
local macro_rules | `(tactic| walk_at "none9") => `(tactic| skip)
section Sgn_
set_option maxRecDepth 100000
set_option maxHeartbeats 4000000

theorem blank_item (k : Int) (h0 : 0 ≤ k) (h4 : k < 4) : ∃ c, Txt.item (Str.ofString " \t\n\r") k = mkS [c] ∧ c ≠ 92 ∧ c < 256 := by
  have : k = 0 ∨ k = 1 ∨ k = 2 ∨ k = 3 := by omega
  rcases this with rfl | rfl | rfl | rfl
  · exact ⟨32, by decide +kernel, by decide, by decide⟩
  · exact ⟨9, by decide +kernel, by decide, by decide⟩
  · exact ⟨10, by decide +kernel, by decide, by decide⟩
  · exact ⟨13, by decide +kernel, by decide, by decide⟩
theorem q1_s : Str.ofString "'" = mkS [39] := by decide +kernel
theorem q2_s : Str.ofString "\"" = mkS [34] := by decide +kernel
theorem sl_s : Str.ofString "/" = mkS [47] := by decide +kernel
theorem bs_s : Str.ofString "\\" = mkS [92] := by decide +kernel
noncomputable def sgRet (news news' : List (Addr × Obj)) (r : Value) : Prop := news' = news ∧ ∃ c t', r = .str (mkS [c]) t' ∧ c ≠ 92 ∧ c < 256
theorem sign_ct (w : World) (x : Int) (t1 : Tok) : Does w 795 [.int x t1] [] 20 100 (fun _ => True) (fun news news' r => sgRet news news' r) := by
  unfold Does
  w_on
  k_fill
  intro mean mg mb dp un gd cn ns ig ic mo a ccd cl outer A₀ base h₀ L m news s Q E B F X N T hpre hd hu hret
  obtain ⟨hh, gg, dd, tk, os⟩ := s
  refine wpAny_call ?_
  k_dflt k_enter
  k_steps
  · exact hret _ _ _ _ (by k_asm) (by k_asm) ⟨rfl, 39, _, by rw [q1_s], by decide, by decide⟩
  · exact hret _ _ _ _ (by k_asm) (by k_asm) ⟨rfl, 34, _, by rw [q2_s], by decide, by decide⟩
  · obtain ⟨c, e, h1, h2⟩ := blank_item ((x.fdiv 8).fmod 4) (Int.fmod_nonneg_of_pos _ (by decide)) (Int.fmod_lt_of_pos _ (by decide))
    exact hret _ _ _ _ (by k_asm) (by k_asm) ⟨rfl, c, _, by rw [e], h1, h2⟩
  · exact hret _ _ _ _ (by k_asm) (by k_asm) ⟨rfl, 47, _, by rw [sl_s], by decide, by decide⟩
  · rename (_ == Str.ofString "\\") = false => e
    have h0 := Int.fmod_nonneg_of_pos (x.fdiv 8) (b := 256) (by decide)
    have h1 := Int.fmod_lt_of_pos (x.fdiv 8) (b := 256) (by decide)
    refine hret _ _ _ _ (by k_asm) (by k_asm) ⟨rfl, ((x.fdiv 8).fmod 256).toNat, _, rfl, ?_, by omega⟩
    intro z
    rw [bs_s, z] at e
    exact absurd e (by decide)
end Sgn_
section Elt1_
set_option maxRecDepth 100000
set_option maxHeartbeats 8000000

noncomputable def lawDef : DefRec := ((defOf q1 (Str.ofString "law")).map (·.1)).getD ⟨default, default, default, default, default⟩
section
variable {M : Model} {A : Around} {E : Value → Shared → Prop} {s : Shared} {h₀ : Heap} {L : Addr} {cenv : Env} {x : Str} {tg nw : List (Addr × Obj)} {v : Value} {Q : Value → Shared → Prop} {pos : Pos}
theorem nameT (N : News h₀ L s.heap nw) (hm : ∀ p ∈ tg, p ∈ nw) (ht : Tgt cenv x tg (some v)) (hk : cenv.scope.kind = .function) (h : Q v s) (hd : (x == ("__debug__" : Str)) = false) :
    wpAny M A (eval (.Name x pos) cenv) Q E s := by
  rcases ht with ⟨oC, mC, e1, rfl, n, e2⟩ | ⟨oC, mC, c, oc, w0, e1, e2, e3, rfl, n, e4, e5⟩
  · exact wpAny_Name (wpAny_loadName_local hk e1 (n.at (N _ (hm _ (.head _))).1) (e2 v rfl) h) hd
  · obtain rfl := e5 v rfl
    exact wpAny_Name (wpAny_loadName_cell hk e1 e2 ⟨oc, (N _ (hm _ (.head _))).1, e4⟩ h) hd
theorem name_K {K : Frag} {m mg mb : Str → Option Value} {p : Program} {loose : List Str} {mean : ExcName → Option Value}
    (F : Fr h₀ L s.heap m) (X : K.In h₀) (T : Top p loose mean mg mb h₀) (e : nsIn K mainGlobals x = some (some v)) (hg : cenv.globals = mainGlobals) (hk : cenv.scope.kind = .function) (hx : cenv.kindOf x = some .globalImplicit) (h : Q v s) (hd : (x == ("__debug__" : Str)) = false) :
    wpAny M A (eval (.Name x pos) cenv) Q E s :=
  Name_function_global hk hx (loadGlobal_global (env := cenv) (by rw [hg]; exact T.g.keeps F.keep) (mg_of X T.g e) h) hd
theorem name_B {K : Frag} {m mg mb : Str → Option Value} {p : Program} {loose : List Str} {mean : ExcName → Option Value}
    (F : Fr h₀ L s.heap m) (X : K.In h₀) (T : Top p loose mean mg mb h₀) (e : nsIn K mainGlobals x = some none) (hv : bootBuiltins x = some v) (hn : x ≠ "__name__") (hg : cenv.globals = mainGlobals) (hb : cenv.builtins = builtinsNs) (hk : cenv.scope.kind = .function) (hx : cenv.kindOf x = some .globalImplicit) (h : Q v s) (hd : (x == ("__debug__" : Str)) = false) :
    wpAny M A (eval (.Name x pos) cenv) Q E s :=
  Name_function_global hk hx (loadGlobal_builtin (env := cenv) (by rw [hg]; exact T.g.keeps F.keep) (mg_none_of X T.g e) (by rw [hb]; exact T.b.keeps F.keep) ((T.builtins x hn).trans hv) h) hd
end
section
variable {prog : Program} {w : World} {A : Around} {E : Value → Shared → Prop} {s : Shared} {h₀ : Heap} {L : Addr} {m : Str → Option Value} {cenv : Env} {Q : Value → Shared → Prop}
noncomputable def isDef (K : Frag) (f : Addr) : Bool := match K.lookup f with
  | some o => match o.data with
    | .func _ => true
    | _ => false
  | none => false
/-- a def called by its name, its arguments' evaluation given -/
theorem call_named {K : Frag} {mg mb : Str → Option Value} {p : Program} {loose : List Str} {mean : ExcName → Option Value} {g : Str} {pg pos : Pos} {args : List Expr} {t1 : Sem Value} {tr : List (Bool × Sem Value)} {f : Addr}
    (F : Fr h₀ L s.heap m) (X : K.In h₀) (T : Top p loose mean mg mb h₀) (e : nsIn K mainGlobals g = some (some (.ref f))) (hf : isDef K f = true) (hg : cenv.globals = mainGlobals) (hk : cenv.scope.kind = .function) (hx : cenv.kindOf g = some .globalImplicit)
    (ht : backTo pos (starEach args cenv) = (false, t1) :: tr)
    (h : wpAny (model prog w) A (spliced ((false, t1) :: tr)) (fun vs s₁ => (∃ m', Fr h₀ L s₁.heap m') ∧ wpAny (model prog w) A (call (.ref f) vs) Q E s₁) E s) (hd : (g == ("__debug__" : Str)) = false) :
    wpAny (model prog w) A (eval (.Call (.Name g pg) args [] pos) cenv) Q E s := by
  refine Call_Name ht (name_K F X T e hg hk hx ?_ hd)
  obtain ⟨o, fd, ho, hfd⟩ : ∃ o fd, K.lookup f = some o ∧ o.data = .func fd := by
    unfold isDef at hf
    cases hq : K.lookup f with
    | none => simp [hq] at hf
    | some o =>
      cases hd : o.data with
      | func fd => exact ⟨o, fd, rfl, hd⟩
      | _ => simp [hq, hd] at hf
  refine callWith_function (o := o) (fd := fd) (evalArgs_plain (wpAny_mono h (fun vs s₁ h₁ => ?_) fun _ _ e => e))
  obtain ⟨⟨m', F'⟩, h₁⟩ := h₁
  exact ⟨⟨(X.keeps F'.keep) _ _ ho, hfd⟩, h₁⟩
/-- the same of a builtin -/
theorem call_builtin {K : Frag} {mg mb : Str → Option Value} {p : Program} {loose : List Str} {mean : ExcName → Option Value} {g : Str} {pg pos : Pos} {args : List Expr} {t1 : Sem Value} {tr : List (Bool × Sem Value)} {id : String}
    (F : Fr h₀ L s.heap m) (X : K.In h₀) (T : Top p loose mean mg mb h₀) (e : nsIn K mainGlobals g = some none) (hv : bootBuiltins g = some (.builtin id)) (hn : g ≠ "__name__") (hg : cenv.globals = mainGlobals) (hb : cenv.builtins = builtinsNs) (hk : cenv.scope.kind = .function) (hx : cenv.kindOf g = some .globalImplicit)
    (ht : backTo pos (starEach args cenv) = (false, t1) :: tr) (hpl : tr.any (·.1) = false)
    (h : wpAny (model prog w) A (spliced ((false, t1) :: tr)) (fun vs s₁ => wpAny (model prog w) A (call (.builtin id) vs) Q E s₁) E s) (hd : (g == ("__debug__" : Str)) = false) :
    wpAny (model prog w) A (eval (.Call (.Name g pg) args [] pos) cenv) Q E s := by
  refine Call_Name ht (name_B F X T e hv hn hg hb hk hx ?_ hd)
  exact Calls.callWith_builtin (by rw [List.any_cons, hpl]; rfl) (Calls.evalArgs_plain h)
/-- the same of a type -/
theorem call_typ {K : Frag} {mg mb : Str → Option Value} {p : Program} {loose : List Str} {mean : ExcName → Option Value} {g : Str} {pg pos : Pos} {args : List Expr} {t1 : Sem Value} {tr : List (Bool × Sem Value)} {id : String}
    (F : Fr h₀ L s.heap m) (X : K.In h₀) (T : Top p loose mean mg mb h₀) (e : nsIn K mainGlobals g = some none) (hv : bootBuiltins g = some (.type id)) (hn : g ≠ "__name__") (hg : cenv.globals = mainGlobals) (hb : cenv.builtins = builtinsNs) (hk : cenv.scope.kind = .function) (hx : cenv.kindOf g = some .globalImplicit)
    (ht : backTo pos (starEach args cenv) = (false, t1) :: tr) (hpl : tr.any (·.1) = false)
    (h : wpAny (model prog w) A (spliced ((false, t1) :: tr)) (fun vs s₁ => wpAny (model prog w) A (call (.type id) vs) Q E s₁) E s) (hd : (g == ("__debug__" : Str)) = false) :
    wpAny (model prog w) A (eval (.Call (.Name g pg) args [] pos) cenv) Q E s := by
  refine Call_Name ht (name_B F X T e hv hn hg hb hk hx ?_ hd)
  exact PyProof.Rows.callWith_type (by rw [List.any_cons, hpl]; rfl) (Calls.evalArgs_plain h)
theorem sp1 {t : Sem Value} {Q : List Value → Shared → Prop} (h : wpAny (model prog w) A t (fun v s₁ => Q [v] s₁) E s) : wpAny (model prog w) A (spliced [(false, t)]) Q E s :=
  Calls.spliced_cons (wpAny_mono h (fun _ _ h1 => Calls.spliced_nil h1) fun _ _ e => e)
theorem sp2 {t t' : Sem Value} {Q : List Value → Shared → Prop} (h : wpAny (model prog w) A t (fun v s₁ => wpAny (model prog w) A t' (fun v' s₂ => Q [v, v'] s₂) E s₁) E s) : wpAny (model prog w) A (spliced [(false, t), (false, t')]) Q E s :=
  Calls.spliced_cons (wpAny_mono h (fun _ _ h1 => sp1 h1) fun _ _ e => e)
theorem sp3 {t t' t'' : Sem Value} {Q : List Value → Shared → Prop} (h : wpAny (model prog w) A t (fun v s₁ => wpAny (model prog w) A t' (fun v' s₂ => wpAny (model prog w) A t'' (fun v'' s₃ => Q [v, v', v''] s₃) E s₂) E s₁) E s) : wpAny (model prog w) A (spliced [(false, t), (false, t'), (false, t'')]) Q E s :=
  Calls.spliced_cons (wpAny_mono h (fun _ _ h1 => sp2 h1) fun _ _ e => e)
end
section
variable {w : World} {mean : ExcName → Option Value} {mg mb : Str → Option Value} {dp un : Nat} {gd : Option (List Code)} {cn : Str} {ns : List (Str × NameKind)} {ig ic : Bool} {mo : List (Str × Const)} {a : Addr} {ccd : Value} {cl : List (Str × Addr)} {outer : List Env} {A₀ : Around} {base h₀ : Heap} {L : Addr} {m : Str → Option Value} {led tg : List (Addr × Obj)} {s : Shared} {Q E : Value → Shared → Prop} {cenv : Env} {p1 p2 p3 : Pos}
theorem elt_sign {x : Int} {t : Tok} (B : Below A₀ base outer h₀) (F : Fr h₀ L s.heap m) (X : (Mine.K1 w.params).In h₀) (N : News h₀ L s.heap led) (T : Top Mine.q1 (looseW Mine.q1 lz) mean mg mb h₀) (hd : dp + 20 < recursionLimit) (hu : un + 100 < cLine)
    (hm : ∀ p ∈ tg, p ∈ led) (ht : Tgt cenv (Str.ofString "x") tg (some (.int x t))) (hg : cenv.globals = mainGlobals) (hk : cenv.scope.kind = .function) (hx : cenv.kindOf (Str.ofString "_law_sign") = some .globalImplicit)
    (h : ∀ c t' h' tk', c ≠ 92 → c < 256 → Fr h₀ L h' m → News h₀ L h' led → Q (.str (mkS [c]) t') { s with heap := h', toks := tk' }) :
    wpAny (model PySem.Challenge.rw_op0238_01.row.prog w) (ktrTop dp un gd cn ⟨.function, ns, ig, ic, mo⟩ L a ccd cl outer) (eval (.Call (.Name (Str.ofString "_law_sign") p1) [.Name (Str.ofString "x") p2] [] p3) cenv) Q E s := by
  refine call_named (f := 795) F X T (by kernel_rfl) (by kernel_rfl) hg hk hx rfl (sp1 (nameT N hm ht hk ⟨⟨m, F⟩, ?_⟩ (by decide))) (by decide)
  refine does_use (sign_ct w x t) B F X N T trivial hd hu ?_
  rintro r nw' h' tk' F' N' ⟨rfl, c, t', rfl, h1, h2⟩
  exact h c t' h' tk' h1 h2 F' N'
end
end Elt1_
section Bs_
open PySem PySem.W PyProof.Rows PySem.Calls PySem.Spec

set_option maxRecDepth 100000
set_option maxHeartbeats 4000000

section
variable {prog : Program} {w : World} {A₀ A : Around} {s : Shared} {base h₀ : Heap} {outer : List Env} {L : Addr} {m : Str → Option Value} {env : Env} {news : List (Addr × Obj)} {K : Frag} {p : Program} {loose : List Str} {mean : ExcName → Option Value} {mg mb : Str → Option Value}
    {R : Result → Shared → Prop} {name qual : Str} {params : Arguments} {body : List Stmt} {scope : Scope} {dV kV doc pm cdv ct oc : Value} {an od : Option Addr} {osl : Array (Option Value)} {f : Addr} {args : Args} {binds : List (Str × Value)}
/-- a def that is called on the clean stack -/
theorem code_cl (B : Below A₀ base outer h₀) (F : Fr h₀ L s.heap m) (X₀ : K.In h₀) (N : News h₀ L s.heap news) (T : Top p loose mean mg mb h₀) (hA : A.frames = some (env :: outer)) (hf : env.frame = some L) (hke : env.scope.kind = .function)
    (ho : K.lookup f = some ⟨oc, od, .func (fnOf name qual params body scope dV kV doc pm an cdv ct), osl⟩) (hcd : codeIn K cdv qual = true) (hroom : A.depth < recursionLimit)
    (hbind : BindsTo s (fnOf name qual params body scope dV kV doc pm an cdv ct) args binds) (hloc : ∀ y ∈ binds, scope.names.lookup y.1 = some .local)
    (h : ∀ g L' h₁, Fr h₀ L g m → Fr g L' h₁ (fun y => binds.reverse.lookup y) → News g L' h₁ news → Below A base (env :: outer) g → K.In g → Top p loose mean mg mb g →
      wpCl (model prog w) (A.deeper (envOf qual scope L' f cdv)) (execs body (envOf qual scope L' f cdv))
        (fun fl s' => LeaveK h₀ L m g R (match fl with | .ret v => v | _ => .none) s') (fun _ _ => False) { s with heap := h₁, toks := s.toks + binds.length })
    (hco : scope.isCoroutine = false) (hgen : scope.isGenerator = false) (hk : scope.kind = .function)
    (hcell : ∀ x ∈ scope.names, x.2 ≠ .cell) : codeCl (model prog w) A (.call (.ref f) args) R s := by
  obtain ⟨FG, BG, st, lv⟩ := groundX (R := R) B F N hA hf hke
  have X := X₀.keeps F.keep
  refine codeCl_call_function (fd := fnOf name qual params body scope dV kV doc pm an cdv ct) hroom (X _ _ ho) rfl hco hgen rfl (codeRec_of X hcd) (hbind _ _ _ _ ?_)
  refine wpAny_newFunctionEnv hcell hloc (fun h₁ hns hsb => ⟨(T.nolimit.keeps F.keep).fresh _ hsb, codeCl_func ?_⟩) hk
  have hk₁ : ∀ b o, s.heap.get? b = some o → h₁.get? b = some o := fun b o e => hsb.extBut b o (Nat.ne_of_lt (Heap.lt_size e)) (Heap.get?_push_of_some _ e)
  exact wpCl_mono (h _ s.heap.objs.size h₁ FG ⟨hns, fun b o e => hk₁ b o (of_hideAll _ e), Nat.le_of_eq (hideAll_size _ _)⟩
    (fun p hp => ⟨hk₁ _ _ (N p hp).1, Nat.ne_of_lt (Heap.lt_size (N p hp).1), hideAll_none _ (List.mem_map_of_mem hp)⟩) BG (X₀.keeps st) (T.keeps st)) (fun fl s' hl => lv _ _ hl) fun _ _ y => y.elim
end
end Bs_
section Bs2_
set_option maxRecDepth 100000
set_option maxHeartbeats 4000000

/-- the swapped part so far -/
noncomputable def bsPart (bs : List UInt8) (j : Nat) : Array UInt8 := (List.replicate (bs.length - j) 0 ++ (bs.take j).reverse).toArray
theorem bsPart_size (bs : List UInt8) (j : Nat) (h : j ≤ bs.length) : (bsPart bs j).size = bs.length := by
  simp [bsPart]; omega
theorem bsPart_zero (bs : List UInt8) : bsPart bs 0 = Array.replicate bs.length 0 := by
  simp [bsPart]
theorem bsPart_all (bs : List UInt8) : bsPart bs bs.length = bs.reverse.toArray := by
  simp [bsPart]
theorem bsPart_set (bs : List UInt8) (j : Nat) (h : j < bs.length) : (bsPart bs j).setIfInBounds (bs.length - 1 - j) (bs.getD j 0) = bsPart bs (j + 1) := by
  unfold bsPart
  rw [List.setIfInBounds_toArray]
  congr 1
  have e1 : bs.length - j = (bs.length - 1 - j) + 1 := by omega
  have e2 : bs.length - (j + 1) = bs.length - 1 - j := by omega
  rw [e1, e2, List.replicate_succ', List.append_assoc, List.set_append_right _ _ (by simp)]
  simp only [List.length_replicate, Nat.sub_self, List.singleton_append, List.set_cons_zero]
  rw [List.take_add_one, List.reverse_append, List.getElem?_eq_getElem h, List.getD_eq_getElem?_getD, List.getElem?_eq_getElem h]
  rfl
noncomputable abbrev bsVal (x : String) (m : Str → Option Value) : Option Value := m (Str.ofString x)
noncomputable def BsM (m : Str → Option Value) (bs : List UInt8) (bt wt : Tok) (a : Addr) : Prop :=
  m (Str.ofString "data") = some (.bytes bs.toArray bt) ∧ m (Str.ofString "width") = some (.int (bs.length : Int) wt) ∧ m (Str.ofString "swapped_data") = some (.ref a)
theorem BsM.put {m : Str → Option Value} {bs : List UInt8} {bt wt : Tok} {a : Addr} (h : BsM m bs bt wt a) {x : Str} {v : Value} (h1 : Str.ofString "data" ≠ x) (h2 : Str.ofString "width" ≠ x) (h3 : Str.ofString "swapped_data" ≠ x) : BsM (fun y => if y = x then some v else m y) bs bt wt a :=
  ⟨(if_neg h1).trans h.1, (if_neg h2).trans h.2.1, (if_neg h3).trans h.2.2⟩
noncomputable abbrev bsEnv (L : Addr) : Env := envOf (S "_byteswap") (scpOf (stA 45)) L 788 (.ref 787)
section
variable {w : World} {mean : ExcName → Option Value} {mg mb : Str → Option Value} {A : Around} {h₀ : Heap} {L : Addr} {m : Str → Option Value} {news : List (Addr × Obj)} {s : Shared} {E : Value → Shared → Prop} {bs : List UInt8} {bt wt : Tok} {a : Addr}
/-- the loops -/
theorem bs_loops {S1 : Stmt} {sc : Scope} {Q : Flow → Shared → Prop} (hS : (bodOf (stA 45))[1]? = some S1) (hsc : scpOf (stA 45) = sc) (hh : A.handled = none) (F : Fr h₀ L s.heap m) (X : (K1 w.params).In h₀) (T : Top q1 (looseW q1 lz) mean mg mb h₀) (N : News h₀ L s.heap ((a, baObj (bsPart bs 0)) :: news)) (hna : ∀ p ∈ news, p.1 ≠ a) (hm : BsM m bs bt wt a)
    (hl0 : 0 < bs.length) (hl : bs.length ≤ 10)
    (h : ∀ m' rest h' tk', BsM m' bs bt wt a → Fr h₀ L h' m' → News h₀ L h' ((a, baObj (bsPart bs bs.length)) :: rest) → (∀ p ∈ news, p ∈ rest) → Q .next { s with heap := h', toks := tk' }) :
    wpAny (model PySem.Challenge.rw_op0238_01.row.prog w) A (exec S1 (envOf (S "_byteswap") sc L 788 (.ref 787))) Q E s := by
  rw [show (bodOf (stA 45))[1]? = some _ from rfl] at hS
  cases hS
  rw [show scpOf (stA 45) = ⟨_, _, _, _, _⟩ from rfl] at hsc
  subst hsc
  obtain ⟨hh0, gg, dd, tk, os⟩ := s
  refine for_go (h₀ := h₀) rfl rfl (fun _ => by with_unfolding_all rfl) ?_
  refine call_typ (id := "range") (t1 := eval _ _) (tr := [(false, eval _ _), (false, eval _ _)]) F X T (by kernel_rfl) (by kernel_rfl) (by decide) rfl rfl rfl rfl rfl rfl (sp3 (wpAny_Constant_int ?_)) (by decide)
  refine call_builtin (id := "len") (t1 := eval _ _) (tr := []) F X T (by kernel_rfl) (by kernel_rfl) (by decide) rfl rfl rfl rfl rfl rfl (sp1 (nameX_L F hm.1 ?_)) (by decide)
  refine len_bytes (by simp; omega) ?_
  refine nameX_L F hm.2.1 ?_
  have hsz : bs.toArray.size = bs.length := rfl
  rw [hsz]
  refine call_range_3 (by omega) ?_ (Or.inl (PyProof.noPylong_small (by omega)))
  have F1 := F.push ({ cls := .type "range", data := .fields #[.int 0 tk, .int (bs.length : Int) (tk + 1 + 1), .int (bs.length : Int) wt] } : Obj)
  have N1 := news_sub (N.push F ({ cls := .type "range", data := .fields #[.int 0 tk, .int (bs.length : Int) (tk + 1 + 1), .int (bs.length : Int) wt] } : Obj)) (fun p hp => List.mem_cons_of_mem _ hp)
  have hrs : Builtin.Range.rangeSize 0 (bs.length : Int) (bs.length : Int) = ((1 : Nat) : Int) := by
    unfold Builtin.Range.rangeSize
    rw [if_pos (by omega), if_pos (by omega), Int.ediv_eq_zero_of_lt (by omega) (by omega)]
    rfl
  refine for_range (env := envOf (S "_byteswap") _ L 788 (.ref 787)) hh F1 N1 (IsRange.new _ _ _ _ _ _ _) ?_ hrs
    (J := fun i m' nw => BsM m' bs bt wt a ∧ ∃ rest, nw = (a, baObj (bsPart bs (if i = 0 then 0 else bs.length))) :: rest ∧ (∀ p ∈ rest, p.1 ≠ a) ∧ ∀ p ∈ news, p ∈ rest) ⟨hm, news, rfl, hna, fun _ h => h⟩ ?_ ?_
  · unfold Builtin.Range.small
    rw [hrs]
    simp only [Builtin.Range.rangeFitsLong, Bool.and_eq_true, Bool.or_eq_true, decide_eq_true_eq, beq_iff_eq]
    rw [if_pos (by omega)]
    simp only [Bool.and_eq_true, decide_eq_true_eq]
    omega
  · intro i v m1 nw I oI s1 E' hi hP hJ F2 N2 hI
    obtain ⟨t, rfl⟩ := hP
    obtain ⟨hm1, rest, rfl, hr1, hr2⟩ := hJ
    have hi0 : i = 0 := by omega
    subst hi0
    have hv : (0 : Int) + ((0 : Nat) : Int) * (bs.length : Int) = 0 := by simp
    rw [hv] at F2
    obtain ⟨hh1, gg1, dd1, tk1, os1⟩ := s1
    have hm2 := hm1.put (x := Str.ofString "i") (v := .int 0 t) (by decide) (by decide) (by decide)
    refine wpAny_execs_cons ?_
    refine for_go (h₀ := h₀) rfl rfl (fun _ => by with_unfolding_all rfl) ?_
    refine call_typ (id := "range") (t1 := eval _ _) (tr := []) F2 X T (by kernel_rfl) (by kernel_rfl) (by decide) rfl rfl rfl rfl rfl rfl (sp1 (nameX_L F2 hm2.2.1 ?_)) (by decide)
    refine call_range_1 ?_
    have F3 := F2.push ({ cls := .type "range", data := .fields #[.int 0 tk1, .int (bs.length : Int) wt, .int 1 (tk1 + 1)] } : Obj)
    have N3 := news_sub (N2.push F2 ({ cls := .type "range", data := .fields #[.int 0 tk1, .int (bs.length : Int) wt, .int 1 (tk1 + 1)] } : Obj)) (fun p hp => List.mem_cons_of_mem _ hp)
    have hrs1 : Builtin.Range.rangeSize 0 (bs.length : Int) 1 = ((bs.length : Nat) : Int) := by
      rw [rangeSize_one, if_pos (by omega)]; omega
    have N3' : News h₀ L _ ((a, baObj (bsPart bs 0)) :: (I, oI) :: rest) := news_sub N3 (fun p hp => by
      rcases List.mem_cons.mp hp with rfl | hp
      · exact .tail _ (.head _)
      · rcases List.mem_cons.mp hp with rfl | hp
        · exact .head _
        · exact .tail _ (.tail _ hp))
    have hIa : I ≠ a := fun z => hI _ (.head _) z.symm
    refine for_range (env := envOf (S "_byteswap") _ L 788 (.ref 787)) hh F3 N3' (IsRange.new _ _ _ _ _ _ _) (small_one (by omega) (by omega) (by omega) (by omega)) hrs1
      (J := fun j m' nw => BsM m' bs bt wt a ∧ m' (Str.ofString "i") = some (.int 0 t) ∧ ∃ rest', nw = (a, baObj (bsPart bs j)) :: rest' ∧ (∀ p ∈ rest', p.1 ≠ a) ∧ ∀ p ∈ (I, oI) :: rest, p ∈ rest') ⟨hm2, rfl, (I, oI) :: rest, rfl, (fun p hp => by
        rcases List.mem_cons.mp hp with rfl | hp
        · exact hIa
        · exact hr1 p hp), fun _ h => h⟩ ?_ ?_
    · intro j v m2 nw I2 oI2 s2 E2 hj hP2 hJ2 F4 N4 hI2
      obtain ⟨t2, rfl⟩ := hP2
      obtain ⟨hm3, hmi, rest', rfl, hq1, hq2⟩ := hJ2
      have hv2 : (0 : Int) + (j : Int) * 1 = (j : Int) := by omega
      rw [hv2] at F4
      have hm4 := hm3.put (x := Str.ofString "j") (v := .int (j : Int) t2) (by decide) (by decide) (by decide)
      have hmi4 : (fun y => if y = Str.ofString "j" then some (Value.int (j : Int) t2) else m2 y) (Str.ofString "i") = some (.int 0 t) := hmi
      have hmj4 : (fun y => if y = Str.ofString "j" then some (Value.int (j : Int) t2) else m2 y) (Str.ofString "j") = some (.int (j : Int) t2) := if_pos rfl
      obtain ⟨hh2, gg2, dd2, tk2, os2⟩ := s2
      refine wpAny_execs_cons (wpAny_Assign_Subscript ?_ (by with_unfolding_all rfl))
      refine Subscript_ (nameX_L F4 hm4.1 (wpAny_BinOp (nameX_L F4 hmi4 (nameX_L F4 hmj4 (PySem.P.add_int ?_)))))
      refine bytes_item_K (x := bs) (k := ((bs.getD j 0).toNat : Int)) (by omega) (by omega) (by omega) (by rw [Int.zero_add, Int.toNat_natCast]) ?_
      refine nameX_L F4 hm4.2.2 ?_
      refine wpAny_BinOp (wpAny_BinOp (wpAny_BinOp (nameX_L F4 hmi4 (nameX_L F4 hm4.2.1 (PySem.P.add_int (wpAny_Constant_int (PySem.P.sub_int (nameX_L F4 hmj4 (PySem.P.sub_int ?_)))))))))
      have N4' : News h₀ L hh2 ((a, baObj (bsPart bs j)) :: (I2, oI2) :: rest') := news_sub N4 (fun p hp => by
        rcases List.mem_cons.mp hp with rfl | hp
        · exact .tail _ (.head _)
        · rcases List.mem_cons.mp hp with rfl | hp
          · exact .head _
          · exact .tail _ (.tail _ hp))
      have hI2a : I2 ≠ a := fun z => hI2 _ (.head _) z.symm
      have hb := (bs.getD j 0).toNat_lt
      refine ba_setItem F4 N4' (fun p hp => ?_) (by omega) (by rw [bsPart_size _ _ (by omega)]; omega) (by rw [bsPart_size _ _ (by omega)]; omega) (by omega) (by omega) fun h5 F5 N5 => ?_
      · rcases List.mem_cons.mp hp with rfl | hp
        · exact hI2a
        · exact hq1 p hp
      refine wpAny_execs_nil ?_
      have e1 : (0 + (bs.length : Int) - 1 - (j : Int)).toNat = bs.length - 1 - j := by omega
      have e2 : ((bs.getD j 0).toNat : Int).toNat.toUInt8 = bs.getD j 0 := by rw [Int.toNat_natCast]; simp
      rw [e1, e2, bsPart_set bs j hj] at N5
      refine ⟨rfl, _, (a, baObj (bsPart bs (j + 1))) :: rest', h5, _, rfl, F5, news_sub N5 (fun p hp => ?_), fun p hp => ?_, hm4, hmi4, rest', rfl, hq1, hq2⟩
      · rcases List.mem_cons.mp hp with rfl | hp
        · exact .tail _ (.head _)
        · rcases List.mem_cons.mp hp with rfl | hp
          · exact .head _
          · exact .tail _ (.tail _ hp)
      · rcases List.mem_cons.mp hp with rfl | hp
        · exact Ne.symm hI2a
        · exact hI2 p (.tail _ hp)
    · intro m' nw' h' tk' hJ F' N'
      obtain ⟨hm3, hmi, rest', rfl, hq1, hq2⟩ := hJ
      refine wpAny_execs_nil ?_
      refine ⟨rfl, m', (a, baObj (bsPart bs bs.length)) :: rest'.filter (fun p => decide (p.1 ≠ I)), h', tk', rfl, F', news_sub N' (fun p hp => ?_), fun p hp => ?_, hm3, rest'.filter (fun p => decide (p.1 ≠ I)), rfl, fun p hp => hq1 p (List.mem_filter.mp hp).1, fun p hp => List.mem_filter.mpr ⟨hq2 p (.tail _ (hr2 p hp)), decide_eq_true (hI p (.tail _ (hr2 p hp)))⟩⟩
      · rcases List.mem_cons.mp hp with rfl | hp
        · exact .tail _ (hq2 _ (.head _))
        · rcases List.mem_cons.mp hp with rfl | hp
          · exact .head _
          · exact .tail _ (List.mem_filter.mp hp).1
      · rcases List.mem_cons.mp hp with rfl | hp
        · exact Ne.symm hIa
        · exact of_decide_eq_true (List.mem_filter.mp hp).2
  · intro m' nw' h' tk' hJ F' N'
    obtain ⟨hm1, rest, rfl, hr1, hr2⟩ := hJ
    exact h m' rest h' tk' hm1 F' N' hr2
end
end Bs2_
section Bs3_
set_option maxRecDepth 100000
set_option maxHeartbeats 4000000

section
variable {prog : Program} {w : World} {A : Around} {s : Shared} {E : Value → Shared → Prop} {env : Env} {pos : Pos}
theorem wpCl_Call_Name {x : Str} {p pos : Pos} {args : List Expr} {trees : List (Bool × Sem Value)} {Q : Value → Shared → Prop} (ht : backTo pos (starEach args env) = trees)
    (h : wpAny (model prog w) A (eval (.Name x p) env) (fun f s₁ => wpCl (model prog w) A (callWith pos f [] trees []) Q E s₁) E s) :
    wpCl (model prog w) A (eval (.Call (.Name x p) args [] pos) env) Q E s := by
  subst ht
  exact wpCl_bind (wpCl_any h)
theorem wpCl_callWith_type {T : String} {args : List (Bool × Sem Value)} {Q : Value → Shared → Prop} (hplain : args.any (·.1) = false)
    (h : wpAny (model prog w) A (evalArgs (.type T) true args []) (fun a s₁ => wpCl (model prog w) A (call (.type T) ([] ++ a.pos) a.kw) Q E s₁) E s) :
    wpCl (model prog w) A (callWith pos (.type T) [] args []) Q E s := by
  unfold callWith
  refine wpCl_bind (wpCl_holding (wpCl_any (wpAny_mono h (fun a s₁ h₁ => wpCl_bind (wpCl_any (wpAny_standAt ?_))) fun _ _ x => x)))
  simp only [hplain, List.any_nil, Bool.or_false]
  refine wpCl_bind (wpCl_any (wpAny_pure ?_))
  exact wpCl_bind (wpCl_mono h₁ (fun r s₂ hr => wpCl_any (wpAny_bind (wpAny_holding (wpAny_point (wpAny_pure hr))))) fun _ _ x => x)
theorem wpCl_callWith_function {a : Addr} {o : Obj} {fd : FuncData} {args : List (Bool × Sem Value)} {Q : Value → Shared → Prop}
    (h : wpAny (model prog w) A (evalArgs (.ref a) true args []) (fun x s₁ => (s₁.heap.get? a = some o ∧ o.data = .func fd) ∧ wpCl (model prog w) A (call (.ref a) ([] ++ x.pos) x.kw) Q E s₁) E s) :
    wpCl (model prog w) A (callWith pos (.ref a) [] args []) Q E s := by
  unfold callWith
  refine wpCl_bind (wpCl_holding (wpCl_any (wpAny_mono h (fun x s₁ h₁ => wpCl_bind (wpCl_any (wpAny_standAt ?_))) fun _ _ x => x)))
  have tail : ∀ {t : Sem Value}, wpCl (model prog w) A t Q E s₁ → wpCl (model prog w) A (t >>= fun r => holding [r] point >>= fun _ => pure r) Q E s₁ :=
    fun ht => wpCl_bind (wpCl_mono ht (fun r s₂ hr => wpCl_any (wpAny_bind (wpAny_holding (wpAny_point (wpAny_pure hr))))) fun _ _ x => x)
  cases hs : args.any (·.1) <;> simp only [List.any_nil, Bool.or_false] <;>
    refine wpCl_bind (m := keeperOf (.ref a)) ?_ <;> unfold keeperOf <;>
    refine wpCl_any (wpAny_bind (wpAny_load h₁.1.1 ?_)) <;> rw [h₁.1.2] <;> refine wpAny_pure ?_
  · dsimp only
    by_cases hl : args.length + 2 * ([] : List (Option Str × Sem Value)).length > 30
    · rw [if_pos hl]; exact tail h₁.2
    · rw [if_neg hl]; exact tail (t := callMarked _ _ _ _) (by unfold callMarked; exact wpCl_keep h₁.2)
  · dsimp only
    exact tail (t := callMarked _ _ _ _) (by unfold callMarked; exact wpCl_keep h₁.2)
theorem wpCl_Assign_Name {x : Str} {pos' pos : Pos} {value : Expr} {Q : Flow → Shared → Prop}
    (h : wpCl (model prog w) A (eval value env) (fun v s₁ => wpAny (model prog w) A (storeName env x v) (fun _ s₂ => Q .next s₂) E s₁) E s)
    (hs : swapsWith value (some (.Name x pos')) pos.line env = pure false) :
    wpCl (model prog w) A (exec (.Assign [.Name x pos'] value pos) env) Q E s := by
  rw [exec_Assign_Name env x pos' value pos hs]
  refine wpCl_bind (wpCl_any (wpAny_standAt ?_))
  refine wpCl_bind (wpCl_mono h (fun v s₁ h₁ => wpCl_any (wpAny_bind (wpAny_standAt (wpAny_bind (wpAny_bindName (wpAny_mono h₁ (fun _ _ q => wpAny_pure q) fun _ _ e => e)))))) fun _ _ e => e)
end
end Bs3_
section Bs4_
set_option maxRecDepth 100000
set_option maxHeartbeats 4000000

section
variable {w : World} {mean : ExcName → Option Value} {mg mb : Str → Option Value} {A : Around} {h₀ : Heap} {L : Addr} {m : Str → Option Value} {news : List (Addr × Obj)} {s : Shared} {E : Value → Shared → Prop} {bs : List UInt8} {bt wt : Tok} {a : Addr}
theorem bs_first {S0 : Stmt} {sc : Scope} {Q : Flow → Shared → Prop} (hS : (bodOf (stA 45))[0]? = some S0) (hsc : scpOf (stA 45) = sc) (F : Fr h₀ L s.heap m) (X : (K1 w.params).In h₀) (T : Top q1 (looseW q1 lz) mean mg mb h₀) (N : News h₀ L s.heap news)
    (hd : m (Str.ofString "data") = some (.bytes bs.toArray bt)) (hw : m (Str.ofString "width") = some (.int (bs.length : Int) wt)) (hl : bs.length ≤ 10)
    (h : ∀ a m' h' tk', BsM m' bs bt wt a → Fr h₀ L h' m' → News h₀ L h' ((a, baObj (bsPart bs 0)) :: news) → (∀ p ∈ news, p.1 ≠ a) → Q .next { s with heap := h', toks := tk' }) :
    wpCl (model PySem.Challenge.rw_op0238_01.row.prog w) A (exec S0 (envOf (S "_byteswap") sc L 788 (.ref 787))) Q E s := by
  rw [show (bodOf (stA 45))[0]? = some _ from rfl] at hS
  cases hS
  rw [show scpOf (stA 45) = ⟨_, _, _, _, _⟩ from rfl] at hsc
  subst hsc
  obtain ⟨hh0, gg, dd, tk, os⟩ := s
  refine wpCl_Assign_Name ?_ (by with_unfolding_all rfl)
  refine wpCl_Call_Name (trees := [(false, eval _ _)]) rfl (name_B F X T (by kernel_rfl) (v := .type "bytearray") (by kernel_rfl) (by decide) rfl rfl rfl rfl ?_ (by decide))
  refine wpCl_callWith_type rfl (evalArgs_plain (sp1 ?_))
  refine call_builtin (id := "len") (t1 := eval _ _) (tr := []) F X T (by kernel_rfl) (by kernel_rfl) (by decide) rfl rfl rfl rfl rfl rfl (sp1 (nameX_L F hd ?_)) (by decide)
  refine len_bytes (by simp; omega) ?_
  refine ba_make F N (k := (bs.toArray.size : Int)) (by omega) (by simp; omega) fun a h' F' N' hlt => ?_
  refine storeX_L F' N' (fun h2 F2 N2 => ?_) rfl rfl
  have e : (bs.toArray.size : Int).toNat = bs.length := by simp
  rw [e, ← bsPart_zero] at N2
  exact h a (fun y => if y = Str.ofString "swapped_data" then some (.ref a) else m y) h2 _ ⟨hd, hw, if_pos rfl⟩ F2 N2 (fun p hp => Nat.ne_of_lt (hlt p hp))
theorem bs_last {S2 : Stmt} {sc : Scope} {b : Array UInt8} {Q : Flow → Shared → Prop} (hS : (bodOf (stA 45))[2]? = some S2) (hsc : scpOf (stA 45) = sc) (F : Fr h₀ L s.heap m) (X : (K1 w.params).In h₀) (T : Top q1 (looseW q1 lz) mean mg mb h₀) (hg : s.heap.get? a = some (baObj b)) (hb : b.size ≤ 1000)
    (hm : m (Str.ofString "swapped_data") = some (.ref a)) (h : ∀ t k, Q (.ret (.bytes b t)) { s with toks := k }) :
    wpAny (model PySem.Challenge.rw_op0238_01.row.prog w) A (exec S2 (envOf (S "_byteswap") sc L 788 (.ref 787))) Q E s := by
  rw [show (bodOf (stA 45))[2]? = some _ from rfl] at hS
  cases hS
  rw [show scpOf (stA 45) = ⟨_, _, _, _, _⟩ from rfl] at hsc
  subst hsc
  refine wpAny_Return_some ?_
  refine call_typ (id := "bytes") (t1 := eval _ _) (tr := []) F X T (by kernel_rfl) (by kernel_rfl) (by decide) rfl rfl rfl rfl rfl rfl (sp1 (nameX_L F hm ?_)) (by decide)
  exact ba_bytes hg hb h
theorem bs_ct {A₀ : Around} {base : Heap} {env : Env} {dp un : Nat} {gd : Option (List Code)} {Q : Value → Shared → Prop} (B : Below A₀ base [] h₀) (F : Fr h₀ L s.heap m) (X : (K1 w.params).In h₀) (N : News h₀ L s.heap news) (T : Top q1 (looseW q1 lz) mean mg mb h₀) (hf : env.frame = some L) (hke : env.scope.kind = .function)
    (hl0 : 0 < bs.length) (hl : bs.length ≤ 10) (hd : dp + 50 < recursionLimit)
    (h : ∀ t h' tk', Fr h₀ L h' m → News h₀ L h' news → Q (.bytes bs.reverse.toArray t) { s with heap := h', toks := tk' }) :
    wpCl (model PySem.Challenge.rw_op0238_01.row.prog w) (lawA dp un gd env) (call (.ref 788) [.bytes bs.toArray bt, .int (bs.length : Int) wt]) Q E s := by
  w_on
  revert X
  k_fill
  intro X
  refine wpCl_call ?_
  refine' code_cl (body := bodOf (stA 45)) (scope := scpOf (stA 45)) (qual := S "_byteswap") (cdv := .ref 787) (binds := [(S "data", .bytes bs.toArray bt), (S "width", .int (bs.length : Int) wt)]) B F X N T rfl hf hke ?k6 ?k7 ?k8 ?k9 ?kB ?_ ?c2 ?c3 ?c4 ?c5
  case k6 => k_is
  case k7 => k_is
  case k8 => ktr_room
  case k9 => exact BindsTo.of_eq rfl
  case kB => exact locs rfl
  case c2 => exact rfl
  case c3 => exact rfl
  case c4 => exact rfl
  case c5 => decide
  intro g L' h1 FG F1 N1 B1 X1 T1
  obtain ⟨S0, S1, S2, hb⟩ : ∃ a b c, bodOf (stA 45) = [a, b, c] := ⟨_, _, _, rfl⟩
  rw [hb]
  refine wpCl_execs_cons (bs_first (by rw [hb]; rfl) rfl F1 X1 T1 N1 rfl rfl hl fun a m' h' tk' hm F2 N2 hna => ?_)
  refine wpCl_any (wpAny_execs_cons (bs_loops (by rw [hb]; rfl) rfl rfl F2 X1 T1 N2 hna hm hl0 hl fun m3 rest h3 tk3 hm3 F3 N3 hsub => ?_))
  refine wpAny_execs_cons (bs_last (by rw [hb]; rfl) rfl F3 X1 T1 (N3 _ (.head _)).1 (by rw [bsPart_size _ _ (Nat.le_refl _)]; omega) hm3.2.2 fun t k => ?_)
  refine ⟨L', m3, news, F3, news_sub N3 (fun p hp => .tail _ (hsub p hp)), fun F4 N4 => ?_⟩
  rw [bsPart_all]
  exact h t _ _ F4 N4
end
end Bs4_
section Rel_
set_option maxRecDepth 100000
set_option maxHeartbeats 4000000

/-- what is new in a ledger -/
noncomputable def NewIn (led led' l : List (Addr × Obj)) : Prop := ∀ p ∈ led', (∀ q ∈ led, q.1 ≠ p.1) → p ∈ l
/-- the items made so far, each told by the new part of the ledger -/
noncomputable def JR (Rel : Nat → Value → List (Addr × Obj) → Prop) (nw0 : List (Addr × Obj)) (i : Nat) (ys : List Value) (nw : List (Addr × Obj)) : Prop :=
  (∀ p ∈ nw0, p ∈ nw) ∧ ys.length = i ∧ ∀ k y, ys[k]? = some y → ∀ l, NewIn nw0 nw l → Rel k y l
section
variable {prog : Program} {w : World} {A : Around} {s : Shared} {h₀ : Heap} {L : Addr} {m : Str → Option Value} {env : Env} {x : Str} {scope : Scope} {cl : List (Str × Addr)} {elt : Expr} {n : Nat} {P : Nat → Value → Prop} {nw0 : List (Addr × Obj)} {Rel : Nat → Value → List (Addr × Obj) → Prop}
/-- an element, told for any ledger -/
noncomputable def EltOk (prog : Program) (w : World) (A : Around) (h₀ : Heap) (L : Addr) (m : Str → Option Value) (env : Env) (scope : Scope) (cl : List (Str × Addr)) (x : Str) (elt : Expr) (n : Nat) (P : Nat → Value → Prop) (nw0 : List (Addr × Obj)) (Rel : Nat → Value → List (Addr × Obj) → Prop) : Prop :=
  ∀ C cl' i tg v led (s : Shared) (Q E : Value → Shared → Prop), (cl' = cl ∨ ∃ c, cl' = (x, c) :: cl) → i < n → P i v → Tgt (cenvOf scope env C cl') x tg (some v) → (∀ p ∈ tg, p ∈ led) → (∀ p ∈ nw0, p ∈ led) → Fr h₀ L s.heap m → News h₀ L s.heap led →
    (∀ y led' h' tk', Fr h₀ L h' m → News h₀ L h' led' → (∀ p ∈ led, p ∈ led') → (∀ l, NewIn led led' l → Rel i y l) → Q y { s with heap := h', toks := tk' }) →
    wpAny (model prog w) A (eval elt (cenvOf scope env C cl')) Q E s
theorem rel_turn (h : EltOk prog w A h₀ L m env scope cl x elt n P nw0 Rel) : CmpTurn prog w A h₀ L m env scope cl x elt [] n P nw0 (JR Rel nw0) := by
  intro C cl' i ys nw sp tg v s₃ E' hcl hi hP hJ ht hsub hnw F3 N3 hd3
  refine tests_nil ?_
  rw [if_pos rfl]
  refine h C cl' i tg v (sp ++ nw) s₃ _ _ hcl hi hP ht (fun p hp => List.mem_append_left _ (hsub p hp)) (fun p hp => List.mem_append_right _ (hnw p hp)) F3 N3 ?_
  intro y led' h' tk' F' N' hs hr
  obtain ⟨j1, rfl, j3⟩ := hJ
  refine ⟨led'.filter (fun p => decide (p.1 ∉ sp.map (·.1))), h', tk', rfl, F', news_sub N' ?_, fun p hp => List.mem_filter.mpr ⟨hs p (List.mem_append_right _ hp), decide_eq_true (hd3 p hp)⟩, fun p hp => of_decide_eq_true (List.mem_filter.mp hp).2, ?_⟩
  · intro p hp
    rcases List.mem_append.mp hp with hp | hp
    · exact hs p (List.mem_append_left _ hp)
    · exact (List.mem_filter.mp hp).1
  · have sub : ∀ p ∈ nw, p ∈ led'.filter (fun p => decide (p.1 ∉ sp.map (·.1))) := fun p hp => List.mem_filter.mpr ⟨hs p (List.mem_append_right _ hp), decide_eq_true (hd3 p hp)⟩
    refine ⟨fun p hp => sub p (j1 p hp), by simp, fun k y' hk l hl => ?_⟩
    by_cases hki : k < ys.length
    · rw [List.getElem?_append_left hki] at hk
      exact j3 k y' hk l fun p hp hq => hl p (sub p hp) hq
    · have hk2 := hk
      rw [List.getElem?_append_right (by omega)] at hk2
      have : k = ys.length := by
        rcases Nat.lt_or_ge (k - ys.length) 1 with h1 | h1
        · omega
        · rw [List.getElem?_eq_none (by simpa using h1)] at hk2; cases hk2
      subst this
      simp at hk
      subst hk
      refine hr l fun p hp hq => hl p (List.mem_filter.mpr ⟨hp, decide_eq_true fun z => ?_⟩) fun q hq' => hq q (List.mem_append_right _ (hnw q hq'))
      obtain ⟨q, hq1, hq2⟩ := List.mem_map.mp z
      exact hq q (List.mem_append_left _ hq1) hq2
theorem rel_ret {Q : Value → Shared → Prop} (h : ∀ D ys c led' h' tk', Fr h₀ L h' m → News h₀ L h' ((D, lsObj ys c) :: led') → (∀ p ∈ nw0, p ∈ led') → (∀ p ∈ led', p.1 ≠ D) → (∀ p ∈ nw0, p.1 < D) → ys.length = n → (∀ k y, ys[k]? = some y → ∀ l, NewIn nw0 led' l → Rel k y l) → Q (.ref D) { s with heap := h', toks := tk' }) :
    CmpRet h₀ L m n nw0 (JR Rel nw0) Q s := by
  intro D ys c h' tk' nw hyl hJ F' N' hne hsub hlt
  exact h D ys c nw h' tk' F' N' hsub hne hlt hJ.2.1 hJ.2.2
/-- a list of told items -/
noncomputable def RelAll (Rel : Nat → Value → List (Addr × Obj) → Prop) (n : Nat) (v : Value) (l : List (Addr × Obj)) : Prop :=
  ∃ D ys c, v = .ref D ∧ (D, lsObj ys c) ∈ l ∧ ys.length = n ∧ ∀ k y, ys[k]? = some y → Rel k y l
theorem relAll_new {D : Addr} {ys : List Value} {c : Nat} {led led' : List (Addr × Obj)} (hlt : ∀ p ∈ led, p.1 < D) (hl : ys.length = n) (h : ∀ k y, ys[k]? = some y → ∀ l, NewIn led led' l → Rel k y l) : ∀ l, NewIn led ((D, lsObj ys c) :: led') l → RelAll Rel n (.ref D) l :=
  fun l hn => ⟨D, ys, c, rfl, hn _ (.head _) fun q hq => Nat.ne_of_lt (hlt q hq), hl, fun k y hk => h k y hk l fun p hp hq => hn p (.tail _ hp) hq⟩
/-- a name's value, whatever the ledger has gained -/
noncomputable def NameIs (M : Model) (A : Around) (h₀ : Heap) (L : Addr) (env : Env) (x : Str) (v : Value) (led0 : List (Addr × Obj)) : Prop :=
  ∀ (pos : Pos) (s : Shared) (led : List (Addr × Obj)) (Q E : Value → Shared → Prop), News h₀ L s.heap led → (∀ p ∈ led0, p ∈ led) → Q v s → wpAny M A (eval (.Name x pos) env) Q E s
theorem NameIs.tgt {M : Model} {tg : List (Addr × Obj)} {v : Value} (ht : Tgt env x tg (some v)) (hk : env.scope.kind = .function) (hd : (x == ("__debug__" : Str)) = false) : NameIs M A h₀ L env x v tg :=
  fun _ _ _ _ _ N hs h => nameT N hs ht hk h hd
theorem NameIs.cell {M : Model} {c : Addr} {o : Obj} {v : Value} {led0 : List (Addr × Obj)} (hk : env.scope.kind = .function) (hx : env.kindOf x = some .cell) (hc : env.cells.lookup x = some c) (hm : (c, o) ∈ led0) (ho : o.data = .cell (some v)) (hd : (x == ("__debug__" : Str)) = false) : NameIs M A h₀ L env x v led0 :=
  fun _ _ _ _ _ N hs h => wpAny_Name (wpAny_loadName_cell hk hx hc ⟨o, (N _ (hs _ hm)).1, ho⟩ h) hd
theorem NameIs.mono {M : Model} {v : Value} {l l' : List (Addr × Obj)} (h : NameIs M A h₀ L env x v l) (hs : ∀ p ∈ l, p ∈ l') : NameIs M A h₀ L env x v l' :=
  fun p s led Q E N h' q => h p s led Q E N (fun r hr => h' r (hs r hr)) q
end
end Rel_
section Rd_
set_option maxRecDepth 100000
set_option maxHeartbeats 4000000

noncomputable abbrev wdV : Option (List Nat) → Tok → Value
  | none, _ => .none
  | some l, t => .str (mkS l) t
noncomputable abbrev rdM (T : Str) (t1 : Tok) (W : Addr) (wv : Value) (kv : Value) (ev : Option Value) : Str → Option Value := fun y =>
  if y = Str.ofString "end" then ev else if y = Str.ofString "k" then some kv else if y = Str.ofString "word" then some wv else if y = Str.ofString "words" then some (.ref W) else if y = Str.ofString "text" then some (.str T t1) else none
theorem rdM_init {T : Str} {t1 : Tok} {W : Addr} {v1 v2 : Value} : (fun y => if y = Str.ofString "k" then some v1 else if y = Str.ofString "word" then some v2 else if y = Str.ofString "words" then some (.ref W) else List.lookup y [(Str.ofString "text", Value.str T t1)]) = rdM T t1 W v2 v1 none := by
  funext y
  unfold rdM
  by_cases h1 : y = Str.ofString "end"
  · subst h1; rfl
  · rw [if_neg h1]
    split
    · rfl
    · split
      · rfl
      · split
        · rfl
        · rw [List.lookup_cons]
          by_cases h : y = Str.ofString "text"
          · rw [if_pos h, beq_iff_eq.mpr h]
          · rw [if_neg h, beq_eq_false_iff_ne.mpr h]; rfl
theorem rdM_1 {T : Str} {t1 : Tok} {W : Addr} {a b c d : Value} {ev : Option Value} : (fun y => if y = Str.ofString "k" then some a else if y = Str.ofString "word" then some b else rdM T t1 W c d ev y) = rdM T t1 W b a ev := by
  funext y
  unfold rdM
  by_cases h1 : y = Str.ofString "end"
  · subst h1; rfl
  · by_cases h2 : y = Str.ofString "k"
    · subst h2; rfl
    · by_cases h3 : y = Str.ofString "word"
      · subst h3; rfl
      · simp only [h1, h2, h3, if_false]
theorem rdM_2 {T : Str} {t1 : Tok} {W : Addr} {a b c d e : Value} {ev : Option Value} {en : Value} : (fun y => if y = Str.ofString "k" then some a else if y = Str.ofString "k" then some e else if y = Str.ofString "word" then some b else if y = Str.ofString "end" then some en else rdM T t1 W c d ev y) = rdM T t1 W b a (some en) := by
  funext y
  unfold rdM
  by_cases h1 : y = Str.ofString "end"
  · subst h1; rfl
  · by_cases h2 : y = Str.ofString "k"
    · subst h2; rfl
    · by_cases h3 : y = Str.ofString "word"
      · subst h3; rfl
      · simp only [h1, h2, h3, if_false]
noncomputable def RdJ (T : Str) (t1 : Tok) (text : List Nat) (news : List (Addr × Obj)) (n : Nat) (m : Str → Option Value) (nx : List (Addr × Obj)) : Prop :=
  ∃ W word wt k tk ev vs c ws pre rest, m = rdM T t1 W (wdV word wt) (.int k tk) ev ∧ nx = (W, lsObj vs c) :: news ∧ TxtsAre vs ws ∧ (∀ p ∈ news, p.1 < W) ∧ T = mkS (pre ++ rest) ∧ k = (pre.length : Int) ∧ n = rest.length ∧
    (sc none word rest).map (ws ++ ·) = sc none none text ∧ ws.length ≤ pre.length ∧ (word.getD []).length ≤ pre.length ∧ pre.length + rest.length ≤ 1000
/-- the reader's answer -/
noncomputable def lrRet (text : List Nat) (news news' : List (Addr × Obj)) (r : Value) : Prop :=
  (sc none none text = none ∧ r = .none ∧ ∀ p ∈ news, p ∈ news') ∨ ∃ S ws vs c, sc none none text = some ws ∧ r = .ref S ∧ (S, lsObj vs c) ∈ news' ∧ TxtsAre vs ws ∧ (∀ p ∈ news, p.1 < S) ∧ ∀ p ∈ news, p ∈ news'
theorem append_ls {prog : Program} {w : World} {A : Around} {E : Value → Shared → Prop} {s : Shared} {h₀ : Heap} {L W : Addr} {m : Str → Option Value} {vs : List Value} {c : Nat} {news : List (Addr × Obj)} {v : Value} {Q : Value → Shared → Prop} (F : Fr h₀ L s.heap m) (N : News h₀ L s.heap ((W, lsObj vs c) :: news)) (hne : ∀ p ∈ news, p.1 < W) (hl : vs.length ≤ 100000)
    (h : ∀ h', Fr h₀ L h' m → News h₀ L h' ((W, lsObj (vs ++ [v]) (c + 1)) :: news) → Q .none { s with heap := h' }) : wpAny (model prog w) A (call (.builtin "list.append") [.ref W, v]) Q E s := by
  obtain ⟨U1, U2⟩ := news_upd (pre := []) (post := news) (f := Obj.mapSeq (·.push v)) F N (fun _ h => (nomatch h)) (fun p hp => Nat.ne_of_lt (hne p hp)) (ls_push vs c v) rfl
  have hg := (N _ (.head _)).1
  have hL : s.heap.IsList W vs.toArray := ⟨_, hg, rfl, c, rfl⟩
  refine wpAny_call_entry slot_list_append hL.typeIs entry_list_append ?_ (args_list_append _ _)
  show wpAny _ _ (updateSeq W (·.push v) >>= fun _ => ret .none) _ _ s
  refine wpAny_bind ?_
  exact wpAny_updateSeq hg rfl (wpAny_pure ⟨.none, rfl, h _ U1 U2⟩) (by rw [List.size_toArray, sizeLine_eq]; omega) (by rw [Array.size_push, List.size_toArray, sizeLine_eq]; omega)
theorem add_eq {prog : Program} {w : World} {A : Around} {E : Value → Shared → Prop} {s : Shared} {t u : Tok} {x y : Str} {a b : List Nat} {Q : Value → Shared → Prop} (hx : x = mkS a) (hy : y = mkS b) (hl : a.length + b.length ≤ 100000) (h : ∀ t' tk', Q (.str (mkS (a ++ b)) t') { s with toks := tk' }) : wpAny (model prog w) A (binaryOp .Add (.str x t) (.str y u)) Q E s := by
  subst hx hy
  exact add_mk hl h
theorem or_word {prog : Program} {w : World} {A : Around} {E Q : Value → Shared → Prop} {s : Shared} {h₀ : Heap} {L a : Addr} {m : Str → Option Value} {cn : Str} {cs : Scope} {ccd : Value} {cl : List (Str × Addr)} {p1 p2 p3 : Pos} {k : Nat} {word : Option (List Nat)} {wt : Tok} (F : Fr h₀ L s.heap m) (hm : m (Str.ofString "word") = some (wdV word wt)) (hl : (word.getD []).length ≤ 100000)
    (h : ∀ t tk, Q (.str (mkS (word.getD [])) t) { s with toks := tk }) (hk : cs.kind = .function := by rfl) (hx : (envX cn cs L a ccd cl).kindOf (Str.ofString "word") = some .local := by rfl) : wpAny (model prog w) A (eval (.BoolOp .Or [.Name (Str.ofString "word") p1, .Constant (.str (Str.ofString "")) k p2] p3) (envX cn cs L a ccd cl)) Q E s := by
  refine BoolOp_or (nameX_L F hm ?_ hk hx)
  rcases word with _ | wd
  · exact truthy_none (BoolOp_one (wpAny_Constant_str (by rw [em_s]; exact h _ _)))
  · rcases wd with _ | ⟨d0, wd⟩
    · exact truthy_nil (BoolOp_one (wpAny_Constant_str (by rw [em_s]; exact h _ _)))
    · exact truthy_cons hl (h _ _)
local macro_rules | `(tactic| walk_at "eval BoolOp") => `(tactic| refine held ?_)
local macro_rules | `(tactic| k_all) => `(tactic| exact fun p hp => Nat.ne_of_lt (by first | assumption | exact (by assumption : ∀ p ∈ _, p.1 < _) p hp))
local macro_rules | `(tactic| k_mem) => `(tactic| assumption)
local macro_rules | `(tactic| walk_at "exec While Compare cons nil") => `(tactic| refine held ?_)
local macro_rules | `(tactic| walk_at "compareOp In str str") => `(tactic| (k_here; (with_reducible show wpAny _ _ (compareOp CmpOp.In (Value.str (mkS [_]) _) _) _ _ _); first | refine in1_no (by first | assumption | exact fC | decide) ?_ | refine in1_yes (by first | assumption | decide) ?_))
local macro_rules | `(tactic| walk_at "subscriptTail Name Name str int") => `(tactic| (k_here; with_unfolding_all refine item_T (by assumption) (by assumption) (by assumption) ?_))
local macro_rules | `(tactic| walk_at "call builtin:str.find") => `(tactic| (k_here; first | refine find_Tno (by assumption) (by omega) (by assumption) ?_ | refine find_Tyes (by assumption) (by omega) (by assumption) (by assumption) ?_))
local macro_rules | `(tactic| walk_at "binaryOp Add str str") => `(tactic| (k_here; refine add_eq (by first | exact em_s | assumption | with_reducible rfl) (by first | assumption | with_reducible rfl) (by first | assumption | exact Nat.le_of_ble_eq_true rfl) ?_; intro _ _))
local macro_rules | `(tactic| walk_at "call builtin:list.append") => `(tactic| (k_here; k_dflt (refine' append_ls ?F ?N ?hn ?hl ?_; (case F => k_asm); (case N => k_asm); (case hn => assumption); (case hl => omega); k_whole; intro h' F' N'; (try k_sweep))))
set_option maxHeartbeats 40000000 in
theorem read_law (w : World) (text : List Nat) (t1 : Tok) (hlen : text.length ≤ 1000) : Does w 809 [.str (mkS text) t1] [] 50 200 (fun _ => True) (fun news news' r => lrRet text news news' r) := by
  unfold Does
  w_on
  k_fill
  intro mean mg mb dp un gd cn ns ig ic mo a ccd cl outer A₀ base h₀ L m news s Q E B F X N TT hpre hd hu hret
  generalize hT0 : mkS text = T
  refine wpAny_call ?_
  k_dflt k_enter
  k_steps
  unfold Held
  rename News _ _ _ ((_, _) :: _) => N1
  rename Fr _ _ _ (fun _ => _) => F1
  rename ∀ p ∈ news, p.1 < _ => l0
  refine While_inv2 (RdJ T t1 text news) (n₀ := text.length) F1 N1 ⟨_, none, 0, _, _, none, [], _, [], [], text, rdM_init, rfl, .nil, l0, hT0.symm, rfl, rfl, by simp, Nat.le_refl _, Nat.le_refl _, by simpa using hlen⟩ ?_
  rintro n m₁ news₁ h₁ tk₁ F₁ N₁ ⟨W, word, wt, k, tk, ev, vs, c, ws, pre, rest, rfl, rfl, hvs, hW0, hT, hk, hn, hsc, hwl, hwd, hl⟩
  clear F1 N1
  have hvl := hvs.len
  have hTl : T.length = pre.length + rest.length := by rw [hT, mkS_len]; simp
  have hTz : T.length ≤ 100000 := by omega
  rcases rest with _ | ⟨c0, rest⟩
  · simp only [List.length_nil] at hTl
    k_steps
    rcases word with _ | wd
    · k_steps
      exact hret _ _ _ _ (by k_asm) (by k_asm) (.inr ⟨W, ws, vs, c, by rw [← hsc]; simp [sc], rfl, .head _, hvs, hW0, fun p hp => .tail _ hp⟩)
    · k_steps
      exact hret _ _ _ _ (by k_asm) (by k_asm) (.inr ⟨W, ws ++ [wd], vs ++ [_], _, by rw [← hsc]; simp [sc], rfl, List.Mem.head _, hvs.snoc wd _, hW0, fun p hp => .tail _ hp⟩)
  · simp only [List.length_cons] at hTl hl
    have hp2 : k + 1 = ((pre ++ [c0]).length : Int) := by rw [hk, List.length_append]; rfl
    have hT2 : T = mkS ((pre ++ [c0]) ++ rest) := by rw [hT, List.append_assoc]; rfl
    have hlc : (pre ++ [c0]).length = pre.length + 1 := by simp
    clear hT2
    by_cases hQ : c0 ∈ (Str.ofString "'\"").cps.toList
    · have hQ' := fQ.mp hQ
      by_cases hc : c0 ∈ rest
      · obtain ⟨i1, i2, i3⟩ := tw_get hc
        have hsl : Txt.slice T (some (k + 1)) (some ((pre.length + 1 + (rest.takeWhile (· != c0)).length : Nat) : Int)) = mkS (rest.takeWhile (· != c0)) := by rw [hT, hk]; exact slice_tw pre c0 rest hc
        have hsz : ∀ wd : List Nat, wd.length ≤ pre.length → wd.length + (rest.takeWhile (· != c0)).length ≤ 100000 := fun wd h => by omega
        have hrst : rest = rest.takeWhile (· != c0) ++ c0 :: (rest.dropWhile (· != c0)).drop 1 := tw_split hc
        generalize hJ : rest.takeWhile (· != c0) = inn at *
        generalize hR : (rest.dropWhile (· != c0)).drop 1 = rst at *
        have hrl : rest.length = inn.length + 1 + rst.length := by rw [hrst]; simp; omega
        have hT3 : T = mkS ((pre ++ c0 :: inn ++ [c0]) ++ rst) := by rw [hT, hrst]; simp
        have hp3 : ((pre.length + 1 + inn.length : Nat) : Int) + 1 = ((pre ++ c0 :: inn ++ [c0]).length : Int) := by simp; omega
        have hl3 : (pre ++ c0 :: inn ++ [c0]).length = pre.length + inn.length + 2 := by simp; omega
        have hsc3 : sc none word (c0 :: rest) = sc none (some (word.getD [] ++ inn)) rst := by rw [sc, if_pos hQ', sc_jump, if_pos hc, hJ, hR]
        clear hT3
        k_steps
        unfold Held
        have hz := hsz _ hwd
        refine or_word (word := word) (wt := wt) (by k_asm) (by rfl) (by omega) fun t9 tk9 => ?_
        k_steps
        exact ⟨_, _, _, _, rst.length, rfl, by k_asm, by k_asm, by rw [hn, List.length_cons]; omega, ⟨W, some (word.getD [] ++ inn), _, _, _, _, vs, _, ws, pre ++ c0 :: inn ++ [c0], rst, rdM_2, rfl, hvs, hW0, by rw [hT, hrst]; simp, hp3, rfl, by rw [← hsc, hsc3], by omega, by show (_ ++ _ : List Nat).length ≤ _; rw [List.length_append]; first | omega | (simp only [List.length_append, List.length_cons, List.length_nil]; omega), by omega⟩⟩
      · k_steps
        unfold WhileStep2
        dsimp only
        k_steps
        exact hret _ _ _ _ (by k_asm) (by k_asm) (.inl ⟨by rw [← hsc, sc, if_pos hQ', sc_jump, if_neg hc]; rfl, rfl, fun p hp => by simp [hp]⟩)
    · have hQ' : ¬ isQ c0 = true := fun z => hQ (fQ.mpr z)
      by_cases hW : c0 ∈ (Str.ofString " \t\n\r").cps.toList
      · have hW' := fW2.mp hW
        k_steps
        rcases word with _ | wd
        · k_steps
          exact ⟨_, _, _, _, rest.length, rfl, by k_asm, by k_asm, by rw [hn]; exact Nat.lt_succ_self _, ⟨W, none, 0, _, _, _, vs, _, ws, pre ++ [c0], rest, rdM_1, rfl, hvs, hW0, by rw [hT, List.append_assoc]; rfl, hp2, rfl, (by rw [← hsc, sc, if_neg hQ', if_pos hW']; simp), (by omega), (Nat.zero_le _), by omega⟩⟩
        · k_steps
          exact ⟨_, _, _, _, rest.length, rfl, by k_asm, by k_asm, by rw [hn]; exact Nat.lt_succ_self _, ⟨W, none, 0, _, _, _, (vs ++ [_]), _, (ws ++ [wd]), pre ++ [c0], rest, rdM_1, rfl, (hvs.snoc wd _), hW0, by rw [hT, List.append_assoc]; rfl, hp2, rfl, (by rw [← hsc, sc, if_neg hQ', if_pos hW']; simp [Function.comp_def]), (by simp; omega), (Nat.zero_le _), by omega⟩⟩
      · have hW' : ¬ isW c0 = true := fun z => hW (fW2.mpr z)
        have hsz : ∀ wd : List Nat, wd.length ≤ pre.length → wd.length + [c0].length ≤ 100000 := fun wd h => by simp only [List.length_cons, List.length_nil]; omega
        k_steps
        unfold Held
        have hz := hsz _ hwd
        refine or_word (word := word) (wt := wt) (by k_asm) (by rfl) (by omega) fun t9 tk9 => ?_
        k_steps
        exact ⟨_, _, _, _, rest.length, rfl, by k_asm, by k_asm, by rw [hn]; exact Nat.lt_succ_self _, ⟨W, (some (word.getD [] ++ [c0])), _, _, _, _, vs, _, ws, pre ++ [c0], rest, rdM_1, rfl, hvs, hW0, by rw [hT, List.append_assoc]; rfl, hp2, rfl, (by rw [← hsc, sc, if_neg hQ', if_neg hW']), (by omega), (by show (_ ++ _ : List Nat).length ≤ _; rw [List.length_append]; first | omega | (simp only [List.length_append, List.length_cons, List.length_nil]; omega)), by omega⟩⟩
end Rd_
section EltS_
set_option maxRecDepth 100000
set_option maxHeartbeats 4000000

/-- a reading of a text, as a value -/
noncomputable def SplIs (o : Option (List (List Nat))) (v : Value) (l : List (Addr × Obj)) : Prop :=
  (o = none ∧ v = .none) ∨ ∃ S ws vs c, o = some ws ∧ v = .ref S ∧ (S, lsObj vs c) ∈ l ∧ TxtsAre vs ws
section
variable {w : World} {mean : ExcName → Option Value} {mg mb : Str → Option Value} {dp un : Nat} {gd : Option (List Code)} {env : Env} {A₀ : Around} {base h₀ : Heap} {L : Addr} {m : Str → Option Value} {led : List (Addr × Obj)} {s : Shared} {Q E : Value → Shared → Prop} {cenv : Env} {p1 p2 p3 p4 p5 p6 p7 : Pos} {nx ny nz : Str} {a b c : List Nat} {ta tb tc : Tok}
theorem elt_split (B : Below A₀ base [] h₀) (F : Fr h₀ L s.heap m) (X : (Mine.K1 w.params).In h₀) (N : News h₀ L s.heap led) (T : Top Mine.q1 (looseW Mine.q1 lz) mean mg mb h₀) (XB : (Mine.K1 w.params).In base) (TB : Top Mine.q1 (looseW Mine.q1 lz) mean mg mb base) (hf : env.frame = some L) (hke : env.scope.kind = .function)
    (hd : dp + 200 < recursionLimit) (hu : un + 1000 < cLine) (hg : cenv.globals = mainGlobals) (hk : cenv.scope.kind = .function) (hx : cenv.kindOf (Str.ofString "_law_split") = some .globalImplicit)
    (ha : NameIs (model PySem.Challenge.rw_op0238_01.row.prog w) (lawA dp un gd env) h₀ L cenv nx (.str (mkS a) ta) led) (hb : NameIs (model PySem.Challenge.rw_op0238_01.row.prog w) (lawA dp un gd env) h₀ L cenv ny (.str (mkS b) tb) led) (hc : NameIs (model PySem.Challenge.rw_op0238_01.row.prog w) (lawA dp un gd env) h₀ L cenv nz (.str (mkS c) tc) led)
    (hla : a.length ≤ 300) (hlb : b.length ≤ 300) (hlc : c.length ≤ 300) (hesc : ∀ d ∈ a ++ b ++ c, d ≠ 92)
    (h : ∀ y led' h' tk', Fr h₀ L h' m → News h₀ L h' led' → (∀ p ∈ led, p ∈ led') → (∀ l, NewIn led led' l → SplIs (sc none none (a ++ b ++ c)) y l) → Q y { s with heap := h', toks := tk' }) :
    wpAny (model PySem.Challenge.rw_op0238_01.row.prog w) (lawA dp un gd env) (eval (.Call (.Name (Str.ofString "_law_split") p1) [.BinOp (.BinOp (.Name nx p2) .Add (.Name ny p3) p4) .Add (.Name nz p5) p6] [] p7) cenv) Q E s := by
  refine call_named (f := 802) F X T (by kernel_rfl) (by kernel_rfl) hg hk hx rfl (sp1 (wpAny_BinOp (wpAny_BinOp (ha _ _ _ _ _ N (fun _ h => h) (hb _ _ _ _ _ N (fun _ h => h) (add_mk (by omega) fun t1 k1 => hc _ { s with toks := k1 } _ _ _ N (fun _ h => h) (add_mk (by simp only [List.length_append]; omega) fun t2 k2 => ⟨⟨m, F⟩, ?_⟩))))))) (by decide)
  refine lsplit_ct w (a ++ b ++ c) t2 hesc (by simp only [List.length_append]; omega) mean mg mb dp un gd env A₀ base h₀ L m led { s with toks := k2 } _ _ B F X N T XB TB hf hke trivial hd hu ?_
  intro r led' h' tk' F' N' hR
  unfold lsRet at hR
  rw [toks_sc] at hR
  rcases hR with ⟨e1, rfl, e3⟩ | ⟨S, ws, vs, k, e1, rfl, e3, e4, e5, e6⟩
  · exact h _ led' h' tk' F' N' e3 fun l _ => .inl ⟨e1, rfl⟩
  · exact h _ led' h' tk' F' N' e6 fun l hn => .inr ⟨S, ws, vs, k, e1, rfl, hn _ e3 (fun q hq => Nat.ne_of_lt (e5 q hq)), e4⟩
end
end EltS_
section TxtJ_
set_option maxRecDepth 100000

theorem join_chars : ∀ cs : List Nat, Txt.join (Str.ofString "") (cs.map fun c => mkS [c]) = mkS cs := by
  intro cs
  have e : ∀ cs : List Nat, Str.join (mkS []) (cs.map fun c => mkS [c]) = mkS cs := by
    intro cs
    induction cs with
    | nil => rfl
    | cons c r ih =>
      cases r with
      | nil => rfl
      | cons d r =>
        show mkS [c] ++ mkS [] ++ Str.join (mkS []) ((d :: r).map fun c => mkS [c]) = _
        rw [ih, mk_app, mk_app]; rfl
  show Builtin.Str.glued _ _ = _
  rw [StrLaws.glued_eq_join, em_s]
  exact e cs
theorem txts_vals : ∀ {vs : List Value} {cs : List Nat}, TxtsAre vs (cs.map fun c => [c]) → ∃ l : List (Str × Tok), strValues l = vs ∧ l.map (·.1) = cs.map fun c => mkS [c]
  | vs, [], h => by cases h; exact ⟨[], rfl, rfl⟩
  | vs, c :: r, h => by
    cases h with
    | cons h' =>
      obtain ⟨l, e1, e2⟩ := txts_vals h'
      exact ⟨(mkS [c], _) :: l, by rw [← e1]; rfl, by rw [List.map_cons, e2]; rfl⟩
theorem join_led {prog : Program} {w : World} {A : Around} {E : Value → Shared → Prop} {s : Shared} {h₀ : Heap} {L D : Addr} {ys : List Value} {cs : List Nat} {c : Nat} {t : Tok} {rest : List (Addr × Obj)} {Q : Value → Shared → Prop} (N : News h₀ L s.heap ((D, lsObj ys c) :: rest)) (ht : TxtsAre ys (cs.map fun c => [c])) (hl : cs.length ≤ 1000)
    (h : ∀ t' k, Q (.str (mkS cs) t') { s with toks := k }) : wpAny (model prog w) A (call (.builtin "str.join") [.str (Str.ofString "") t, .ref D]) Q E s := by
  obtain ⟨l, e1, e2⟩ := txts_vals ht
  subst e1
  refine SC.join (l := l) ⟨_, (N _ (.head _)).1, rfl, _, rfl⟩ e2 (joinOk_of ?_) fun t' k => by rw [join_chars]; exact h t' k
  have : ∀ cs : List Nat, ((cs.map fun c => mkS [c]).map (·.length)).sum = cs.length := by
    intro cs
    induction cs with
    | nil => rfl
    | cons c r ih => simp only [List.map_cons, List.sum_cons, ih, List.length_cons]; rw [mkS_len]; simp only [List.length_cons, List.length_nil]; omega
  rw [this, em_s, mkS_len]
  simp
  omega
end TxtJ_
section St1_
set_option maxRecDepth 100000
set_option maxHeartbeats 8000000

noncomputable abbrev lawCl (c1 c2 c3 c4 c5 : Addr) : List (Str × Addr) := [(Str.ofString "turned", c5), (Str.ofString "told", c4), (Str.ofString "marks", c3), (Str.ofString "back", c2), (Str.ofString "text", c1)]
theorem intsAre_get {vs : List Value} {ns : List Int} (h : IntsAre vs ns) {i : Nat} {v : Value} (e : vs.toArray[i]? = some v) : ∃ x t, v = .int x t := by
  rw [List.getElem?_toArray] at e
  induction h generalizing i with
  | nil => simp at e
  | cons n0 t0 h ih =>
    cases i with
    | zero => simp at e; exact ⟨_, _, e.symm⟩
    | succ i => exact ih (by simpa using e)
theorem store_cell {M : Model} {A : Around} {E : Value → Shared → Prop} {s : Shared} {h₀ : Heap} {L : Addr} {m : Str → Option Value} {env : Env} {x : Str} {c : Addr} {o : Obj} {rest : List (Addr × Obj)} {v : Value} {v0 : Option Value} {Q : Unit → Shared → Prop}
    (hk : env.scope.kind = .function) (hx : env.kindOf x = some .cell) (hc : env.cells.lookup x = some c) (F : Fr h₀ L s.heap m) (N : News h₀ L s.heap ((c, o) :: rest)) (hne : ∀ p ∈ rest, p.1 ≠ c) (ho : o.data = .cell v0)
    (h : ∀ h' o', Fr h₀ L h' m → News h₀ L h' ((c, o') :: rest) → o'.data = .cell (some v) → Q () { s with heap := h' }) : wpAny M A (storeName env x v) Q E s := by
  refine wpAny_storeName_cell hk hx hc ⟨o, (N _ (.head _)).1, ho⟩ fun h' hv hs => ?_
  obtain ⟨o', ho', hd'⟩ := hv
  obtain ⟨F', N'⟩ := led_turn F N hne (fun b x hb e => hs.extBut b x hb e) ho'
  exact h h' o' F' N' hd'
local macro_rules | `(tactic| walk_at "eval ListComp") => `(tactic| refine held ?_)
local macro_rules | `(tactic| walk_at "truthy str") => `(tactic| (k_here; first | (with_reducible refine truthy_nil ?_) | (with_reducible refine truthy_cons (by first | assumption | exact Nat.le_of_ble_eq_true rfl) ?_)))
local macro_rules | `(tactic| walk_at "call builtin:str.join") => `(tactic| (k_here; (refine join_led (by assumption) (by assumption) (by omega) ?_); intro _ _))
theorem st1 {w : World} {mean : ExcName → Option Value} {mg mb : Str → Option Value} {gd : Option (List Code)} {dp un : Nat} {A₀ : Around} {base h₀ : Heap} {S : Stmt} {rr : List Stmt} {sc : Scope} {L fa l : Addr} {cd : Value} {s : Shared} {vs : List Value} {ns : List Int} {c1 c2 c3 c4 c5 : Addr} {o1 o2 o3 o4 o5 : Obj} {Q : Flow → Shared → Prop} {E : Value → Shared → Prop}
  (hS : lawDef.body = S :: rr) (hsc : lawDef.scope = sc)
  (B : Below A₀ base [] h₀) (F : Fr h₀ L s.heap (fun y => if y = Str.ofString "script" then some (.ref l) else none)) (X : (Mine.K1 w.params).In h₀) (N : News h₀ L s.heap [(c5,o5),(c4,o4),(c3,o3),(c2,o2),(c1,o1)]) (T : Top Mine.q1 (looseW Mine.q1 lz) mean mg mb h₀)
  (ho1 : o1.data = .cell none)
  (hcc : c1 ≠ c2 ∧ c1 ≠ c3 ∧ c1 ≠ c4 ∧ c1 ≠ c5)
  (hL : h₀.IsList l vs.toArray) (hI : IntsAre vs ns) (hn : ns.length ≤ 63)
  (hd : dp + 500 < recursionLimit) (hu : un + 2000 < cLine)
  (h : ∀ t tt h' tk' o1', t ≠ [] → t.length ≤ 10 → (∀ c ∈ t, c ≠ 92 ∧ c < 256) → o1'.data = .cell (some (.str (mkS t) tt)) → Fr h₀ L h' (fun y => if y = Str.ofString "script" then some (.ref l) else none) → News h₀ L h' [(c5,o5),(c4,o4),(c3,o3),(c2,o2),(c1,o1')] → Q .next { s with heap := h', toks := tk' }) :
  wpAny (model PySem.Challenge.rw_op0238_01.row.prog w) (ktrTop dp un gd (Str.ofString "law") sc L fa cd (lawCl c1 c2 c3 c4 c5) []) (exec S (envX (Str.ofString "law") sc L fa cd (lawCl c1 c2 c3 c4 c5))) Q E s := by
  rw [show lawDef.body = _ :: _ from rfl] at hS
  obtain ⟨rfl, rfl⟩ := List.cons.inj hS
  rw [show lawDef.scope = ⟨_, _, _, _, _⟩ from rfl] at hsc
  subst hsc
  clear hS
  obtain ⟨hh, gg, dd, tk, os⟩ := s
  obtain ⟨hc2, hc3, hc4, hc5⟩ := hcc
  w_on
  k_fill
  k_steps
  unfold Held
  refine comp_go (h₀ := h₀) (L := L) (m := fun y => if y = Str.ofString "script" then some (.ref l) else none) (cl := []) (by with_unfolding_all rfl) rfl (by decide) (.inl ⟨rfl, fun _ _ => rfl, fun _ => rfl⟩) (fun _ => by with_unfolding_all rfl) ?_
  k_steps
  dsimp only
  rename News _ _ _ ((_, W.listOf _ _) :: _) => N1
  rename Fr _ _ _ _ => F1
  rename IntsAre _ (List.take 10 ns) => hW
  have hsz := hW.length
  have hle : (List.take 10 ns).length ≤ 10 := by simp; omega
  refine go_list rfl F1 N1 ⟨_, (N1 _ (.head _)).1, rfl, _, rfl⟩ (.inl ⟨_, .head _⟩) ?_ (J := fun i ys nw => nw = [(_, W.listOf _ 0), (c5, o5), (c4, o4), (c3, o3), (c2, o2), (c1, o1)] ∧ ys.length = i ∧ ∃ cs : List Nat, TxtsAre ys (cs.map fun c => [c]) ∧ ∀ c ∈ cs, c ≠ 92 ∧ c < 256) ⟨rfl, rfl, [], .nil, fun _ h => nomatch h⟩ ?_ ?_
  · simp [hsz]; omega
  · intro C cl' i ys nw sp tg v s₃ E' hcl hi hP hJ ht hsub hnw F3 N3 hd3
    obtain ⟨x, t, rfl⟩ := intsAre_get hW hP
    refine tests_nil ?_
    rw [if_pos rfl]
    refine elt_sign B F3 X N3 T (by omega) (by omega) (fun p hp => List.mem_append_left _ (hsub p hp)) ht rfl rfl rfl ?_
    intro c t' h' tk' h1 h2 F' N'
    obtain ⟨rfl, rfl, cs, hcs, hcc⟩ := hJ
    refine ⟨_, h', tk', rfl, F', N', fun _ h => h, hd3, rfl, by simp, cs ++ [c], by rw [List.map_append]; exact hcs.snoc [c] t', ?_⟩
    intro d hd
    rcases List.mem_append.mp hd with hd | hd
    · exact hcc d hd
    · rw [List.mem_singleton.mp hd]; exact ⟨h1, h2⟩
  · refine fin_ret ?_
    rintro D ys c h' tk' nw hyl ⟨rfl, hlen, cs, hcs, hcc⟩ F' N' hne hsub hlt
    have hcl : cs.length ≤ 10 := by have := hcs.len; rw [List.length_map] at this; rw [← this, hlen, List.size_toArray]; omega
    have hct : cs.length ≤ 100000 := by omega
    have hc1 : ∀ p ∈ [(c5, o5), (c4, o4), (c3, o3), (c2, o2)], p.1 ≠ c1 := by
      intro p hp; simp only [List.mem_cons, List.not_mem_nil, or_false] at hp; rcases hp with rfl | rfl | rfl | rfl <;> simp_all [Ne.symm]
    have N9 := news_sub (l' := (c1, o1) :: [(c5, o5), (c4, o4), (c3, o3), (c2, o2)]) N' (by intro p hp; simp only [List.mem_cons, List.not_mem_nil, or_false] at hp ⊢; rcases hp with h | h | h | h | h <;> simp [h])
    dsimp only
    k_steps
    rcases cs with _ | ⟨c0, cs⟩
    · k_steps
      refine store_cell (c := c1) (o := o1) rfl rfl rfl F' N9 hc1 ho1 fun h'' o' F'' N'' ho' => ?_
      exact h [120, 39] _ _ _ _ (by simp) (by simp) (by simp) (by rw [ho', show Str.ofString "x'" = mkS [120, 39] from by decide +kernel]) F'' (news_sub N'' (by intro p hp; simp only [List.mem_cons, List.not_mem_nil, or_false] at hp ⊢; rcases hp with h | h | h | h | h <;> simp [h]))
    · k_steps
      refine store_cell (c := c1) (o := o1) rfl rfl rfl F' N9 hc1 ho1 fun h'' o' F'' N'' ho' => ?_
      exact h (c0 :: cs) _ _ _ _ (by simp) hcl hcc ho' F'' (news_sub N'' (by intro p hp; simp only [List.mem_cons, List.not_mem_nil, or_false] at hp ⊢; rcases hp with h | h | h | h | h <;> simp [h]))
end St1_
section St2_
set_option maxRecDepth 100000
set_option maxHeartbeats 8000000

theorem elt_div {prog : Program} {w : World} {A : Around} {h₀ : Heap} {L : Addr} {led tg : List (Addr × Obj)} {s : Shared} {Q E : Value → Shared → Prop} {cenv : Env} {p1 p2 p3 : Pos} {x : Int} {t : Tok} {kd : Nat} (N : News h₀ L s.heap led)
    (hm : ∀ p ∈ tg, p ∈ led) (ht : Tgt cenv (Str.ofString "x") tg (some (.int x t))) (hk : cenv.scope.kind = .function)
    (h : ∀ t' tk', Q (.int (x.fdiv 2048) t') { s with toks := tk' }) :
    wpAny (model prog w) A (eval (.BinOp (.Name (Str.ofString "x") p1) .FloorDiv (.Constant (.int 2048) kd p2) p3) cenv) Q E s := by
  refine wpAny_BinOp (nameT N hm ht hk (wpAny_Constant_int ?_) (by decide))
  exact floordiv_int (by decide) (h _ _)
theorem intsAre_snoc : ∀ {vs : List Value} {ns : List Int}, IntsAre vs ns → ∀ (n : Int) (t : Tok), IntsAre (vs ++ [.int n t]) (ns ++ [n])
  | _, _, .nil, n, t => .cons n t .nil
  | _, _, .cons a b h, n, t => .cons a b (intsAre_snoc h n t)
theorem st2 {w : World} {mean : ExcName → Option Value} {mg mb : Str → Option Value} {gd : Option (List Code)} {dp un : Nat} {A₀ : Around} {base h₀ : Heap} {S : Stmt} {rr : List Stmt} {sc : Scope} {L fa l : Addr} {cd : Value} {s : Shared} {vs : List Value} {ns : List Int} {c1 c2 c3 c4 c5 : Addr} {o1 o2 o3 o4 o5 : Obj} {Q : Flow → Shared → Prop} {E : Value → Shared → Prop}
  (hS : lawDef.body.drop 1 = S :: rr) (hsc : lawDef.scope = sc)
  (B : Below A₀ base [] h₀) (F : Fr h₀ L s.heap (fun y => if y = Str.ofString "script" then some (.ref l) else none)) (X : (Mine.K1 w.params).In h₀) (N : News h₀ L s.heap [(c5,o5),(c4,o4),(c3,o3),(c2,o2),(c1,o1)]) (T : Top Mine.q1 (looseW Mine.q1 lz) mean mg mb h₀)
  (hL : h₀.IsList l vs.toArray) (hI : IntsAre vs ns) (hn : ns.length ≤ 63)
  (hd : dp + 500 < recursionLimit) (hu : un + 2000 < cLine)
  (h : ∀ u ut h' tk', 0 ≤ u → u < 128 → Fr h₀ L h' (fun y => if y = Str.ofString "upper" then some (.int u ut) else if y = Str.ofString "script" then some (.ref l) else none) → News h₀ L h' [(c5,o5),(c4,o4),(c3,o3),(c2,o2),(c1,o1)] → Q .next { s with heap := h', toks := tk' }) :
  wpAny (model PySem.Challenge.rw_op0238_01.row.prog w) (ktrTop dp un gd (Str.ofString "law") sc L fa cd (lawCl c1 c2 c3 c4 c5) []) (exec S (envX (Str.ofString "law") sc L fa cd (lawCl c1 c2 c3 c4 c5))) Q E s := by
  rw [show lawDef.body.drop 1 = _ :: _ from rfl] at hS
  obtain ⟨rfl, rfl⟩ := List.cons.inj hS
  rw [show lawDef.scope = ⟨_, _, _, _, _⟩ from rfl] at hsc
  subst hsc
  clear hS
  obtain ⟨hh, gg, dd, tk, os⟩ := s
  w_on
  k_fill
  refine wpAny_Assign_Name (wpAny_BinOp (wpAny_BinOp (wpAny_Constant_int ?_))) (by with_unfolding_all rfl)
  refine call_builtin (id := "sum") F X T (by kernel_rfl) (by kernel_rfl) (by decide) rfl rfl rfl rfl rfl rfl (sp1 ?_) (by decide)
  refine comp_go (h₀ := h₀) (L := L) (m := fun y => if y = Str.ofString "script" then some (.ref l) else none) (cl := []) (by with_unfolding_all rfl) rfl (by decide) (.inl ⟨rfl, fun _ _ => rfl, fun _ => rfl⟩) (fun _ => by with_unfolding_all rfl) ?_
  k_steps
  dsimp only
  rename News _ _ _ ((_, W.listOf _ _) :: _) => N1
  rename Fr _ _ _ _ => F1
  rename IntsAre _ (List.take 10 ns) => hW
  have hsz := hW.length
  have hle : (List.take 10 ns).length ≤ 10 := by simp; omega
  refine go_list rfl F1 N1 ⟨_, (N1 _ (.head _)).1, rfl, _, rfl⟩ (.inl ⟨_, .head _⟩) ?_ (J := fun i ys nw => nw = [(_, W.listOf _ 0), (c5, o5), (c4, o4), (c3, o3), (c2, o2), (c1, o1)] ∧ ys.length = i ∧ ∃ zs : List Int, IntsAre ys zs) ⟨rfl, rfl, [], .nil⟩ ?_ ?_
  · simp [hsz]; omega
  · intro C cl' i ys nw sp tg v s₃ E' hcl hi hP hJ ht hsub hnw F3 N3 hd3
    obtain ⟨x, t, rfl⟩ := intsAre_get hW hP
    refine tests_nil ?_
    rw [if_pos rfl]
    refine elt_div N3 (fun p hp => List.mem_append_left _ (hsub p hp)) ht rfl ?_
    intro t' tk'
    obtain ⟨rfl, rfl, zs, hzs⟩ := hJ
    exact ⟨_, s₃.heap, tk', rfl, F3, N3, fun _ h => h, hd3, rfl, by simp, zs ++ [_], intsAre_snoc hzs _ _⟩
  · refine fin_ret ?_
    rintro D ys c h' tk' nw hyl ⟨rfl, hlen, zs, hzs⟩ F' N' hne hsub hlt
    dsimp only
    refine sumK rfl F' N' ⟨_, (N' _ (.head _)).1, rfl, _, rfl⟩ hzs ?_
    intro h2 tk2 t2 F2 N2
    refine PySem.P.add_int ?_
    refine wpAny_Constant_int ?_
    refine mod_int' (by decide) ?_
    refine storeX_L F2 N2 (fun h3 F3 N3 => ?_) rfl rfl
    exact h _ _ _ _ (Int.fmod_nonneg_of_pos _ (by decide)) (Int.fmod_lt_of_pos _ (by decide)) F3 (news_sub N3 (by intro p hp; simp only [List.mem_cons, List.not_mem_nil, or_false] at hp ⊢; rcases hp with h | h | h | h | h <;> simp [h]))
end St2_
section St4_
set_option maxRecDepth 100000
set_option maxHeartbeats 8000000

local macro_rules | `(tactic| walk_at "eval ListComp") => `(tactic| refine held ?_)
local macro_rules | `(tactic| walk_at "call builtin:str.join") => `(tactic| (k_here; (refine join_led (by assumption) (by assumption) (by omega) ?_); intro _ _))
theorem elt_chr {prog : Program} {w : World} {A : Around} {K : Frag} {mg mb : Str → Option Value} {p : Program} {loose : List Str} {mean : ExcName → Option Value} {h₀ : Heap} {L : Addr} {m : Str → Option Value} {led tg : List (Addr × Obj)} {s : Shared} {Q E : Value → Shared → Prop} {cenv : Env} {p1 p2 p3 : Pos} {x : Nat} {t : Tok} (F : Fr h₀ L s.heap m) (X : K.In h₀) (T : Top p loose mean mg mb h₀) (N : News h₀ L s.heap led) (e : nsIn K mainGlobals (Str.ofString "chr") = some none)
    (hm : ∀ p ∈ tg, p ∈ led) (ht : Tgt cenv (Str.ofString "octet") tg (some (.int (x : Int) t))) (hg : cenv.globals = mainGlobals) (hb : cenv.builtins = builtinsNs) (hk : cenv.scope.kind = .function) (hx : cenv.kindOf (Str.ofString "chr") = some .globalImplicit) (hlt : x < 256)
    (h : ∀ t' tk', Q (.str (mkS [x]) t') { s with toks := tk' }) :
    wpAny (model prog w) A (eval (.Call (.Name (Str.ofString "chr") p1) [.Name (Str.ofString "octet") p2] [] p3) cenv) Q E s := by
  refine call_builtin (id := "chr") F X T e (by kernel_rfl) (by decide) hg hb hk hx rfl rfl (sp1 (nameT N hm ht hk ?_ (by decide))) (by decide)
  refine chr_of_range (by omega) (by omega) ?_
  rw [Int.toNat_natCast]
  exact h _ _
theorem st4 {w : World} {mean : ExcName → Option Value} {mg mb : Str → Option Value} {gd : Option (List Code)} {dp un : Nat} {A₀ : Around} {base h₀ : Heap} {S : Stmt} {rr : List Stmt} {sc : Scope} {L fa l : Addr} {cd : Value} {s : Shared} {c1 c2 c3 c4 c5 : Addr} {o1 o2 o3 o4 o5 : Obj} {Q : Flow → Shared → Prop} {E : Value → Shared → Prop} {bs : List UInt8} {bt ut : Tok} {u : Int}
  (hS : lawDef.body.drop 3 = S :: rr) (hsc : lawDef.scope = sc)
  (B : Below A₀ base [] h₀) (F : Fr h₀ L s.heap (fun y => if y = Str.ofString "octets" then some (.bytes bs.toArray bt) else if y = Str.ofString "upper" then some (.int u ut) else if y = Str.ofString "script" then some (.ref l) else none)) (X : (Mine.K1 w.params).In h₀) (N : News h₀ L s.heap [(c5,o5),(c4,o4),(c3,o3),(c2,o2),(c1,o1)]) (T : Top Mine.q1 (looseW Mine.q1 lz) mean mg mb h₀)
  (ho2 : o2.data = .cell none) (hbl : bs.length ≤ 10)
  (hcc : c2 ≠ c1 ∧ c2 ≠ c3 ∧ c2 ≠ c4 ∧ c2 ≠ c5)
  (h : ∀ tt h' tk' o2', o2'.data = .cell (some (.str (mkS (bs.map (·.toNat))) tt)) → Fr h₀ L h' (fun y => if y = Str.ofString "octets" then some (.bytes bs.toArray bt) else if y = Str.ofString "upper" then some (.int u ut) else if y = Str.ofString "script" then some (.ref l) else none) → News h₀ L h' [(c5,o5),(c4,o4),(c3,o3),(c2,o2'),(c1,o1)] → Q .next { s with heap := h', toks := tk' }) :
  wpAny (model PySem.Challenge.rw_op0238_01.row.prog w) (ktrTop dp un gd (Str.ofString "law") sc L fa cd (lawCl c1 c2 c3 c4 c5) []) (exec S (envX (Str.ofString "law") sc L fa cd (lawCl c1 c2 c3 c4 c5))) Q E s := by
  rw [show lawDef.body.drop 3 = _ :: _ from rfl] at hS
  obtain ⟨rfl, rfl⟩ := List.cons.inj hS
  rw [show lawDef.scope = ⟨_, _, _, _, _⟩ from rfl] at hsc
  subst hsc
  clear hS
  obtain ⟨hh, gg, dd, tk, os⟩ := s
  obtain ⟨hc1, hc3, hc4, hc5⟩ := hcc
  w_on
  k_fill
  k_steps
  unfold Held
  refine comp_go (h₀ := h₀) (L := L) (m := fun y => if y = Str.ofString "octets" then some (.bytes bs.toArray bt) else if y = Str.ofString "upper" then some (.int u ut) else if y = Str.ofString "script" then some (.ref l) else none) (cl := []) (by with_unfolding_all rfl) rfl (by decide) (.inl ⟨rfl, fun _ _ => rfl, fun _ => rfl⟩) (fun _ => by with_unfolding_all rfl) ?_
  refine nameX_L F (by rfl) ?_
  refine go_bytes rfl F N (by simp; omega) (J := fun i ys nw => nw = [(c5, o5), (c4, o4), (c3, o3), (c2, o2), (c1, o1)] ∧ ys.length = i ∧ TxtsAre ys (((bs.take i).map (·.toNat)).map fun c => [c])) ⟨rfl, rfl, by simpa using TxtsAre.nil⟩ ?_ ?_
  · intro C cl' i ys nw sp tg v s₃ E' hcl hi hP hJ ht hsub hnw F3 N3 hd3
    obtain ⟨c, t, hci, rfl⟩ := hP
    refine tests_nil ?_
    rw [if_pos rfl]
    refine elt_chr F3 X T N3 (by kernel_rfl) (fun p hp => List.mem_append_left _ (hsub p hp)) ht rfl rfl rfl rfl c.toNat_lt ?_
    intro t' tk'
    obtain ⟨rfl, rfl, hcs⟩ := hJ
    refine ⟨_, s₃.heap, tk', rfl, F3, N3, fun _ h => h, hd3, rfl, by simp, ?_⟩
    rw [List.getElem?_toArray] at hci
    rw [List.take_succ, hci]
    simp only [Option.toList_some, List.map_append, List.map_cons, List.map_nil]
    exact hcs.snoc _ _
  · refine fin_ret ?_
    rintro D ys c h' tk' nw hyl ⟨rfl, hlen, hcs⟩ F' N' hne hsub hlt
    rw [List.size_toArray, List.take_length] at hcs
    have hcl : (bs.map (·.toNat)).length ≤ 10 := by simpa using hbl
    have N9 := news_sub (l' := (c2, o2) :: [(c5, o5), (c4, o4), (c3, o3), (c1, o1)]) N' (by intro p hp; simp only [List.mem_cons, List.not_mem_nil, or_false] at hp ⊢; rcases hp with h | h | h | h | h <;> simp [h])
    have hc2 : ∀ p ∈ [(c5, o5), (c4, o4), (c3, o3), (c1, o1)], p.1 ≠ c2 := by
      intro p hp; simp only [List.mem_cons, List.not_mem_nil, or_false] at hp; rcases hp with rfl | rfl | rfl | rfl <;> simp_all [Ne.symm]
    generalize bs.map (·.toNat) = cs at *
    dsimp only
    k_steps
    refine store_cell (c := c2) (o := o2) rfl rfl rfl F' N9 hc2 ho2 fun h'' o' F'' N'' ho' => ?_
    exact h _ _ _ _ ho' F'' (news_sub N'' (by intro p hp; simp only [List.mem_cons, List.not_mem_nil, or_false] at hp ⊢; rcases hp with h | h | h | h | h <;> simp [h]))
end St4_
section St6_
set_option maxRecDepth 100000
set_option maxHeartbeats 8000000

noncomputable def mk : Nat → List Nat
  | 0 => []
  | 1 => [39]
  | _ => [34]
theorem mk_len (i : Nat) : (mk i).length ≤ 1 := by
  match i with
  | 0 => exact Nat.zero_le _
  | 1 => exact Nat.le_refl _
  | _ + 2 => exact Nat.le_refl _
theorem mk_esc (i : Nat) : ∀ c ∈ mk i, c ≠ 92 := by
  match i with
  | 0 => intro c hc; cases hc
  | 1 => intro c hc; rw [List.mem_singleton.mp hc]; decide
  | _ + 2 => intro c hc; rw [List.mem_singleton.mp hc]; decide
theorem esc3 {a b c : List Nat} (ha : ∀ d ∈ a, d ≠ 92) (hb : ∀ d ∈ b, d ≠ 92) (hc : ∀ d ∈ c, d ≠ 92) : ∀ d ∈ a ++ b ++ c, d ≠ 92 := by
  intro d hd
  rcases List.mem_append.mp hd with hd | hd
  · rcases List.mem_append.mp hd with hd | hd
    · exact ha d hd
    · exact hb d hd
  · exact hc d hd
/-- the tuple of marks -/
noncomputable def MarksObj (o : Obj) (items : Array Value) : Prop :=
  (o.cls = .type "tuple" ∧ ∃ n, o.data = .seq items n) ∧ items.size = 3 ∧ ∃ t0 t1 t2, items = #[.str (mkS []) t0, .str (mkS [39]) t1, .str (mkS [34]) t2]
theorem marks_get {o : Obj} {items : Array Value} {i : Nat} {v : Value} (h : MarksObj o items) (hi : i < items.size) (e : items[i]? = some v) : ∃ t, v = .str (mkS (mk i)) t := by
  obtain ⟨_, hs, t0, t1, t2, rfl⟩ := h
  have : i = 0 ∨ i = 1 ∨ i = 2 := by simp at hi; omega
  rcases this with rfl | rfl | rfl
  · exact ⟨t0, by simpa [mk] using e.symm⟩
  · exact ⟨t1, by simpa [mk] using e.symm⟩
  · exact ⟨t2, by simpa [mk] using e.symm⟩
theorem tgt_cell {env : Env} {scope : Scope} {C : Addr} {cl cl' : List (Str × Addr)} {x : Str} {tg : List (Addr × Obj)} {v : Value} (ht : Tgt (cenvOf scope env C cl') x tg (some v)) (hk : (cenvOf scope env C cl').kindOf x = some .cell) (hl : cl.lookup x = none) (hcl : cl' = cl ∨ ∃ c, cl' = (x, c) :: cl) :
    ∃ cb ob, cl' = (x, cb) :: cl ∧ (cb, ob) ∈ tg ∧ ob.data = .cell (some v) := by
  rcases ht with ⟨oC, mC, e1, _⟩ | ⟨oC, mC, c, oc, w0, e1, e2, e3, rfl, n, e4, e5⟩
  · rw [hk] at e1; cases e1
  · obtain rfl := e5 v rfl
    rcases hcl with rfl | ⟨c', rfl⟩
    · exact absurd (show cl'.lookup x = some c from e2) (by rw [hl]; exact fun z => nomatch z)
    · have : c' = c := by simpa [cenvOf] using e2
      subst this
      exact ⟨c', oc, rfl, .head _, e4⟩
theorem clx {x : Str} {cl cl' : List (Str × Addr)} {y : Str} {c : Addr} (hcl : cl' = cl ∨ ∃ c, cl' = (x, c) :: cl) (hn : (y == x) = false) (h : cl.lookup y = some c) : cl'.lookup y = some c := by
  rcases hcl with rfl | ⟨c', rfl⟩
  · exact h
  · rw [List.lookup_cons, hn]; exact h

theorem st6 {w : World} {mean : ExcName → Option Value} {mg mb : Str → Option Value} {gd : Option (List Code)} {dp un : Nat} {A₀ : Around} {base h₀ : Heap} {S : Stmt} {rr : List Stmt} {sc : Scope} {L fa : Addr} {cd : Value} {s : Shared} {m : Str → Option Value} {led : List (Addr × Obj)} {c1 c2 c3 c4 c5 Mt : Addr} {o1 o3 o4 oM : Obj} {items : Array Value} {Q : Flow → Shared → Prop} {E : Value → Shared → Prop} {t : List Nat} {tt : Tok}
  (hS : lawDef.body.drop 5 = S :: rr) (hsc : lawDef.scope = sc)
  (B : Below A₀ base [] h₀) (F : Fr h₀ L s.heap m) (X : (Mine.K1 w.params).In h₀) (N : News h₀ L s.heap led) (T : Top Mine.q1 (looseW Mine.q1 lz) mean mg mb h₀) (XB : (Mine.K1 w.params).In base) (TB : Top Mine.q1 (looseW Mine.q1 lz) mean mg mb base)
  (hmid : (c1, o1) ∈ led) (hm3 : (c3, o3) ∈ led) (hmt : (c4, o4) ∈ led) (hmM : (Mt, oM) ∈ led) (homid : o1.data = .cell (some (.str (mkS t) tt))) (ho3 : o3.data = .cell (some (.ref Mt))) (hot : o4.data = .cell none) (hM : MarksObj oM items)
  (htl : t.length ≤ 10) (htc : ∀ c ∈ t, c ≠ 92 ∧ c < 256)
  (hd : dp + 500 < recursionLimit) (hu : un + 2000 < cLine)
  (h : ∀ D h' tk' ot' led', ot'.data = .cell (some (.ref D)) → Fr h₀ L h' m → News h₀ L h' led' → (c4, ot') ∈ led' → (∀ p ∈ led, p.1 ≠ c4 → p ∈ led') → (∀ p ∈ led, p.1 < D) → RelAll (fun b v l => RelAll (fun a v l => SplIs (Mine.sc none none (mk a ++ t ++ mk b)) v l) 3 v l) 3 (.ref D) led' → Q .next { s with heap := h', toks := tk' }) :
  wpAny (model PySem.Challenge.rw_op0238_01.row.prog w) (ktrTop dp un gd (Str.ofString "law") sc L fa cd (lawCl c1 c2 c3 c4 c5) []) (exec S (envX (Str.ofString "law") sc L fa cd (lawCl c1 c2 c3 c4 c5))) Q E s := by
  rw [show lawDef.body.drop 5 = _ :: _ from rfl] at hS
  obtain ⟨rfl, rfl⟩ := List.cons.inj hS
  rw [show lawDef.scope = ⟨_, _, _, _, _⟩ from rfl] at hsc
  subst hsc
  clear hS
  obtain ⟨hMc, nM, hMd⟩ := hM.1
  refine wpAny_Assign_Name (comp_go (h₀ := h₀) (L := L) (m := m) (cl := [(Str.ofString "text", c1), (Str.ofString "marks", c3)]) (by with_unfolding_all rfl) rfl (by decide) (.inr ⟨rfl, fun _ _ => rfl, fun _ => rfl⟩) (fun _ => by with_unfolding_all rfl) ?_) (by with_unfolding_all rfl)
  refine (NameIs.cell (c := c3) (o := o3) (led0 := led) rfl rfl rfl hm3 ho3 (by decide)) _ _ _ _ _ N (fun _ h => h) ?_
  refine go_tuple (items := items) rfl F N ⟨oM, (N _ hmM).1, hMc, nM, hMd⟩ (.inl ⟨_, hmM⟩) (by rw [hM.2.1]; decide) (J := JR (fun b v l => RelAll (fun a v l => SplIs (Mine.sc none none (mk a ++ t ++ mk b)) v l) 3 v l) led) ⟨fun _ h => h, rfl, fun k y hk => nomatch hk⟩ (rel_turn ?_) (fin_ret (rel_ret ?_))
  · intro C cl' b tg v led1 s1 Q1 E1 hcl hb hP ht htg hnw F1 N1 hret
    obtain ⟨vt, rfl⟩ := marks_get hM hb hP
    obtain ⟨cb, ob, rfl, hmb, hob⟩ := tgt_cell (x := Str.ofString "behind") ht rfl rfl hcl
    have hmb := htg _ hmb
    refine comp_go (h₀ := h₀) (L := L) (m := m) (cl := [(Str.ofString "text", c1), (Str.ofString "behind", cb)]) (by with_unfolding_all rfl) rfl (by decide) (.inl ⟨rfl, fun _ _ => rfl, fun _ => rfl⟩) (fun _ => by with_unfolding_all rfl) ?_
    refine (NameIs.cell (c := c3) (o := o3) (led0 := led1) rfl rfl rfl (hnw _ hm3) ho3 (by decide)) _ _ _ _ _ N1 (fun _ h => h) ?_
    refine go_tuple (items := items) rfl F1 N1 ⟨oM, (N1 _ (hnw _ hmM)).1, hMc, nM, hMd⟩ (.inl ⟨_, hnw _ hmM⟩) (by rw [hM.2.1]; decide) (J := JR (fun a v l => SplIs (Mine.sc none none (mk a ++ t ++ mk b)) v l) led1) ⟨fun _ h => h, rfl, fun k y hk => nomatch hk⟩ (rel_turn ?_) (fin_ret (rel_ret ?_))
    · intro C2 cl2 a tg2 v2 led2 s2 Q2 E2 hcl2 ha hP2 ht2 htg2 hnw2 F2 N2 hret2
      obtain ⟨vt2, rfl⟩ := marks_get hM ha hP2
      refine elt_split (a := mk a) (b := t) (c := mk b) B F2 X N2 T XB TB rfl rfl (by omega) (by omega) rfl rfl rfl ((NameIs.tgt ht2 rfl (by decide)).mono htg2) (NameIs.cell (c := c1) (o := o1) rfl rfl (clx hcl2 (by decide) rfl) (hnw2 _ (hnw _ hmid)) homid (by decide)) (NameIs.cell (c := cb) (o := ob) rfl rfl (clx hcl2 (by decide) rfl) (hnw2 _ hmb) hob (by decide)) (by have := mk_len a; omega) (by omega) (by have := mk_len b; omega) ?_ hret2
      exact esc3 (mk_esc _) (fun c hc => (htc c hc).1) (mk_esc _)
    · intro D ys c led' h' tk' F' N' hs hne hlt hlen hrel
      rw [hM.2.1] at hlen
      exact hret _ ((D, lsObj ys c) :: led') h' tk' F' N' (fun p hp => .tail _ (hs p hp)) (relAll_new hlt hlen hrel)
  · intro D ys c led' h' tk' F' N' hs hne hlt hlen hrel
    rw [hM.2.1] at hlen
    have N9 : News h₀ L h' ((c4, o4) :: (D, lsObj ys c) :: led'.filter (fun p => decide (p.1 ≠ c4))) := news_sub N' fun p hp => by
      rcases List.mem_cons.mp hp with rfl | hp
      · exact .tail _ (hs _ hmt)
      · rcases List.mem_cons.mp hp with rfl | hp
        · exact .head _
        · exact .tail _ (List.mem_filter.mp hp).1
    refine store_cell (c := c4) (o := o4) rfl rfl rfl F' N9 (fun p hp => ?_) hot fun h2 ot' F2 N2 hot' => ?_
    · rcases List.mem_cons.mp hp with rfl | hp
      · exact Nat.ne_of_gt (hlt _ hmt)
      · exact of_decide_eq_true (List.mem_filter.mp hp).2
    refine h D h2 tk' ot' _ hot' F2 N2 (.head _) (fun p hp hne => .tail _ (.tail _ (List.mem_filter.mpr ⟨hs p hp, decide_eq_true hne⟩))) hlt ?_
    exact ⟨D, ys, c, rfl, .tail _ (.head _), hlen, fun k y hk => hrel k y hk _ fun p hp hq => .tail _ (.tail _ (List.mem_filter.mpr ⟨hp, decide_eq_true fun z => hq _ hmt z.symm⟩))⟩
end St6_
section St3_
set_option maxRecDepth 100000
set_option maxHeartbeats 8000000

theorem elt_ord {prog : Program} {w : World} {A : Around} {K : Frag} {mg mb : Str → Option Value} {p : Program} {loose : List Str} {mean : ExcName → Option Value} {h₀ : Heap} {L : Addr} {m : Str → Option Value} {led tg : List (Addr × Obj)} {s : Shared} {Q E : Value → Shared → Prop} {cenv : Env} {p1 p2 p3 : Pos} {x : Nat} {t : Tok} (F : Fr h₀ L s.heap m) (X : K.In h₀) (T : Top p loose mean mg mb h₀) (N : News h₀ L s.heap led) (e : nsIn K mainGlobals (Str.ofString "ord") = some none)
    (hm : ∀ p ∈ tg, p ∈ led) (ht : Tgt cenv (Str.ofString "sign") tg (some (.str (mkS [x]) t))) (hg : cenv.globals = mainGlobals) (hb : cenv.builtins = builtinsNs) (hk : cenv.scope.kind = .function) (hx : cenv.kindOf (Str.ofString "ord") = some .globalImplicit)
    (h : ∀ t' tk', Q (.int (x : Int) t') { s with toks := tk' }) :
    wpAny (model prog w) A (eval (.Call (.Name (Str.ofString "ord") p1) [.Name (Str.ofString "sign") p2] [] p3) cenv) Q E s := by
  refine call_builtin (id := "ord") F X T e (by kernel_rfl) (by decide) hg hb hk hx rfl rfl (sp1 (nameT N hm ht hk ?_ (by decide))) (by decide)
  exact P.ord_of_char (h _ _)
noncomputable abbrev u8 (t : List Nat) : List UInt8 := t.map fun c => c.toUInt8
theorem u8_back {t : List Nat} (h : ∀ c ∈ t, c ≠ 92 ∧ c < 256) : (u8 t).reverse.map (·.toNat) = t.reverse := by
  rw [← List.map_reverse, List.map_map]
  have : ∀ l : List Nat, (∀ c ∈ l, c < 256) → l.map ((·.toNat) ∘ fun c => c.toUInt8) = l := by
    intro l
    induction l with
    | nil => intro _; rfl
    | cons c r ih =>
      intro hc
      rw [List.map_cons, ih (fun d hd => hc d (.tail _ hd))]
      have : c < 256 := hc c (.head _)
      congr 1
      simp only [Function.comp]
      show c.toUInt8.toNat = c
      simp
      omega
  exact this _ fun c hc => (h c (List.mem_reverse.mp hc)).2
theorem st3 {w : World} {mean : ExcName → Option Value} {mg mb : Str → Option Value} {gd : Option (List Code)} {dp un : Nat} {A₀ : Around} {base h₀ : Heap} {S : Stmt} {rr : List Stmt} {sc : Scope} {L fa : Addr} {cd : Value} {s : Shared} {m : Str → Option Value} {c1 c2 c3 c4 c5 : Addr} {o1 : Obj} {led : List (Addr × Obj)} {Q : Flow → Shared → Prop} {E : Value → Shared → Prop} {t : List Nat} {tt : Tok}
  (hS : lawDef.body.drop 2 = S :: rr) (hsc : lawDef.scope = sc)
  (B : Below A₀ base [] h₀) (F : Fr h₀ L s.heap m) (X : (Mine.K1 w.params).In h₀) (N : News h₀ L s.heap led) (T : Top Mine.q1 (looseW Mine.q1 lz) mean mg mb h₀)
  (hm1 : (c1, o1) ∈ led) (ho1 : o1.data = .cell (some (.str (mkS t) tt))) (ht0 : t ≠ []) (htl : t.length ≤ 10) (htc : ∀ c ∈ t, c ≠ 92 ∧ c < 256)
  (hd : dp + 500 < recursionLimit)
  (h : ∀ bt h' tk', Fr h₀ L h' (fun y => if y = Str.ofString "octets" then some (.bytes (u8 t).reverse.toArray bt) else m y) → News h₀ L h' led → Q .next { s with heap := h', toks := tk' }) :
  wpCl (model PySem.Challenge.rw_op0238_01.row.prog w) (ktrTop dp un gd (Str.ofString "law") sc L fa cd (lawCl c1 c2 c3 c4 c5) []) (exec S (envX (Str.ofString "law") sc L fa cd (lawCl c1 c2 c3 c4 c5))) Q E s := by
  rw [show lawDef.body.drop 2 = _ :: _ from rfl] at hS
  obtain ⟨rfl, rfl⟩ := List.cons.inj hS
  rw [show lawDef.scope = ⟨_, _, _, _, _⟩ from rfl] at hsc
  subst hsc
  clear hS
  obtain ⟨hh, gg, dd, tk, os⟩ := s
  obtain ⟨o, fd, ho, hfd⟩ : ∃ o fd, (K1 w.params).lookup 788 = some o ∧ o.data = .func fd := by
    have hf : isDef (K1 w.params) 788 = true := by kernel_rfl
    unfold isDef at hf
    cases hq : (K1 w.params).lookup 788 with
    | none => simp [hq] at hf
    | some o =>
      cases hd : o.data with
      | func fd => exact ⟨o, fd, rfl, hd⟩
      | _ => simp [hq, hd] at hf
  refine wpCl_Assign_Name ?_ (by with_unfolding_all rfl)
  refine wpCl_Call_Name (trees := [(false, eval _ _), (false, eval _ _)]) rfl (name_K F X T (v := .ref 788) (by kernel_rfl) rfl rfl rfl ?_ (by decide))
  refine wpCl_callWith_function (o := o) (fd := fd) (evalArgs_plain (sp2 ?_))
  refine call_typ (id := "bytes") (t1 := eval _ _) (tr := []) F X T (by kernel_rfl) (by kernel_rfl) (by decide) rfl rfl rfl rfl rfl rfl (sp1 ?_) (by decide)
  refine comp_go (h₀ := h₀) (L := L) (m := m) (cl := []) (by with_unfolding_all rfl) rfl (by decide) (.inl ⟨rfl, fun _ _ => rfl, fun _ => rfl⟩) (fun _ => by with_unfolding_all rfl) ?_
  refine (NameIs.cell (c := c1) (o := o1) (led0 := led) rfl rfl rfl hm1 ho1 (by decide)) _ _ _ _ _ N (fun _ h => h) ?_
  refine go_str rfl F N (by simp; omega) (J := fun i ys nw => nw = led ∧ ys.length = i ∧ IntsAre ys ((t.take i).map fun c : Nat => (c : Int))) ⟨rfl, rfl, by simpa using IntsAre.nil⟩ ?_ (fin_ret ?_)
  · intro C cl' i ys nw sp tg v s₃ E' hcl hi hP hJ ht hsub hnw F3 N3 hd3
    obtain ⟨c, u, hci, rfl⟩ := hP
    refine tests_nil ?_
    rw [if_pos rfl]
    refine elt_ord (x := c) (t := u) F3 X T N3 (by kernel_rfl) (fun p hp => List.mem_append_left _ (hsub p hp)) ht rfl rfl rfl rfl ?_
    intro t' tk'
    obtain ⟨rfl, rfl, hcs⟩ := hJ
    refine ⟨_, s₃.heap, tk', rfl, F3, N3, fun _ h => h, hd3, rfl, by simp, ?_⟩
    rw [List.getElem?_toArray] at hci
    rw [List.take_add_one, hci]
    simp only [Option.toList_some, List.map_append, List.map_cons, List.map_nil]
    exact intsAre_snoc hcs _ _
  · rintro D ys c h' tk' nw hyl ⟨rfl, hlen, hcs⟩ F' N' hne hsub hlt
    rw [show (mkS t).cps.size = t.length by simp, List.take_length] at hcs
    have hyl' : ys.length ≤ 10 := by have : (mkS t).cps.size = t.length := by simp
                                     omega
    dsimp only
    refine bytes_K F' N' ⟨_, (N' _ (.head _)).1, rfl, _, rfl⟩ hcs (fun n hn => ?_) (by rw [sizeLine_eq]; omega) rfl fun h2 bt k F2 N2 _ => ?_
    · obtain ⟨c, hc, rfl⟩ := List.mem_map.mp hn
      have := (htc c hc).2
      omega
    have N2' := news_sub N2 (fun p hp => List.mem_cons_of_mem _ hp)
    refine call_builtin (id := "len") (t1 := eval _ _) (tr := []) F2 X T (by kernel_rfl) (by kernel_rfl) (by decide) rfl rfl rfl rfl rfl rfl (sp1 ?_) (by decide)
    refine (NameIs.cell (c := c1) (o := o1) (led0 := nw) rfl rfl rfl hm1 ho1 (by decide)) _ _ _ _ _ N2' (fun _ h => h) ?_
    refine P.len_str (by rw [mkS_len]; omega) ?_
    have hlen8 : ((t.map fun c : Nat => (c : Int)).map fun n => n.toNat.toUInt8) = u8 t := by
      rw [List.map_map]; rfl
    have hl8 : (u8 t).length = t.length := List.length_map _
    rw [hlen8]
    refine ⟨⟨X.keeps F2.keep _ _ ho, hfd⟩, ?_⟩
    have e9 : ((mkS t).length : Int) = ((u8 t).length : Int) := by rw [mkS_len, hl8]
    show wpCl _ _ (call (.ref 788) [.bytes (u8 t).toArray bt, .int ((mkS t).length : Int) _]) _ _ _
    rw [e9]
    refine bs_ct B F2 X N2' T rfl rfl (by rw [hl8]; exact List.length_pos_iff.mpr ht0) (by omega) (by omega) fun bt' h3 tk3 F3 N3 => ?_
    refine storeX_L F3 N3 (fun h4 F4 N4 => ?_) rfl rfl
    exact h _ _ _ F4 N4
end St3_
section St5_
set_option maxRecDepth 100000
set_option maxHeartbeats 8000000

theorem rot6 {h₀ h : Heap} {L : Addr} {a b c d e f : Addr × Obj} (N : News h₀ L h [a, b, c, d, e, f]) : News h₀ L h [d, b, c, e, f, a] := news_sub N (by intro p hp; simp only [List.mem_cons, List.not_mem_nil, or_false] at hp ⊢; rcases hp with h | h | h | h | h | h <;> simp [h])
theorem rot6' {h₀ h : Heap} {L : Addr} {a b c d e f : Addr × Obj} (N : News h₀ L h [d, b, c, e, f, a]) : News h₀ L h [b, c, d, e, f, a] := news_sub N (by intro p hp; simp only [List.mem_cons, List.not_mem_nil, or_false] at hp ⊢; rcases hp with h | h | h | h | h | h <;> simp [h])
theorem st5 {w : World} {mean : ExcName → Option Value} {mg mb : Str → Option Value} {gd : Option (List Code)} {dp un : Nat} {A₀ : Around} {base h₀ : Heap} {S : Stmt} {rr : List Stmt} {sc : Scope} {L fa : Addr} {cd : Value} {s : Shared} {m : Str → Option Value} {c1 c2 c3 c4 c5 : Addr} {o1 o2 o3 o4 o5 : Obj} {Q : Flow → Shared → Prop} {E : Value → Shared → Prop}
  (hS : lawDef.body.drop 4 = S :: rr) (hsc : lawDef.scope = sc)
  (B : Below A₀ base [] h₀) (F : Fr h₀ L s.heap m) (X : (Mine.K1 w.params).In h₀) (N : News h₀ L s.heap [(c5,o5),(c4,o4),(c3,o3),(c2,o2),(c1,o1)]) (T : Top Mine.q1 (looseW Mine.q1 lz) mean mg mb h₀)
  (ho3 : o3.data = .cell none) (hcc : c3 ≠ c1 ∧ c3 ≠ c2 ∧ c3 ≠ c4 ∧ c3 ≠ c5)
  (h : ∀ Mt oM items h' tk' o3', o3'.data = .cell (some (.ref Mt)) → MarksObj oM items → Fr h₀ L h' m → News h₀ L h' [(c5,o5),(c4,o4),(c3,o3'),(c2,o2),(c1,o1),(Mt,oM)] → c5 < Mt ∧ c4 < Mt ∧ c3 < Mt ∧ c2 < Mt ∧ c1 < Mt → Q .next { s with heap := h', toks := tk' }) :
  wpAny (model PySem.Challenge.rw_op0238_01.row.prog w) (ktrTop dp un gd (Str.ofString "law") sc L fa cd (lawCl c1 c2 c3 c4 c5) []) (exec S (envX (Str.ofString "law") sc L fa cd (lawCl c1 c2 c3 c4 c5))) Q E s := by
  rw [show lawDef.body.drop 4 = _ :: _ from rfl] at hS
  obtain ⟨rfl, rfl⟩ := List.cons.inj hS
  rw [show lawDef.scope = ⟨_, _, _, _, _⟩ from rfl] at hsc
  subst hsc
  clear hS
  obtain ⟨hh, gg, dd, tk, os⟩ := s
  obtain ⟨hc1, hc2, hc4, hc5⟩ := hcc
  w_on
  k_fill
  k_steps
  rename News _ _ _ (_ :: _ :: _ :: _ :: _ :: _ :: _) => N1
  rename Fr _ _ _ _ => F1
  rename _ ∧ _ ∧ _ ∧ _ ∧ _ => hl
  have hD3 := Nat.ne_of_gt hl.2.2.1
  refine store_cell (c := c3) (o := o3) rfl rfl rfl F1 (rot6 N1) ?_ ho3 fun h'' o' F'' N'' ho' => ?_
  · intro p hp
    rcases List.mem_cons.mp hp with rfl | hp
    · exact Ne.symm hc5
    · rcases List.mem_cons.mp hp with rfl | hp
      · exact Ne.symm hc4
      · rcases List.mem_cons.mp hp with rfl | hp
        · exact Ne.symm hc2
        · rcases List.mem_cons.mp hp with rfl | hp
          · exact Ne.symm hc1
          · rw [List.mem_singleton.mp hp]; exact hD3
  · exact h _ _ #[.str (Str.ofString "") _, .str (Str.ofString "'") _, .str (Str.ofString "\"") _] _ _ _ ho' ⟨⟨rfl, _, rfl⟩, rfl, _, _, _, by rw [em_s, q1_s, q2_s]⟩ F'' (rot6' N'') hl
end St5_
section St7_
set_option maxRecDepth 100000
set_option maxHeartbeats 8000000

theorem st7 {w : World} {mean : ExcName → Option Value} {mg mb : Str → Option Value} {gd : Option (List Code)} {dp un : Nat} {A₀ : Around} {base h₀ : Heap} {S : Stmt} {rr : List Stmt} {sc : Scope} {L fa : Addr} {cd : Value} {s : Shared} {m : Str → Option Value} {led : List (Addr × Obj)} {c1 c2 c3 c4 c5 Mt : Addr} {o2 o3 o5 oM : Obj} {items : Array Value} {Q : Flow → Shared → Prop} {E : Value → Shared → Prop} {t : List Nat} {tt : Tok}
  (hS : lawDef.body.drop 6 = S :: rr) (hsc : lawDef.scope = sc)
  (B : Below A₀ base [] h₀) (F : Fr h₀ L s.heap m) (X : (Mine.K1 w.params).In h₀) (N : News h₀ L s.heap led) (T : Top Mine.q1 (looseW Mine.q1 lz) mean mg mb h₀) (XB : (Mine.K1 w.params).In base) (TB : Top Mine.q1 (looseW Mine.q1 lz) mean mg mb base)
  (hmid : (c2, o2) ∈ led) (hm3 : (c3, o3) ∈ led) (hmt : (c5, o5) ∈ led) (hmM : (Mt, oM) ∈ led) (homid : o2.data = .cell (some (.str (mkS t) tt))) (ho3 : o3.data = .cell (some (.ref Mt))) (hot : o5.data = .cell none) (hM : MarksObj oM items)
  (htl : t.length ≤ 10) (htc : ∀ c ∈ t, c ≠ 92 ∧ c < 256)
  (hd : dp + 500 < recursionLimit) (hu : un + 2000 < cLine)
  (h : ∀ D h' tk' ot' led', ot'.data = .cell (some (.ref D)) → Fr h₀ L h' m → News h₀ L h' led' → (c5, ot') ∈ led' → (∀ p ∈ led, p.1 ≠ c5 → p ∈ led') → (∀ p ∈ led, p.1 < D) → RelAll (fun b v l => RelAll (fun a v l => SplIs (Mine.sc none none (mk b ++ t ++ mk a)) v l) 3 v l) 3 (.ref D) led' → Q .next { s with heap := h', toks := tk' }) :
  wpAny (model PySem.Challenge.rw_op0238_01.row.prog w) (ktrTop dp un gd (Str.ofString "law") sc L fa cd (lawCl c1 c2 c3 c4 c5) []) (exec S (envX (Str.ofString "law") sc L fa cd (lawCl c1 c2 c3 c4 c5))) Q E s := by
  rw [show lawDef.body.drop 6 = _ :: _ from rfl] at hS
  obtain ⟨rfl, rfl⟩ := List.cons.inj hS
  rw [show lawDef.scope = ⟨_, _, _, _, _⟩ from rfl] at hsc
  subst hsc
  clear hS
  obtain ⟨hMc, nM, hMd⟩ := hM.1
  refine wpAny_Assign_Name (comp_go (h₀ := h₀) (L := L) (m := m) (cl := [(Str.ofString "marks", c3), (Str.ofString "back", c2)]) (by with_unfolding_all rfl) rfl (by decide) (.inr ⟨rfl, fun _ _ => rfl, fun _ => rfl⟩) (fun _ => by with_unfolding_all rfl) ?_) (by with_unfolding_all rfl)
  refine (NameIs.cell (c := c3) (o := o3) (led0 := led) rfl rfl rfl hm3 ho3 (by decide)) _ _ _ _ _ N (fun _ h => h) ?_
  refine go_tuple (items := items) rfl F N ⟨oM, (N _ hmM).1, hMc, nM, hMd⟩ (.inl ⟨_, hmM⟩) (by rw [hM.2.1]; decide) (J := JR (fun b v l => RelAll (fun a v l => SplIs (Mine.sc none none (mk b ++ t ++ mk a)) v l) 3 v l) led) ⟨fun _ h => h, rfl, fun k y hk => nomatch hk⟩ (rel_turn ?_) (fin_ret (rel_ret ?_))
  · intro C cl' b tg v led1 s1 Q1 E1 hcl hb hP ht htg hnw F1 N1 hret
    obtain ⟨vt, rfl⟩ := marks_get hM hb hP
    obtain ⟨cb, ob, rfl, hmb, hob⟩ := tgt_cell (x := Str.ofString "behind") ht rfl rfl hcl
    have hmb := htg _ hmb
    refine comp_go (h₀ := h₀) (L := L) (m := m) (cl := [(Str.ofString "behind", cb), (Str.ofString "back", c2)]) (by with_unfolding_all rfl) rfl (by decide) (.inl ⟨rfl, fun _ _ => rfl, fun _ => rfl⟩) (fun _ => by with_unfolding_all rfl) ?_
    refine (NameIs.cell (c := c3) (o := o3) (led0 := led1) rfl rfl rfl (hnw _ hm3) ho3 (by decide)) _ _ _ _ _ N1 (fun _ h => h) ?_
    refine go_tuple (items := items) rfl F1 N1 ⟨oM, (N1 _ (hnw _ hmM)).1, hMc, nM, hMd⟩ (.inl ⟨_, hnw _ hmM⟩) (by rw [hM.2.1]; decide) (J := JR (fun a v l => SplIs (Mine.sc none none (mk b ++ t ++ mk a)) v l) led1) ⟨fun _ h => h, rfl, fun k y hk => nomatch hk⟩ (rel_turn ?_) (fin_ret (rel_ret ?_))
    · intro C2 cl2 a tg2 v2 led2 s2 Q2 E2 hcl2 ha hP2 ht2 htg2 hnw2 F2 N2 hret2
      obtain ⟨vt2, rfl⟩ := marks_get hM ha hP2
      refine elt_split (a := mk b) (b := t) (c := mk a) B F2 X N2 T XB TB rfl rfl (by omega) (by omega) rfl rfl rfl (NameIs.cell (c := cb) (o := ob) rfl rfl (clx hcl2 (by decide) rfl) (hnw2 _ hmb) hob (by decide)) (NameIs.cell (c := c2) (o := o2) rfl rfl (clx hcl2 (by decide) rfl) (hnw2 _ (hnw _ hmid)) homid (by decide)) ((NameIs.tgt ht2 rfl (by decide)).mono htg2) (by have := mk_len b; omega) (by omega) (by have := mk_len a; omega) ?_ hret2
      exact esc3 (mk_esc _) (fun c hc => (htc c hc).1) (mk_esc _)
    · intro D ys c led' h' tk' F' N' hs hne hlt hlen hrel
      rw [hM.2.1] at hlen
      exact hret _ ((D, lsObj ys c) :: led') h' tk' F' N' (fun p hp => .tail _ (hs p hp)) (relAll_new hlt hlen hrel)
  · intro D ys c led' h' tk' F' N' hs hne hlt hlen hrel
    rw [hM.2.1] at hlen
    have N9 : News h₀ L h' ((c5, o5) :: (D, lsObj ys c) :: led'.filter (fun p => decide (p.1 ≠ c5))) := news_sub N' fun p hp => by
      rcases List.mem_cons.mp hp with rfl | hp
      · exact .tail _ (hs _ hmt)
      · rcases List.mem_cons.mp hp with rfl | hp
        · exact .head _
        · exact .tail _ (List.mem_filter.mp hp).1
    refine store_cell (c := c5) (o := o5) rfl rfl rfl F' N9 (fun p hp => ?_) hot fun h2 ot' F2 N2 hot' => ?_
    · rcases List.mem_cons.mp hp with rfl | hp
      · exact Nat.ne_of_gt (hlt _ hmt)
      · exact of_decide_eq_true (List.mem_filter.mp hp).2
    refine h D h2 tk' ot' _ hot' F2 N2 (.head _) (fun p hp hne => .tail _ (.tail _ (List.mem_filter.mpr ⟨hs p hp, decide_eq_true hne⟩))) hlt ?_
    exact ⟨D, ys, c, rfl, .tail _ (.head _), hlen, fun k y hk => hrel k y hk _ fun p hp hq => .tail _ (.tail _ (List.mem_filter.mpr ⟨hp, decide_eq_true fun z => hq _ hmt z.symm⟩))⟩
end St7_
section En_
set_option maxRecDepth 100000
set_option maxHeartbeats 4000000

section
variable {prog : Program} {w : World} {A : Around} {E : Value → Shared → Prop} {s : Shared}
theorem nextOf_tup {it t : Addr} {i : Nat} {items} {x : Value} {Q : Value → Shared → Prop} (hit : s.heap.IsTupleIter it t i) (ht : s.heap.IsTuple t items) (hx : items[i]? = some x)
    (hQ : ∀ h', h'.IsTupleIter it t (i + 1) → Heap.SameBut it s.heap h' → Q x { s with heap := h' }) : wpAny (model prog w) A (Builtin.SmallTypes.nextOf (.ref it)) Q E s := by
  obtain ⟨o, ho, hc, hd⟩ := id hit
  obtain ⟨ol, hol, _, nl, hdl⟩ := ht
  unfold Builtin.SmallTypes.nextOf
  refine wpAny_bind (wpAny_callSpecial?_slot (name := Str.ofString "__next__") hit.typeIs F.slot_tuple_iterator_next (wpAny_call_entry F.slot_tuple_iterator_next hit.typeIs F.entry_tuple_iterator_next ?_ (F.args_tuple_iterator_next_1 _)))
  show wpAny _ _ (field (.ref it) 0 >>= _) _ _ s
  refine wpAny_bind (wpAny_field ho hd (x := .ref t) rfl ?_)
  show wpAny _ _ (if (Value.ref t == Value.none) = true then _ else _) _ _ s
  rw [if_neg (show ¬ ((Value.ref t == Value.none) = true) from Bool.false_ne_true)]
  show wpAny _ _ (field (.ref it) 1 >>= _) _ _ s
  refine wpAny_bind (wpAny_field ho hd (x := .int i 0) rfl ?_)
  show wpAny _ _ (seqItems? (.ref t) >>= _) _ _ s
  refine wpAny_bind (wpAny_seqItems hol hdl ?_)
  simp only [Int.toNat_natCast, hx]
  refine wpAny_bind (wpAny_setField ho hd (by simp) (wpAny_pure ⟨x, rfl, wpAny_pure (hQ _ ?_ (Heap.SameBut.update ..))⟩))
  exact ⟨_, Heap.get?_update_self _ ho (Obj.isFreed_of_fields (Obj.data_mapFields hd _)), (Obj.cls_mapFields ..).trans hc, by rw [Obj.data_mapFields hd]; simp [rawInt]⟩
theorem nextOf_tup_end {it t : Addr} {i : Nat} {items} {Q : Value → Shared → Prop} (hh : A.handled = none) (hit : s.heap.IsTupleIter it t i) (ht : s.heap.IsTuple t items) (hx : items[i]? = none)
    (hE : ∀ h' e, Heap.ExtBut it s.heap h' → (∃ o, h'.get? e = some o ∧ o.cls = .type "StopIteration") → E (.ref e) { s with heap := h' }) : wpAny (model prog w) A (Builtin.SmallTypes.nextOf (.ref it)) Q E s := by
  obtain ⟨o, ho, hc, hd⟩ := id hit
  obtain ⟨ol, hol, _, nl, hdl⟩ := ht
  unfold Builtin.SmallTypes.nextOf
  refine wpAny_bind (wpAny_callSpecial?_slot (name := Str.ofString "__next__") hit.typeIs F.slot_tuple_iterator_next (wpAny_call_entry F.slot_tuple_iterator_next hit.typeIs F.entry_tuple_iterator_next ?_ (F.args_tuple_iterator_next_1 _)))
  show wpAny _ _ (field (.ref it) 0 >>= _) _ _ s
  refine wpAny_bind (wpAny_field ho hd (x := .ref t) rfl ?_)
  show wpAny _ _ (if (Value.ref t == Value.none) = true then _ else _) _ _ s
  rw [if_neg (show ¬ ((Value.ref t == Value.none) = true) from Bool.false_ne_true)]
  show wpAny _ _ (field (.ref it) 1 >>= _) _ _ s
  refine wpAny_bind (wpAny_field ho hd (x := .int i 0) rfl ?_)
  show wpAny _ _ (seqItems? (.ref t) >>= _) _ _ s
  refine wpAny_bind (wpAny_seqItems hol hdl ?_)
  simp only [Int.toNat_natCast, hx]
  refine wpAny_bind (wpAny_rule (wpAny_bind (wpAny_setField ho hd (by simp) ?_)))
  show wpAny _ _ (newExc (.type "StopIteration") [] >>= _) _ _ _
  refine wpAny_bind ?_
  simp only [newExc, newTuple]
  refine wpAny_bind (wpAny_newObj_type ?_ (by size_fits))
  refine wpAny_bind (m := firstArgMember _ _) (wpAny_of_eq (a := Value.none) (by first | rfl | (simp only [firstArgMember]; rfl)) ?_)
  refine wpAny_newObj_type ?_ (by size_fits)
  simp only [raiseNew]
  refine wpAny_bind (wpAny_handled ?_)
  first | rw [show A.in1.handled = none from hh] | rw [hh]
  refine wpAny_bind (wpAny_pure (wpAny_throw ?_))
  exact hE _ _ (((Heap.SameBut.update ..).extBut.push _).push _) ⟨_, Heap.get?_push_size _ rfl, rfl⟩
end
theorem drawsTuple {prog : Program} {w : World} {A : Around} (hh : A.handled = none) (it t : Addr) (hne : t ≠ it) (items : Array Value) :
    Draws prog w A it [it, t] items.size (fun i v => items[i]? = some v) (fun i h => h.IsTupleIter it t i ∧ h.IsTuple t items) where
  live := fun _ _ st => let ⟨o, ho, _⟩ := st.1; ⟨o, ho⟩
  frame := fun _ _ _ st hk => ⟨st.1.at fun o e => hk it (by simp) o e, st.2.at fun o e => hk t (by simp) o e⟩
  item := fun i s Q E hi st hQ => by
    refine nextOf_tup st.1 st.2 (x := items[i]) (by simp [hi]) fun h' hit' hs' => ?_
    exact hQ _ h' s.toks (by simp [hi]) ⟨hit', st.2.extBut hs'.extBut hne⟩ hs'
  done := fun s Q E st hE => nextOf_tup_end hh st.1 st.2 (by simp) hE
open PySem.AutoSeq1 (wpAny_loadPart') in
theorem meets_enum_tup (l : Addr) (items : Array Value) (n : Nat) (dct : Option Addr) (sl : Array (Option Value)) :
    Meets (Builtin.«enumerate.__new__» ⟨[.type "enumerate", .ref l], []⟩) (fun _ R s => s.heap.get? l = some { cls := .type "tuple", dict := dct, data := .seq items n, slots := sl } ∧
      R (.ok (.ret (.ref (s.heap.push { cls := .type "tuple_iterator", data := .fields #[.ref l, .int 0 0] }).objs.size)))
        { s with heap := (s.heap.push { cls := .type "tuple_iterator", data := .fields #[.ref l, .int 0 0] }).push { cls := .type "enumerate", data := .fields #[.none, .bool false, .ref s.heap.objs.size, rawInt 0, .none, .none] } }) :=
  .of_wp fun prog w A R s h => by
    obtain ⟨hp, g, d, tk, os⟩ := s; obtain ⟨hl, h⟩ := h
    have hsub := sub_enumerate
    have hL : Heap.IsTuple (Shared.heap ⟨hp, g, d, tk, os⟩) l items := ⟨_, hl, rfl, n, rfl⟩
    wp_walk using wpAny_loadPart' hl
    refine wpAny_stack_any fun st => wpAny_pure ?_
    split
    · rename_i c _ _ _ _ _
      cases (c == Value.type "enumerate")
      · wp_walk using wpAny_loadPart' hl, wpAny_pyIter_tuple hL
        exact ⟨_, rfl, h⟩
      · wp_walk using wpAny_loadPart' hl, wpAny_pyIter_tuple hL
        exact ⟨_, rfl, h⟩
    · wp_walk using wpAny_loadPart' hl, wpAny_pyIter_tuple hL
      exact ⟨_, rfl, h⟩
section
variable {prog : Program} {w : World} {A : Around} {E : Value → Shared → Prop} {s : Shared}
theorem call_enum_tup {l : Addr} {items : Array Value} {Q : Value → Shared → Prop} (hL : s.heap.IsTuple l items)
    (h : ∀ h', h' = (s.heap.push { cls := .type "tuple_iterator", data := .fields #[.ref l, .int 0 0] }).push { cls := .type "enumerate", data := .fields #[.none, .bool false, .ref s.heap.objs.size, rawInt 0, .none, .none] } →
      IsEnum h' (s.heap.objs.size + 1) s.heap.objs.size 0 .none → h'.IsTupleIter s.heap.objs.size l 0 → Q (.ref (s.heap.objs.size + 1)) { s with heap := h' }) :
    wpAny (model prog w) A (call (.type "enumerate") [.ref l]) Q E s := by
  obtain ⟨⟨c, dct, dt, sl⟩, hl, hc, n, hd⟩ := hL
  replace hc : c = .type "tuple" := hc
  replace hd : dt = .seq items n := hd
  subst hc hd
  refine callType_new F.called_enumerate (by decide) (F.typeCall_enumerate_1 _) (F.newCall_enumerate_1 _) (fun obj => F.args_object_init_2 obj _) F.entry_enumerate_new (meets_enum_tup l items n dct sl) ⟨hl, ?_⟩
  have hz : (s.heap.push { cls := .type "tuple_iterator", data := .fields #[.ref l, .int 0 0] }).objs.size = s.heap.objs.size + 1 := Heap.size_push ..
  show _ ∧ _
  rw [hz]
  have he : IsEnum ((s.heap.push { cls := .type "tuple_iterator", data := .fields #[.ref l, .int 0 0] }).push { cls := .type "enumerate", data := .fields #[.none, .bool false, .ref s.heap.objs.size, rawInt 0, .none, .none] }) (s.heap.objs.size + 1) s.heap.objs.size 0 .none := by
    have := Heap.get?_push_size (s.heap.push { cls := .type "tuple_iterator", data := .fields #[.ref l, .int 0 0] }) (o := { cls := .type "enumerate", data := .fields #[.none, .bool false, .ref s.heap.objs.size, rawInt 0, .none, .none] }) rfl
    rw [hz] at this; exact this
  exact ⟨⟨_, he, rfl⟩, h _ rfl he ⟨_, Heap.get?_push_of_some _ (Heap.get?_push_size _ rfl), rfl, rfl⟩⟩
end
end En_
section In2_
set_option maxRecDepth 100000
set_option maxHeartbeats 4000000

section
variable {prog : Program} {w : World} {A : Around} {E : Value → Shared → Prop} {s : Shared} {h₀ : Heap} {env : Env} {m : Str → Option Value} {nw : List (Addr × Obj)}
theorem owned_tupiter {elts : List Expr} {k : Nat} {pos : Pos} {I l T : Addr} {i : Nat} {Q : Unit → Shared → Prop} (hit : s.heap.IsTupleIter I l i) (hQ : Q () s) :
    wpAny (model prog w) A (letOwnedTupleGo (.Tuple elts k pos) (.ref I) (.ref T)) Q E s := by
  obtain ⟨o, ho, hc, hd⟩ := hit
  unfold letOwnedTupleGo
  refine wpAny_bind (wpAny_load ho ?_)
  rw [hc, hd]
  show wpAny _ A (if (["enumerate", "zip", "dict_itemiterator", "dict_reverseitemiterator", "odict_iterator", "itertools.zip_longest", "itertools.pairwise"].contains "tuple_iterator" && (#[.ref l, .int i 0] : Array Value)[0]? == some (rawInt T)) = true then _ else _) Q E s
  rw [if_neg (by
    intro h
    rw [show (["enumerate", "zip", "dict_itemiterator", "dict_reverseitemiterator", "odict_iterator", "itertools.zip_longest", "itertools.pairwise"].contains "tuple_iterator") = false from by decide, Bool.false_and] at h
    cases h)]
  exact wpAny_pure hQ
/-- a pair unpacked into two local names -/
theorem asg2 {x y : Str} {p1 p2 pt : Pos} {k : Nat} {T : Addr} {a b : Value} {Q : Unit → Shared → Prop} (hh : A.handled = none) (hk : env.scope.kind = .function) (hx : env.kindOf x = some .local) (hy : env.kindOf y = some .local)
    (F : Fr h₀ env.locals s.heap m) (N : News h₀ env.locals s.heap nw) (ht : s.heap.IsTuple T #[a, b])
    (h : ∀ h' tk', Fr h₀ env.locals h' (fun z => if z = y then some b else if z = x then some a else m z) → News h₀ env.locals h' nw → Q () { s with heap := h', toks := tk' }) :
    wpAny (model prog w) A (assign (.Tuple [.Name x p1, .Name y p2] k pt) env (.ref T)) Q E s := by
  refine wpAny_assign_Tuple hh ht rfl rfl fun h1 hx1 => ?_
  have hkp : ∀ c o, s.heap.get? c = some o → h1.get? c = some o := fun c o e => hx1 c o (Nat.ne_of_lt (Heap.lt_size e)) e
  have F1 := F.keeps hkp
  have N1 := N.grown hkp
  refine wpAny_assignInOrder_more (wpAny_assign_Name (wpAny_storeName_local hx F1.ns (fun h2 hn2 hs2 => ?_) (by rw [hk]; rfl)))
  have F2 := F1.set hn2 hs2
  have N2 := N1.set hs2
  refine wpAny_assignInOrder_more (wpAny_assign_Name (wpAny_storeName_local hy F2.ns (fun h3 hn3 hs3 => ?_) (by rw [hk]; rfl)))
  exact wpAny_assignInOrder_none (h _ _ (F2.set hn3 hs3) (N2.set hs3))
/-- a loop over the rows of a tuple that stood before, with break and else -/
theorem for_rows {iter : Expr} {x y : Str} {p1 p2 pt pos : Pos} {k : Nat} {body orelse : List Stmt} {ax : Addr} {items : Array Value} {row : Nat → Value × Value} {Q : Flow → Shared → Prop}
    (J K : (Nat) → (Str → Option Value) → List (Addr × Obj) → Prop)
    (hh : A.handled = none) (hk : env.scope.kind = .function) (hx : env.kindOf x = some .local) (hy : env.kindOf y = some .local) (hs : ∀ x, foldedSetIterable iter env x = pure x)
    (F : Fr h₀ env.locals s.heap m) (N : News h₀ env.locals s.heap nw) (hv : ∀ Q' : Value → Shared → Prop, Q' (.ref ax) s → wpAny (model prog w) A (eval iter env) Q' E s)
    (hax : h₀.IsTuple ax items) (hrow : ∀ (i : Nat) v, items[i]? = some v → ∃ T, v = .ref T ∧ h₀.IsTuple T #[(row i).1, (row i).2]) (h0 : J 0 m nw)
    (turn : ∀ i m₁ nw₁ I oI (s₁ : Shared) (QQ : Flow → Shared → Prop) E', i < items.size → J i m₁ nw₁ → Fr h₀ env.locals s₁.heap (fun z => if z = y then some (row i).2 else if z = x then some (row i).1 else m₁ z) → News h₀ env.locals s₁.heap ((I, oI) :: nw₁) → (∀ p ∈ nw₁, p.1 ≠ I) →
      (∀ m₂ nw₂ h' tk', Fr h₀ env.locals h' m₂ → News h₀ env.locals h' ((I, oI) :: nw₂) → (∀ p ∈ nw₂, p.1 ≠ I) → J (i + 1) m₂ nw₂ → QQ .next { s₁ with heap := h', toks := tk' }) →
      (∀ m₂ nw₂ h' tk', Fr h₀ env.locals h' m₂ → News h₀ env.locals h' nw₂ → K 0 m₂ nw₂ → QQ .brk { s₁ with heap := h', toks := tk' }) → wpAny (model prog w) A (execs body env) QQ E' s₁)
    (els : ∀ m₁ nw₁ (s₁ : Shared) (QQ : Flow → Shared → Prop) E', J items.size m₁ nw₁ → Fr h₀ env.locals s₁.heap m₁ → News h₀ env.locals s₁.heap nw₁ →
      (∀ m₂ nw₂ h' tk', Fr h₀ env.locals h' m₂ → News h₀ env.locals h' nw₂ → K 0 m₂ nw₂ → QQ .next { s₁ with heap := h', toks := tk' }) → wpAny (model prog w) A (execs orelse env) QQ E' s₁)
    (fin : ∀ m' nw' h' tk', Fr h₀ env.locals h' m' → News h₀ env.locals h' nw' → K 0 m' nw' → Q .next { s with heap := h', toks := tk' }) :
    wpAny (model prog w) A (exec (.For (.Tuple [.Name x p1, .Name y p2] k pt) iter body orelse pos) env) Q E s := by
  refine wpAny_For (hv _ (wpAny_pyIter_tuple (hax.at fun o e => F.keep _ _ e) ?_)) hs
  have hlt : ax < s.heap.objs.size := by obtain ⟨o, e, _⟩ := hax; exact Heap.lt_size (F.keep _ _ e)
  have W := Walks.tuple (prog := prog) (w := w) (A := A) hh s.heap.objs.size ax (Nat.ne_of_lt hlt) items
  have F0 := F.push ({ cls := .type "tuple_iterator", data := .fields #[.ref ax, .int 0 0] } : Obj)
  have N0 := N.push F ({ cls := .type "tuple_iterator", data := .fields #[.ref ax, .int 0 0] } : Obj)
  have hn0 : ∀ p ∈ nw, p.1 ≠ s.heap.objs.size := fun p hp => Nat.ne_of_lt (Heap.lt_size (N p hp).1)
  generalize hI : s.heap.objs.size = I at W N0 hn0 ⊢
  refine codeAny_forLoop_any (fun kk s' => ∃ h' tk i m' nw' oI', s' = { s with heap := h', toks := tk } ∧ h'.IsTupleIter I ax i ∧ Fr h₀ env.locals h' m' ∧ News h₀ env.locals h' ((I, oI') :: nw') ∧ (∀ p ∈ nw', p.1 ≠ I) ∧ J i m' nw' ∧ i ≤ items.size ∧ kk = items.size + 1 - i) ?_ (items.size + 1)
    ⟨_, s.toks, 0, m, nw, _, rfl, ⟨_, hI ▸ Heap.get?_push_size _ rfl, rfl, rfl⟩, F0, N0, hn0, h0, Nat.zero_le _, rfl⟩
  rintro kk s' ⟨h1, tk1, i, m1, nw1, oI1, rfl, hst1, F1, N1, hn1, hJ, hin, rfl⟩
  have hax1 : h1.IsTuple ax items := hax.at fun o e => F1.keep _ _ e
  by_cases hlt2 : i < items.size
  · refine W.item i _ _ _ hlt2 ⟨hst1, hax1⟩ fun v h2 tk2 hP hst2 hk2 => ?_
    obtain ⟨T, rfl, hT⟩ := hrow i v hP
    obtain ⟨oI2, hoI2, hoI2'⟩ := id hst2.1
    obtain ⟨F2, N2⟩ := led_turn F1 N1 hn1 (fun b x hb e => hk2 b x (by simp [hb]) e) hoI2
    refine owned_tupiter hst2.1 ?_
    refine asg2 hh hk hx hy F2 N2 (hT.at fun o e => F2.keep _ _ e) fun h3 tk3 F3 N3 => ?_
    refine turn i m1 nw1 I oI2 _ _ _ hlt2 hJ F3 N3 hn1 (fun m4 nw4 h4 tk4 F4 N4 hn4 hJ4 => ?_) fun m4 nw4 h4 tk4 F4 N4 hK4 => fin _ _ _ _ F4 N4 hK4
    exact ⟨items.size + 1 - (i + 1), by omega, h4, tk4, i + 1, m4, nw4, oI2, rfl, ⟨oI2, (N4 _ (.head _)).1, hoI2'⟩, F4, N4, hn4, hJ4, hlt2, rfl⟩
  · obtain rfl : i = items.size := by omega
    refine W.done _ _ _ ⟨hst1, hax1⟩ fun h2 tk2 hk2 => ?_
    obtain ⟨F2, N2⟩ := led_drop F1 N1 hn1 (fun b x hb e => hk2 b x (by simp [hb]) e)
    exact els m1 nw1 _ _ _ hJ F2 N2 fun m4 nw4 h4 tk4 F4 N4 hK4 => fin _ _ _ _ F4 N4 hK4
end
end In2_
section En2_
set_option maxRecDepth 100000
set_option maxHeartbeats 4000000

theorem led_two {h₀ h h' : Heap} {L a b : Addr} {oa ob : Obj} {m : Str → Option Value} {rest : List (Addr × Obj)} (F : Fr h₀ L h m) (N : News h₀ L h ((a, oa) :: (b, ob) :: rest)) (hna : ∀ p ∈ rest, p.1 ≠ a) (hnb : ∀ p ∈ rest, p.1 ≠ b)
    (hs : ∀ c x, c ∉ [a, b] → h.get? c = some x → h'.get? c = some x) : Fr h₀ L h' m ∧ News h₀ L h' rest ∧ ∀ oa' ob', h'.get? a = some oa' → h'.get? b = some ob' → News h₀ L h' ((a, oa') :: (b, ob') :: rest) := by
  have Da := N (a, oa) (.head _)
  have Db := N (b, ob) (.tail _ (.head _))
  obtain ⟨oL, es, ep, hL, r⟩ := F.ns
  have nin : ∀ c, c ≠ a → c ≠ b → c ∉ [a, b] := fun c h1 h2 z => by
    rcases List.mem_cons.mp z with z | z
    · exact h1 z
    · exact h2 (List.mem_singleton.mp z)
  have NR : News h₀ L h' rest := fun p hp => by
    have P := N p (.tail _ (.tail _ hp))
    exact ⟨hs _ _ (nin _ (hna p hp) (hnb p hp)) P.1, P.2⟩
  refine ⟨⟨⟨oL, es, ep, hs _ _ (nin _ (Ne.symm Da.2.1) (Ne.symm Db.2.1)) hL, r⟩, fun c x q => hs _ _ (nin _ (fun z => ?_) (fun z => ?_)) (F.keep c x q), F.above⟩, NR, fun oa' ob' ha hb p hp => ?_⟩
  · have := Da.2.2; rw [← z, q] at this; cases this
  · have := Db.2.2; rw [← z, q] at this; cases this
  · rcases List.mem_cons.mp hp with rfl | hp
    · exact ⟨ha, Da.2⟩
    · rcases List.mem_cons.mp hp with rfl | hp
      · exact ⟨hb, Db.2⟩
      · exact NR p hp
section
variable {prog : Program} {w : World} {A : Around} {E : Value → Shared → Prop} {s : Shared} {h₀ : Heap} {env : Env} {m : Str → Option Value} {nw : List (Addr × Obj)}
/-- a loop over the numbered items of a tuple that stood before -/
theorem for_enum {iter : Expr} {x y : Str} {p1 p2 pt pos : Pos} {k : Nat} {body : List Stmt} {ax : Addr} {items : Array Value} {Q : Flow → Shared → Prop}
    (J : (Nat) → (Str → Option Value) → List (Addr × Obj) → Prop)
    (hh : A.handled = none) (hk : env.scope.kind = .function) (hx : env.kindOf x = some .local) (hy : env.kindOf y = some .local) (hs : ∀ x, foldedSetIterable iter env x = pure x)
    (F : Fr h₀ env.locals s.heap m) (N : News h₀ env.locals s.heap nw) (hv : ∀ Q' : Value → Shared → Prop, wpAny (model prog w) A (call (.type "enumerate") [.ref ax]) Q' E s → wpAny (model prog w) A (eval iter env) Q' E s)
    (hax : h₀.IsTuple ax items) (h0 : J 0 m nw)
    (turn : ∀ (i : Nat) t v m₁ nw₁ I oI I' oI' (s₁ : Shared) (QQ : Flow → Shared → Prop) E', i < items.size → items[i]? = some v → J i m₁ nw₁ → Fr h₀ env.locals s₁.heap (fun z => if z = y then some v else if z = x then some (.int (i : Int) t) else m₁ z) → News h₀ env.locals s₁.heap ((I, oI) :: (I', oI') :: nw₁) → (∀ p ∈ nw₁, p.1 ≠ I ∧ p.1 ≠ I') →
      (∀ m₂ nw₂ h' tk', Fr h₀ env.locals h' m₂ → News h₀ env.locals h' ((I, oI) :: (I', oI') :: nw₂) → (∀ p ∈ nw₂, p.1 ≠ I ∧ p.1 ≠ I') → J (i + 1) m₂ nw₂ → QQ .next { s₁ with heap := h', toks := tk' }) → wpAny (model prog w) A (execs body env) QQ E' s₁)
    (fin : ∀ m' nw' h' tk', Fr h₀ env.locals h' m' → News h₀ env.locals h' nw' → J items.size m' nw' → Q .next { s with heap := h', toks := tk' }) :
    wpAny (model prog w) A (exec (.For (.Tuple [.Name x p1, .Name y p2] k pt) iter body [] pos) env) Q E s := by
  refine wpAny_For (hv _ ?_) hs
  have hlt : ax < s.heap.objs.size := by obtain ⟨o, e, _⟩ := hax; exact Heap.lt_size (F.keep _ _ e)
  refine call_enum_tup (hax.at fun o e => F.keep _ _ e) fun h1 e1 hE hI => ?_
  refine wpAny_pyIter_enum hE ?_
  generalize hIs : s.heap.objs.size = I at hlt hE hI e1 ⊢
  have hn0 : ∀ p ∈ nw, p.1 ≠ I + 1 ∧ p.1 ≠ I := fun p hp => have hl : p.1 < I := hIs ▸ Heap.lt_size (N p hp).1; ⟨Nat.ne_of_lt (Nat.lt_succ_of_lt hl), Nat.ne_of_lt hl⟩
  have F1 : Fr h₀ env.locals h1 m := by rw [e1]; exact (F.push _).push _
  have N1 : ∃ oE oI, News h₀ env.locals h1 ((I + 1, oE) :: (I, oI) :: nw) := by
    rw [e1]
    have a := N.push F ({ cls := .type "tuple_iterator", data := .fields #[.ref ax, .int 0 0] } : Obj)
    have b := a.push (F.push _) ({ cls := .type "enumerate", data := .fields #[.none, .bool false, .ref I, rawInt 0, .none, .none] } : Obj)
    rw [Heap.size_push, hIs] at b
    exact ⟨_, _, b⟩
  obtain ⟨oE0, oI0, N1⟩ := N1
  have W := WalksT.enumerateD (drawsTuple (prog := prog) (w := w) (A := A.in1) hh I ax (Nat.ne_of_lt hlt) items) (I + 1) (Nat.succ_ne_self I) (fun z => by
    rcases List.mem_cons.mp z with z | z
    · exact Nat.succ_ne_self I z
    · exact Nat.ne_of_gt (Nat.lt_succ_of_lt hlt) (List.mem_singleton.mp z)) (List.mem_cons_self ..)
  refine codeAny_forLoop_any (fun kk s' => ∃ h' tk i m' nw' oE oI, s' = { s with heap := h', toks := tk } ∧ ((∃ old, IsEnum h' (I + 1) I ((i : Nat) : Int) old) ∧ h'.IsTupleIter I ax i ∧ h'.IsTuple ax items) ∧ Fr h₀ env.locals h' m' ∧ News h₀ env.locals h' ((I + 1, oE) :: (I, oI) :: nw') ∧ (∀ p ∈ nw', p.1 ≠ I + 1 ∧ p.1 ≠ I) ∧ J i m' nw' ∧ i ≤ items.size ∧ kk = items.size + 1 - i) ?_ (items.size + 1)
    ⟨h1, s.toks, 0, m, nw, _, _, rfl, ⟨⟨_, hE⟩, hI, hax.at fun o e => F1.keep _ _ e⟩, F1, N1, hn0, h0, Nat.zero_le _, rfl⟩
  rintro kk s' ⟨h2, tk2, i, m2, nw2, oE2, oI2, rfl, hst2, F2, N2, hn2, hJ, hin, rfl⟩
  by_cases hlt2 : i < items.size
  · refine W.item i _ _ _ hlt2 hst2 fun T vals h3 tk3 hP hTs hT hmid hk3 => ?_
    obtain ⟨t, v, hv3, rfl⟩ := hP
    obtain ⟨F3, _, N3⟩ := led_two F2 N2 (fun p hp => (hn2 p hp).1) (fun p hp => (hn2 p hp).2) hk3
    refine W.go _ _ _ i T _ _ _ hmid fun h4 hst4 hk4 => ?_
    have hTw := W.apart _ _ _ hmid
    obtain ⟨⟨x3, hE3⟩, hI3, _⟩ := id hmid
    obtain ⟨oI3, hoI3, _⟩ := id hI3.1
    obtain ⟨F4, _, N4⟩ := led_two F3 (N3 _ _ hE3 hoI3) (fun p hp => (hn2 p hp).1) (fun p hp => (hn2 p hp).2) hk4
    obtain ⟨⟨old4, hE4⟩, hI4, hT4⟩ := id hst4
    obtain ⟨oI4, hoI4, hoI4'⟩ := id hI4
    refine asg2 hh hk hx hy F4 (N4 _ _ hE4 hoI4) (hT.at fun o e => hk4 _ _ hTw e) fun h5 tk5 F5 N5 => ?_
    refine turn i t v m2 nw2 (I + 1) _ I oI4 _ _ _ hlt2 hv3 hJ F5 N5 hn2 fun m6 nw6 h6 tk6 F6 N6 hn6 hJ6 => ?_
    exact ⟨items.size + 1 - (i + 1), by omega, h6, tk6, i + 1, m6, nw6, _, oI4, rfl, ⟨⟨old4, (N6 _ (.head _)).1⟩, ⟨oI4, (N6 _ (.tail _ (.head _))).1, hoI4'⟩, hax.at fun o e => F6.keep _ _ e⟩, F6, N6, hn6, hJ6, hlt2, rfl⟩
  · obtain rfl : i = items.size := by omega
    refine W.done _ _ _ hst2 fun h3 tk3 hk3 => wpAny_execs_nil ?_
    obtain ⟨F3, N3, _⟩ := led_two F2 N2 (fun p hp => (hn2 p hp).1) (fun p hp => (hn2 p hp).2) hk3
    exact fin _ _ _ _ F3 N3 hJ
end
end En2_
section Mode_
set_option maxRecDepth 100000
set_option maxHeartbeats 4000000

theorem mode_ct (w : World) (u a b c : Int) (t t1 t2 t3 : Tok) (k : Nat) (R : Addr) : Does w 835 [.int u t, .ref R] [] 20 100 (fun news => ∃ rest, news = (R, lsObj [.int a t1, .int b t2, .int c t3] k) :: rest) (fun news news' r => news' = news ∧ ∃ t', r = .int (512 * u + 64 * a + 8 * b + c) t') := by
  unfold Does
  w_on
  k_fill
  intro mean mg mb dp un gd cn ns ig ic mo ad ccd cl outer A₀ base h₀ L m news s Q E B F X N T hpre hd hu hret
  obtain ⟨rest, rfl⟩ := hpre
  obtain ⟨hh, gg, dd, tk, os⟩ := s
  refine wpAny_call ?_
  k_dflt k_enter
  k_steps
  exact hret _ _ _ _ (by k_asm) (by k_asm) ⟨rfl, _, rfl⟩
end Mode_
section Mov_
set_option maxRecDepth 100000
set_option maxHeartbeats 4000000

theorem for_goF {prog : Program} {w : World} {A : Around} {s : Shared} {h₀ : Heap} {env : Env} {x : Str} {E : Value → Shared → Prop} {body : List Stmt} {Q : Flow → Shared → Prop} {m : Str → Option Value} {iter : Expr} {px pos : Pos} (_F : Fr h₀ env.locals s.heap m) (hk : env.scope.kind = .function) (hx : env.kindOf x = some .local) (hs : ∀ x, foldedSetIterable iter env x = pure x)
    (h : wpAny (model prog w) A (eval iter env) (fun xv s₁ => wpAny (model prog w) A (pyIter xv) (ForGo prog w A h₀ env x body Q) E s₁) E s) :
    wpAny (model prog w) A (exec (.For (.Name x px) iter body [] pos) env) Q E s := for_go hk hx hs h
theorem sig_t {c d : Nat} {z : Str} (hz : z = mkS [d]) (h : ((⟨#[c]⟩ : Str) == z) = true) : c = d := by
  rw [hz, beq_iff_eq] at h
  have := congrArg Str.cps h
  simpa using this
theorem sig_f {c d : Nat} {z : Str} (hz : z = mkS [d]) (h : ((⟨#[c]⟩ : Str) == z) = false) : c ≠ d := by
  rintro rfl
  rw [hz, beq_eq_false_iff_ne] at h
  exact h rfl
theorem turn_q {M : Model} {A : Around} {h₀ : Heap} {L I : Addr} {oI : Obj} {s₁ : Shared} {E' : Value → Shared → Prop} {t : Sem Flow} {J : (Str → Option Value) → List (Addr × Obj) → Prop}
    (h : ∀ QQ : Flow → Shared → Prop, (∀ m₂ nw₂ h' tk', Fr h₀ L h' m₂ → News h₀ L h' ((I, oI) :: nw₂) → (∀ p ∈ nw₂, p.1 ≠ I) → J m₂ nw₂ → QQ .next { s₁ with heap := h', toks := tk' }) → wpAny M A t QQ E' s₁) :
    wpAny M A t (fun f s₃ => f = .next ∧ ∃ m₂ nw₂ h' tk', s₃ = { s₁ with heap := h', toks := tk' } ∧ Fr h₀ L h' m₂ ∧ News h₀ L h' ((I, oI) :: nw₂) ∧ (∀ p ∈ nw₂, p.1 ≠ I) ∧ J m₂ nw₂) E' s₁ :=
  h _ fun m₂ nw₂ h' tk' a b c d => ⟨rfl, m₂, nw₂, h', tk', rfl, a, b, c, d⟩
/-- the rights, exchanged along a text -/
noncomputable def mov1 (p : Int × Int × Int) (c : Nat) : Int × Int × Int := if c = 39 then (p.2.1, p.1, p.2.2) else if c = 34 then (p.2.2, p.2.1, p.1) else p
noncomputable def moved (x : List Nat) : Int × Int × Int := x.foldl mov1 (4, 2, 1)
noncomputable abbrev mvM (x : List Nat) (t : Tok) (p : Int × Int × Int) (t1 t2 t3 : Tok) (sg : Option Value) : Str → Option Value := fun y =>
  if y = Str.ofString "sign" then sg else if y = Str.ofString "others" then some (.int p.2.2 t3) else if y = Str.ofString "group" then some (.int p.2.1 t2) else if y = Str.ofString "owner" then some (.int p.1 t1) else if y = Str.ofString "text" then some (.str (mkS x) t) else none
theorem mvM_0 {x : List Nat} {t : Tok} {a b c : Int} {t1 t2 t3 : Tok} : (fun y => if y = Str.ofString "others" then some (Value.int c t3) else if y = Str.ofString "group" then some (Value.int b t2) else if y = Str.ofString "owner" then some (Value.int a t1) else List.lookup y [(Str.ofString "text", Value.str (mkS x) t)]) = mvM x t (a, b, c) t1 t2 t3 none := by
  funext y
  unfold mvM
  by_cases h1 : y = Str.ofString "sign"
  · subst h1; rfl
  · rw [if_neg h1]
    split
    · rfl
    · split
      · rfl
      · split
        · rfl
        · rw [List.lookup_cons]
          by_cases h : y = Str.ofString "text"
          · rw [if_pos h, beq_iff_eq.mpr h]
          · rw [if_neg h, beq_eq_false_iff_ne.mpr h]; rfl
theorem mvM_s {x : List Nat} {t : Tok} {p : Int × Int × Int} {t1 t2 t3 : Tok} {sg : Option Value} {v : Value} : (fun y => if y = Str.ofString "sign" then some v else mvM x t p t1 t2 t3 sg y) = mvM x t p t1 t2 t3 (some v) := by
  funext y
  unfold mvM
  by_cases h1 : y = Str.ofString "sign"
  · subst h1; rfl
  · simp only [h1, if_false]
theorem mvM_g {x : List Nat} {t : Tok} {a b c d e : Int} {t1 t2 t3 t4 t5 : Tok} {sg : Option Value} : (fun y => if y = Str.ofString "owner" then some (Value.int d t4) else if y = Str.ofString "group" then some (Value.int e t5) else mvM x t (a, b, c) t1 t2 t3 sg y) = mvM x t (d, e, c) t4 t5 t3 sg := by
  funext y
  unfold mvM
  by_cases h1 : y = Str.ofString "sign"
  · subst h1; rfl
  · by_cases h2 : y = Str.ofString "others"
    · subst h2; rfl
    · by_cases h3 : y = Str.ofString "group"
      · subst h3; rfl
      · by_cases h4 : y = Str.ofString "owner"
        · subst h4; rfl
        · simp only [h1, h2, h3, h4, if_false]
theorem mvM_o {x : List Nat} {t : Tok} {a b c d e : Int} {t1 t2 t3 t4 t5 : Tok} {sg : Option Value} : (fun y => if y = Str.ofString "owner" then some (Value.int d t4) else if y = Str.ofString "others" then some (Value.int e t5) else mvM x t (a, b, c) t1 t2 t3 sg y) = mvM x t (d, b, e) t4 t2 t5 sg := by
  funext y
  unfold mvM
  by_cases h1 : y = Str.ofString "sign"
  · subst h1; rfl
  · by_cases h2 : y = Str.ofString "others"
    · subst h2; rfl
    · by_cases h3 : y = Str.ofString "group"
      · subst h3; rfl
      · by_cases h4 : y = Str.ofString "owner"
        · subst h4; rfl
        · simp only [h1, h2, h3, h4, if_false]
local macro_rules | `(tactic| walk_at "exec For") => `(tactic| refine held ?_)
section
variable {w : World} {mean : ExcName → Option Value} {mg mb : Str → Option Value} {dp un : Nat} {gd : Option (List Code)} {cn : Str} {ns : List (Str × NameKind)} {ig ic : Bool} {mo : List (Str × Const)} {ad Lc : Addr} {ccd : Value} {cl : List (Str × Addr)} {outer : List Env} {h₀ : Heap} {L : Addr} {nw : List (Addr × Obj)} {s : Shared} {E : Value → Shared → Prop} {x : List Nat} {t : Tok}
theorem moved_loop {S1 : Stmt} {sc : Scope} {Q : Flow → Shared → Prop} {t1 t2 t3 : Tok} (hS : (bodOf (stA 51))[1]? = some S1) (hsc : scpOf (stA 51) = sc) (F : Fr h₀ L s.heap (mvM x t (4, 2, 1) t1 t2 t3 none)) (X : (K1 w.params).In h₀) (T : Top q1 (looseW q1 lz) mean mg mb h₀) (N : News h₀ L s.heap nw)
    (h : ∀ t1 t2 t3 sg h' tk', Fr h₀ L h' (mvM x t (moved x) t1 t2 t3 sg) → News h₀ L h' nw → Q .next { s with heap := h', toks := tk' }) :
    wpAny (model PySem.Challenge.rw_op0238_01.row.prog w) ((ktrTop dp un gd cn ⟨.function, ns, ig, ic, mo⟩ Lc ad ccd cl outer).deeper (envOf (S "_law_moved") sc L 821 (.ref 820))) (exec S1 (envOf (S "_law_moved") sc L 821 (.ref 820))) Q E s := by
  rw [show (bodOf (stA 51))[1]? = some _ from rfl] at hS
  cases hS
  rw [show scpOf (stA 51) = ⟨_, _, _, _, _⟩ from rfl] at hsc
  subst hsc
  refine for_go (h₀ := h₀) rfl rfl (fun _ => by with_unfolding_all rfl) ?_
  refine nameX_L F (v := .str (mkS x) t) rfl ?_
  refine for_str (env := envOf (S "_law_moved") _ L 821 (.ref 820)) rfl F N (J := fun i m' nw' => nw' = nw ∧ ∃ t1 t2 t3 sg, m' = mvM x t ((x.take i).foldl mov1 (4, 2, 1)) t1 t2 t3 sg) ⟨rfl, _, _, _, _, rfl⟩ ?_ ?_
  · intro i v m1 nw0 I oI s1 E' hi hP hJ F2 N2 hI
    obtain ⟨c, u, hci, rfl⟩ := hP
    obtain ⟨rfl, u1, u2, u3, sg, rfl⟩ := hJ
    rw [mvM_s] at F2
    generalize hp : (x.take i).foldl mov1 (4, 2, 1) = pp at F2
    obtain ⟨pa, pb, pc⟩ := pp
    obtain ⟨hh1, gg1, dd1, tk1, os1⟩ := s1
    refine turn_q (h₀ := h₀) (L := L) (J := fun m' nw' => nw' = nw0 ∧ ∃ t1 t2 t3 sg, m' = mvM x t ((x.take (i + 1)).foldl mov1 (4, 2, 1)) t1 t2 t3 sg) fun QQ hQ => ?_
    have fin : ∀ h' tk' a b c' t1 t2 t3, mov1 (pa, pb, pc) c = (a, b, c') → Fr h₀ L h' (mvM x t (a, b, c') t1 t2 t3 (some (.str ⟨#[c]⟩ u))) → News h₀ L h' ((I, oI) :: nw0) → QQ .next { heap := h', gens := gg1, drawn := dd1, toks := tk', os := os1 } := by
      intro h' tk' a b c' t1 t2 t3 e F' N'
      refine hQ _ nw0 h' tk' F' N' hI ⟨rfl, t1, t2, t3, some (.str ⟨#[c]⟩ u), ?_⟩
      rw [List.take_add_one, show x[i]? = some c from by simpa using hci, Option.toList_some, List.foldl_append, hp]
      show _ = mvM x t (mov1 _ _) _ _ _ _
      rw [e]
    clear hQ
    w_on
    k_fill
    k_steps
    · rename (_ == Str.ofString "'") = true => e1
      rename Fr h₀ L _ _ => F3
      obtain rfl := sig_t q1_s e1
      exact fin _ _ _ _ _ _ _ _ rfl (mvM_g ▸ F3) (news_sub (by assumption) (fun p hp => .tail _ hp))
    · rename (_ == Str.ofString "\"") = true => e2
      rename Fr h₀ L _ _ => F3
      obtain rfl := sig_t q2_s e2
      exact fin _ _ _ _ _ _ _ _ rfl (mvM_o ▸ F3) (news_sub (by assumption) (fun p hp => .tail _ hp))
    · rename (_ == Str.ofString "\"") = false => e2
      rename (_ == Str.ofString "'") = false => e1
      have n1 := sig_f q1_s e1
      have n2 := sig_f q2_s e2
      refine fin _ _ _ _ _ _ _ _ (by unfold mov1; rw [if_neg n1, if_neg n2]) F2 N2
  · rintro m' nw' h' tk' ⟨rfl, u1, u2, u3, sg, rfl⟩ F2 N2
    rw [show (mkS x).cps.size = x.length by simp, List.take_length] at F2
    exact h _ _ _ _ _ _ F2 N2
theorem moved_ct (w : World) (x : List Nat) (t : Tok) : Does w 821 [.str (mkS x) t] [] 20 100 (fun _ => True) (fun news news' r => ∃ D t1 t2 t3, r = .ref D ∧ news' = (D, lsObj [.int (moved x).1 t1, .int (moved x).2.1 t2, .int (moved x).2.2 t3] 0) :: news ∧ ∀ p ∈ news, p.1 < D) := by
  unfold Does
  w_on
  k_fill
  intro mean mg mb dp un gd cn ns ig ic mo ad ccd cl outer A₀ base h₀ L m news s Q E B F X N T hpre hd hu hret
  obtain ⟨hh, gg, dd, tk, os⟩ := s
  refine wpAny_call ?_
  k_dflt k_enter
  try dsimp only
  generalize tk + List.length _ = tk0
  k_steps
  unfold Held
  rename News _ _ _ _ => N1
  rename Fr _ _ _ _ => F1
  refine moved_loop (x := x) (t := t) rfl rfl (mvM_0 ▸ F1) (by assumption) (by assumption) (news_sub N1 (fun p hp => .tail _ hp)) fun t1 t2 t3 sg h' tk' F2 N2 => ?_
  clear N1 F1
  generalize hp : moved x = pp at F2 hret ⊢
  obtain ⟨pa, pb, pc⟩ := pp
  dsimp only
  k_steps
  refine hret _ _ _ _ (by k_asm) (by k_asm) ⟨_, t1, t2, t3, rfl, rfl, by assumption⟩
end
end Mov_
section Vx_
set_option maxRecDepth 100000
set_option maxHeartbeats 4000000

noncomputable def forBody : Stmt → List Stmt
  | .For _ _ b _ _ => b
  | _ => []
theorem ltg_str (e : Expr) (T : Str) (t : Tok) (r : Value) : letTemporaryGo e (.str T t) r = pure () := by cases e <;> rfl
section
variable {c : Pl} {e i e' : Expr} {b : Bool} {x y z : Str} {P : Value → Prop} {p p1 p2 p3 : Pos} {a j k : Int} {l l' : List Nat} {h : Heap} {t : Nat} {Q : Flow → Shared → Prop} {E : Value → Shared → Prop}
theorem Vl.to {P' : Value → Prop} (h : Vl c e P) (hP : P = P') : Vl c e P' := hP ▸ h
theorem Vl.int {t : Tok} (h : Vl c e (fun u => u = .int j t)) : Vl c e (IsI j) := h.weak fun _ e => ⟨_, e⟩
theorem vl_cs {n : Nat} (hx : x = mkS l) : Vl c (.Constant (.str x) n p) (IsS (mkS l)) := hx ▸ vl_const
theorem vl_fdiv (hb : j ≠ 0) (hp : Builtin.divisionGoesByPylong a j = false) (h : Vl c e (IsI a)) (h' : Vl c e' (IsI j)) : Vl c (.BinOp e .FloorDiv e' p) (IsI (a.fdiv j)) :=
  fun _ _ _ _ o q => wpAny_BinOp (h _ _ _ _ o fun _ ⟨_, e1⟩ _ _ o => h' _ _ _ _ o fun _ ⟨_, e2⟩ _ _ o => e1 ▸ e2 ▸ floordiv_int hb (q _ ⟨_, rfl⟩ _ _ o) (.inl hp))
theorem vl_mod (hb : j ≠ 0) (h : Vl c e (IsI a)) (h' : Vl c e' (IsI j)) : Vl c (.BinOp e .Mod e' p) (IsI (a.fmod j)) :=
  fun _ _ _ _ o q => wpAny_BinOp (h _ _ _ _ o fun _ ⟨_, e1⟩ _ _ o => h' _ _ _ _ o fun _ ⟨_, e2⟩ _ _ o => e1 ▸ e2 ▸ mod_int' hb (q _ ⟨_, rfl⟩ _ _ o))
theorem vl_adds (hl : l.length + l'.length ≤ 100000) (h : Vl c e (IsS (mkS l))) (h' : Vl c e' (IsS (mkS l'))) : Vl c (.BinOp e .Add e' p) (IsS (mkS (l ++ l'))) :=
  fun _ _ _ _ o q => wpAny_BinOp (h _ _ _ _ o fun _ ⟨_, e1⟩ _ _ o => h' _ _ _ _ o fun _ ⟨_, e2⟩ _ _ o => e1 ▸ e2 ▸ add_mk hl fun _ _ => q _ ⟨_, rfl⟩ _ _ o)
theorem vl_sub_s (h0 : 0 ≤ j) (h1 : j < l.length) (hz : l.length ≤ 1000) (h : Vl c e (IsS (mkS l))) (h' : Vl c i (IsI j)) (hs : ∀ T t k u, subscripted i false (.str T t) (.int k u) = operate [.str T t, .int k u] (getItem (.str T t) (.int k u))) : Vl c (.Subscript e i p) (IsS (mkS [l.getD j.toNat 0])) :=
  fun _ _ _ _ o q => Subscript_ (h _ _ _ _ o fun _ ⟨_, e1⟩ _ _ o => h' _ _ _ _ o fun _ ⟨_, e2⟩ _ _ o => e1 ▸ e2 ▸ by
    have hl : j.toNat < l.length := by omega
    have e : l = l.take j.toNat ++ l.getD j.toNat 0 :: l.drop (j.toNat + 1) := by
      rw [List.getD_eq_getElem?_getD, List.getElem?_eq_getElem hl, Option.getD_some, List.getElem_cons_drop, List.take_append_drop]
    exact item_T (pre := l.take j.toNat) (c := l.getD j.toNat 0) (rest := l.drop (j.toNat + 1)) (congrArg mkS e) (by rw [List.length_take]; omega) (by rw [mkS_len]; omega) (q _ ⟨_, rfl⟩ _ _ o) (hs _ _ _ _) (ltg_str _ _ _))
theorem item_listT {prog : Program} {w : World} {A : Around} {E : Value → Shared → Prop} {s : Shared} {value slice : Expr} {a : Addr} {l : List Value} {k : Int} {u : Tok} {x : Value} {Q : Value → Shared → Prop} (hl : s.heap.IsList a l.toArray) (h0 : 0 ≤ k) (hfit : k < 2 ^ 63) (hx : l[k.toNat]? = some x) (h : Q x s)
    (hs : subscripted slice false (.ref a) (.int k u) = operate [.ref a, .int k u] (getItem (.ref a) (.int k u))) : wpAny (model prog w) A (subscriptTail value slice (.ref a) (.int k u)) Q E s :=
  tail_any hl.typeIs slot_list_getitem.lookup (getItem_listL hl h0 hfit hx h) hs
theorem vl_sub_l {R : Addr} {vs : List Value} {n : Nat} {v : Value} (hR : (R, lsObj vs n) ∈ c.led) (h0 : 0 ≤ j) (h1 : j < 1000) (hx : vs[j.toNat]? = some v) (h : Vl c e (fun u => u = .ref R)) (h' : Vl c i (IsI j)) (hs : ∀ T k u, subscripted i false (.ref T) (.int k u) = operate [.ref T, .int k u] (getItem (.ref T) (.int k u))) : Vl c (.Subscript e i p) (fun u => u = v) :=
  fun _ _ _ _ o q => Subscript_ (h _ _ _ _ o fun _ e1 _ _ o => h' _ _ _ _ o fun _ ⟨_, e2⟩ _ _ o => e1 ▸ e2 ▸ item_listT (News.isList o.N hR) h0 (by omega) hx (q v rfl _ _ o) (hs _ _ _))
/-- an item of a written triple -/
theorem vl_tup3 {P0 P1 P2 : Value → Prop} {e0 e1 e2 : Expr} {n j : Nat} {kp : Pos} (s0 : ∀ z, backTo kp (starEach [e0, e1, e2] z) = [(false, eval e0 z), (false, eval e1 z), (false, eval e2 z)]) (h0 : Vl c e0 P0) (h1 : Vl c e1 P1) (h2 : Vl c e2 P2) (hj : j < 3) (h' : ∀ r, Vl { c with led := r :: c.led } i (IsI (j : Int)))
    (hs : ∀ T k u, subscripted i false (.ref T) (.int k u) = operate [.ref T, .int k u] (getItem (.ref T) (.int k u))) : Vl c (.Subscript (.Tuple [e0, e1, e2] n kp) i p) ([P0, P1, P2].getD j P0) :=
  fun h t Q E o q => Subscript_ (Tuple_ (by
    rw [s0]
    refine sp3 (h0 _ _ _ _ o fun v0 g0 _ _ o => h1 _ _ _ _ o fun v1 g1 _ _ o => h2 _ _ _ _ o fun v2 g2 h3 t3 o => newTuple_N o.F o.N fun h4 F4 N4 => ?_)
    refine h' _ h4 t3 _ _ ⟨F4, N4⟩ fun v hv h5 t5 o5 => ?_
    obtain ⟨u, rfl⟩ := hv
    have o6 : c.on h5 := ⟨o5.F, fun p hp => o5.N p (.tail _ hp)⟩
    have it := News.isTup o5.N (.head _)
    match j, hj with
    | 0, _ => exact item_tupleT it (by decide) (by decide) rfl rfl (q v0 g0 _ _ o6) (hs _ _ _)
    | 1, _ => exact item_tupleT it (by decide) (by decide) rfl rfl (q v1 g1 _ _ o6) (hs _ _ _)
    | 2, _ => exact item_tupleT it (by decide) (by decide) rfl rfl (q v2 g2 _ _ o6) (hs _ _ _)))
theorem tst_eqI (h : Vl c e (IsI a)) (h' : Vl c e' (IsI j)) (hm : behindInMarks .Eq e' = false := by with_unfolding_all rfl) : Tst c (.Compare e [.Eq] [e'] p) (a == j) :=
  fun _ _ _ _ o q => wpAny_isTrue_Compare1 (h _ _ _ _ o fun _ ⟨_, e1⟩ _ _ o => h' _ _ _ _ o fun _ ⟨_, e2⟩ _ _ o => e1 ▸ e2 ▸ P.eq_int (wpAny_truthy_bool (q _ _ o))) hm
end
end Vx_
section Row_
set_option maxRecDepth 100000
set_option maxHeartbeats 4000000

/-- the row's text -/
noncomputable def segR (hi : Bool) (S s : Nat) (a : Int) : List Nat := [if a / 4 = 1 then 114 else 45, if a / 2 % 2 = 1 then 119 else 45, if hi then (if a % 2 = 1 then s else S) else if a % 2 = 1 then 120 else 45]
noncomputable def kindR (k : Int) : Nat := [63, 112, 99, 63, 100, 63, 98, 63, 45, 63, 108, 63, 115, 63, 63, 63].getD k.toNat 63
noncomputable def rowR (u : Int) (p : Int × Int × Int) : Nat → List Nat
  | 0 => [kindR (u / 8)]
  | 1 => kindR (u / 8) :: segR (u / 4 % 2 == 1) 83 115 p.1
  | 2 => kindR (u / 8) :: (segR (u / 4 % 2 == 1) 83 115 p.1 ++ segR (u / 2 % 2 == 1) 83 115 p.2.1)
  | _ => kindR (u / 8) :: (segR (u / 4 % 2 == 1) 83 115 p.1 ++ segR (u / 2 % 2 == 1) 83 115 p.2.1 ++ segR (u % 2 == 1) 84 116 p.2.2)
theorem sr_s : Str.ofString "-r" = mkS [45, 114] := by decide +kernel
theorem sw_s : Str.ofString "-w" = mkS [45, 119] := by decide +kernel
theorem sx_s : Str.ofString "-x" = mkS [45, 120] := by decide +kernel
theorem sS_s : Str.ofString "Ss" = mkS [83, 115] := by decide +kernel
theorem sT_s : Str.ofString "Tt" = mkS [84, 116] := by decide +kernel
theorem sk_s : Str.ofString "?pc?d?b?-?l?s???" = mkS [63, 112, 99, 63, 100, 63, 98, 63, 45, 63, 108, 63, 115, 63, 63, 63] := by decide +kernel
theorem g2 {x y : Nat} {k : Int} (h0 : 0 ≤ k) (h1 : k < 2) : [x, y].getD k.toNat 0 = if k = 1 then y else x := by
  have : k = 0 ∨ k = 1 := by omega
  rcases this with rfl | rfl <;> rfl
theorem seg_t {row : List Nat} {S s : Nat} {a : Int} (ha0 : 0 ≤ a) (ha : a < 8) : row ++ [[45, 114].getD (a.fdiv 4).toNat 0] ++ [[45, 119].getD ((a.fdiv 2).fmod 2).toNat 0] ++ [[S, s].getD (a.fmod 2).toNat 0] = row ++ segR true S s a := by
  rw [List.append_assoc, List.append_assoc]
  congr 1
  obtain ⟨n, rfl⟩ := Int.eq_ofNat_of_zero_le ha0
  have ha := Int.ofNat_lt.mp ha
  match n, ha with
  | 0, _ => rfl
  | 1, _ => rfl
  | 2, _ => rfl
  | 3, _ => rfl
  | 4, _ => rfl
  | 5, _ => rfl
  | 6, _ => rfl
  | 7, _ => rfl
theorem seg_f {row : List Nat} {S s : Nat} {a : Int} (ha0 : 0 ≤ a) (ha : a < 8) : row ++ [[45, 114].getD (a.fdiv 4).toNat 0] ++ [[45, 119].getD ((a.fdiv 2).fmod 2).toNat 0] ++ [[45, 120].getD (a.fmod 2).toNat 0] = row ++ segR false S s a := by
  rw [List.append_assoc, List.append_assoc]
  congr 1
  obtain ⟨n, rfl⟩ := Int.eq_ofNat_of_zero_le ha0
  have ha := Int.ofNat_lt.mp ha
  match n, ha with
  | 0, _ => rfl
  | 1, _ => rfl
  | 2, _ => rfl
  | 3, _ => rfl
  | 4, _ => rfl
  | 5, _ => rfl
  | 6, _ => rfl
  | 7, _ => rfl
theorem hi_t {u d : Int} (h : (u.fdiv d).fmod 2 = 1) (hd : 0 ≤ d) : (u / d % 2 == 1) = true := by
  rw [Int.fdiv_eq_ediv_of_nonneg _ hd, Int.fmod_eq_emod_of_nonneg _ (by decide)] at h
  rw [h]; rfl
theorem hi_f {u d : Int} (h : (u.fdiv d).fmod 2 ≠ 1) (hd : 0 ≤ d) : (u / d % 2 == 1) = false := by
  rw [Int.fdiv_eq_ediv_of_nonneg _ hd, Int.fmod_eq_emod_of_nonneg _ (by decide)] at h
  exact beq_eq_false_iff_ne.mpr h
theorem rowS_0 {u a b c : Int} {z : Bool} (h : (u / 4 % 2 == 1) = z) : rowR u (a, b, c) 0 ++ segR z 83 115 a = rowR u (a, b, c) 1 := by subst h; rfl
theorem rowS_1 {u a b c : Int} {z : Bool} (h : (u / 2 % 2 == 1) = z) : rowR u (a, b, c) 1 ++ segR z 83 115 b = rowR u (a, b, c) 2 := by subst h; rfl
theorem rowS_2 {u a b c : Int} {z : Bool} (h : (u / 1 % 2 == 1) = z) : rowR u (a, b, c) 2 ++ segR z 84 116 c = rowR u (a, b, c) 3 := by rw [Int.ediv_one] at h; subst h; rfl
noncomputable def w3 : Nat → Int
  | 0 => 4
  | 1 => 2
  | _ => 1
noncomputable def hiS : Nat → List Nat
  | 0 => [83, 115]
  | 1 => [83, 115]
  | _ => [84, 116]
noncomputable def pk (p : Int × Int × Int) : Nat → Int
  | 0 => p.1
  | 1 => p.2.1
  | _ => p.2.2
theorem i3 {i : Nat} (h : i < 3) : i = 0 ∨ i = 1 ∨ i = 2 := by omega
theorem getI {i : Nat} (h : i < 3) : [IsI 4, IsI 2, IsI 1].getD i (IsI 4) = IsI (w3 i) := by rcases i3 h with rfl | rfl | rfl <;> rfl
theorem getS {i : Nat} (h : i < 3) : [IsS (mkS [83, 115]), IsS (mkS [83, 115]), IsS (mkS [84, 116])].getD i (IsS (mkS [83, 115])) = IsS (mkS (hiS i)) := by rcases i3 h with rfl | rfl | rfl <;> rfl
theorem w3_ne (i : Nat) : w3 i ≠ 0 := by
  match i with
  | 0 => decide
  | 1 => decide
  | _ + 2 => exact fun z => nomatch z
theorem w3_nn (i : Nat) : 0 ≤ w3 i ∧ w3 i ≤ 4 := by
  match i with
  | 0 => decide
  | 1 => decide
  | _ + 2 => exact ⟨(by decide : (0 : Int) ≤ 1), (by decide : (1 : Int) ≤ 4)⟩
theorem rg {f : Int} (h0 : 0 ≤ f) (h1 : f < 8) : (0 ≤ f.fdiv 4 ∧ f.fdiv 4 < 2) ∧ (0 ≤ (f.fdiv 2).fmod 2 ∧ (f.fdiv 2).fmod 2 < 2) ∧ (0 ≤ f.fmod 2 ∧ f.fmod 2 < 2) := by
  rw [Int.fdiv_eq_ediv_of_nonneg _ (by decide), Int.fdiv_eq_ediv_of_nonneg _ (by decide), Int.fmod_eq_emod_of_nonneg _ (by decide), Int.fmod_eq_emod_of_nonneg _ (by decide)]
  omega
theorem row_step {i : Nat} (hi : i < 3) {u a b c : Int} (ha0 : 0 ≤ a) (ha : a < 8) (hb0 : 0 ≤ b) (hb : b < 8) (hc0 : 0 ≤ c) (hc : c < 8) {z : Bool} (hz : ((u.fdiv (w3 i)).fmod 2 == 1) = z) :
    rowR u (a, b, c) i ++ [[45, 114].getD ((pk (a, b, c) i).fdiv 4).toNat 0] ++ [[45, 119].getD (((pk (a, b, c) i).fdiv 2).fmod 2).toNat 0] ++ [(if z then hiS i else [45, 120]).getD ((pk (a, b, c) i).fmod 2).toNat 0] = rowR u (a, b, c) (i + 1) := by
  have hz' : (u / w3 i % 2 == 1) = z := by rw [← hz, Int.fdiv_eq_ediv_of_nonneg _ (w3_nn i).1, Int.fmod_eq_emod_of_nonneg _ (by decide)]
  clear hz
  rcases i3 hi with rfl | rfl | rfl
  · cases z with
    | true => exact (seg_t ha0 ha).trans (rowS_0 hz')
    | false => exact (seg_f ha0 ha).trans (rowS_0 hz')
  · cases z with
    | true => exact (seg_t hb0 hb).trans (rowS_1 hz')
    | false => exact (seg_f hb0 hb).trans (rowS_1 hz')
  · cases z with
    | true => exact (seg_t hc0 hc).trans (rowS_2 hz')
    | false => exact (seg_f hc0 hc).trans (rowS_2 hz')
theorem row_len (u : Int) (p : Int × Int × Int) {i : Nat} (h : i < 3) : (rowR u p i).length ≤ 10 := by rcases i3 h with rfl | rfl | rfl <;> simp [rowR, segR]
/-- what the loop's frame holds -/
noncomputable def RwM (m : Str → Option Value) (u : Int) (R : Addr) (row : List Nat) : Prop := (∃ t, m (Str.ofString "upper") = some (.int u t)) ∧ m (Str.ofString "rights") = some (.ref R) ∧ ∃ t, m (Str.ofString "row") = some (.str (mkS row) t)
theorem RwM.put {m : Str → Option Value} {u : Int} {R : Addr} {row : List Nat} (h : RwM m u R row) {x : Str} {v : Value} (h1 : Str.ofString "upper" ≠ x) (h2 : Str.ofString "rights" ≠ x) (h3 : Str.ofString "row" ≠ x) : RwM (fun y => if y = x then some v else m y) u R row :=
  ⟨h.1.elim fun t e => ⟨t, (if_neg h1).trans e⟩, (if_neg h2).trans h.2.1, h.2.2.elim fun t e => ⟨t, (if_neg h3).trans e⟩⟩
noncomputable abbrev rwE (sc : Scope) (L : Addr) : Env := envOf (S "_law_row") sc L 828 (.ref 827)
section
variable {w : World} {A : Around} {mean : ExcName → Option Value} {mg mb : Str → Option Value} {h₀ : Heap} {L R : Addr} {m : Str → Option Value} {led : List (Addr × Obj)} {E : Value → Shared → Prop} {u a b c : Int} {t1 t2 t3 : Tok} {k : Nat} {g : Array GenState} {d : Drawn} {o : OsState} {h : Heap} {t : Nat}
theorem row_turn {S1 : Stmt} {sc : Scope} {Q : Flow → Shared → Prop} {i : Nat} (hS : (bodOf (stA 52))[1]? = some S1) (hsc : scpOf (stA 52) = sc) (hi : i < 3) (hu0 : 0 ≤ u) (hu1 : u < 128) (ha0 : 0 ≤ a) (ha : a < 8) (hb0 : 0 ≤ b) (hb : b < 8) (hc0 : 0 ≤ c) (hc : c < 8)
    (F : Fr h₀ L h m) (N : News h₀ L h led) (hR : (R, lsObj [.int a t1, .int b t2, .int c t3] k) ∈ led) (hm : RwM m u R (rowR u (a, b, c) i)) (hp : ∃ t, m (Str.ofString "place") = some (.int (i : Int) t))
    (hq : ∀ h t m', Fr h₀ L h m' → News h₀ L h led → RwM m' u R (rowR u (a, b, c) (i + 1)) → Q .next ⟨h, g, d, t, o⟩) :
    wpAny (model PySem.Challenge.rw_op0238_01.row.prog w) A (execs (forBody S1) (rwE sc L)) Q E ⟨h, g, d, t, o⟩ := by
  rw [show (bodOf (stA 52))[1]? = some _ from rfl] at hS
  cases hS
  subst hsc
  have wk : ∀ {m led}, Pl.own ⟨PySem.Challenge.rw_op0238_01.row.prog, w, A, h₀, L, m, led, rwE (scpOf (stA 52)) L, g, d, o⟩ := ⟨rfl, rfl⟩
  obtain ⟨tp, hp⟩ := hp
  have rest : ∀ (la : List Nat) (m : Str → Option Value) (h : Heap) (t : Nat), la.length = 2 → Fr h₀ L h m → News h₀ L h led → RwM m u R (rowR u (a, b, c) i) → m (Str.ofString "place") = some (.int (i : Int) tp) → (∃ t, m (Str.ofString "last") = some (.str (mkS la) t)) →
      rowR u (a, b, c) i ++ [[45, 114].getD ((pk (a, b, c) i).fdiv 4).toNat 0] ++ [[45, 119].getD (((pk (a, b, c) i).fdiv 2).fmod 2).toNat 0] ++ [la.getD ((pk (a, b, c) i).fmod 2).toNat 0] = rowR u (a, b, c) (i + 1) →
      wpAny (model PySem.Challenge.rw_op0238_01.row.prog w) A (execs ((forBody (bodOf (stA 52))[1]!).drop 2) (rwE (scpOf (stA 52)) L)) Q E ⟨h, g, d, t, o⟩ := by
    intro la m h t hla F N hm hp hl he
    obtain ⟨tl, hl⟩ := hl
    have rv : [Value.int a t1, .int b t2, .int c t3][((i : Int)).toNat]? = some (.int (pk (a, b, c) i) ([t1, t2, t3].getD i 0)) := by rcases i3 hi with rfl | rfl | rfl <;> rfl
    have f0 : 0 ≤ pk (a, b, c) i ∧ pk (a, b, c) i < 8 := by rcases i3 hi with rfl | rfl | rfl <;> exact ⟨by assumption, by assumption⟩
    obtain ⟨r1, r2, r3⟩ := rg f0.1 f0.2
    refine wpAny_execs_cons (as_name (c := ⟨PySem.Challenge.rw_op0238_01.row.prog, w, A, h₀, L, m, led, rwE (scpOf (stA 52)) L, g, d, o⟩) wk ⟨F, N⟩ rfl (vl_sub_l hR (by omega) (by omega) rv (vl_loc wk hm.2.1 rfl) (vl_loc wk hp rfl).int (fun _ _ _ => by with_unfolding_all rfl)) (fun v h1 k1 hv o1 => ?_) rfl)
    subst hv
    have key : ∃ m1 tf, Fr h₀ L h1 m1 ∧ RwM m1 u R (rowR u (a, b, c) i) ∧ (∃ t, m1 (Str.ofString "last") = some (.str (mkS la) t)) ∧ m1 (Str.ofString "figure") = some (.int (pk (a, b, c) i) tf) := ⟨_, _, o1.F, hm.put (by decide) (by decide) (by decide), ⟨tl, (Pl.put_ne (by decide)).trans hl⟩, Pl.put_eq⟩
    have N1 : News h₀ L h1 led := o1.N
    clear o1 F N hm hp hl
    obtain ⟨m1, tf, F1, hm1, ⟨tl, hl⟩, hf⟩ := key
    obtain ⟨tr, hr⟩ := hm1.2.2
    have hlen := row_len u (a, b, c) hi
    refine execs_1 (as_name (c := ⟨PySem.Challenge.rw_op0238_01.row.prog, w, A, h₀, L, m1, led, rwE (scpOf (stA 52)) L, g, d, o⟩) wk ⟨F1, N1⟩ rfl (vl_adds ?l1 (vl_adds ?l2 (vl_adds ?l3 (vl_loc wk hr rfl).s (vl_sub_s (l := [45, 114]) r1.1 r1.2 (by decide) (vl_cs sr_s) (vl_fdiv (by decide) (noPylong_small (by decide)) (vl_loc wk hf rfl).int vl_cint) (fun _ _ _ _ => by with_unfolding_all rfl)))
      (vl_sub_s (l := [45, 119]) r2.1 r2.2 (by decide) (vl_cs sw_s) (vl_mod (by decide) (vl_fdiv (by decide) (noPylong_small (by decide)) (vl_loc wk hf rfl).int vl_cint) vl_cint) (fun _ _ _ _ => by with_unfolding_all rfl)))
      (vl_sub_s (l := la) r3.1 (by rw [hla]; exact r3.2) (by omega) (vl_loc wk hl rfl).s (vl_mod (by decide) (vl_loc wk hf rfl).int vl_cint) (fun _ _ _ _ => by with_unfolding_all rfl))) (fun v h2 k2 hv o2 => ?_) rfl)
    case l1 => simp only [List.length_append, List.length_cons, List.length_nil]; omega
    case l2 => simp only [List.length_append, List.length_cons, List.length_nil]; omega
    case l3 => simp only [List.length_cons, List.length_nil]; omega
    · obtain ⟨t', rfl⟩ := hv
      refine hq _ _ _ o2.F o2.N ⟨?_, ?_, t', (Pl.put_eq).trans (by rw [he])⟩
      · obtain ⟨tu, hu⟩ := hm1.1
        exact ⟨tu, (Pl.put_ne (by decide)).trans hu⟩
      · exact (Pl.put_ne (by decide)).trans hm1.2.1
  refine wpAny_execs_cons (as_name (c := ⟨PySem.Challenge.rw_op0238_01.row.prog, w, A, h₀, L, m, led, rwE (scpOf (stA 52)) L, g, d, o⟩) wk ⟨F, N⟩ rfl (vl_cs sx_s) (fun v h1 k1 hv o1 => ?_) rfl)
  obtain ⟨tl, rfl⟩ := hv
  have key : ∃ m1, Fr h₀ L h1 m1 ∧ RwM m1 u R (rowR u (a, b, c) i) ∧ m1 (Str.ofString "place") = some (.int (i : Int) tp) ∧ m1 (Str.ofString "last") = some (.str (mkS [45, 120]) tl) := ⟨_, o1.F, hm.put (by decide) (by decide) (by decide), (Pl.put_ne (by decide)).trans hp, Pl.put_eq⟩
  have N1 : News h₀ L h1 led := o1.N
  clear o1 F N hm hp
  obtain ⟨m1, F1, hm1, hp1, hl1⟩ := key
  obtain ⟨tu, hu⟩ := hm1.1
  refine wpAny_execs_cons (if_tst (c := ⟨PySem.Challenge.rw_op0238_01.row.prog, w, A, h₀, L, m1, led, rwE (scpOf (stA 52)) L, g, d, o⟩) (tst_eqI (vl_mod (by decide) (vl_fdiv (w3_ne i) (noPylong_small (by have := w3_nn i; omega)) (vl_loc wk hu rfl).int ((vl_tup3 (fun _ => rfl) vl_cint vl_cint vl_cint hi (fun r => (vl_loc ⟨rfl, rfl⟩ hp1 rfl).int) (fun _ _ _ => by with_unfolding_all rfl)).to (getI hi))) vl_cint) vl_cint) ⟨F1, N1⟩ (fun hz h2 k2 o2 => ?_) fun hz h2 k2 o2 => wpAny_execs_nil ?_)
  · refine execs_1 (as_name (c := ⟨PySem.Challenge.rw_op0238_01.row.prog, w, A, h₀, L, m1, led, rwE (scpOf (stA 52)) L, g, d, o⟩) wk o2 rfl ((vl_tup3 (fun _ => rfl) (vl_cs sS_s) (vl_cs sS_s) (vl_cs sT_s) hi (fun r => (vl_loc ⟨rfl, rfl⟩ hp1 rfl).int) (fun _ _ _ => by with_unfolding_all rfl)).to (getS hi)) (fun v h3 k3 hv o3 => ?_) rfl)
    obtain ⟨tl2, rfl⟩ := hv
    exact rest (hiS i) _ h3 k3 (by rcases i3 hi with rfl | rfl | rfl <;> rfl) o3.F o3.N (hm1.put (by decide) (by decide) (by decide)) ((Pl.put_ne (by decide)).trans hp1) ⟨tl2, Pl.put_eq⟩ (row_step hi ha0 ha hb0 hb hc0 hc (z := true) hz)
  · exact rest [45, 120] _ h2 k2 rfl o2.F o2.N hm1 hp1 ⟨tl, hl1⟩ (row_step hi ha0 ha hb0 hb hc0 hc (z := false) hz)
theorem row_loop {S1 : Stmt} {sc : Scope} {s : Shared} {Q : Flow → Shared → Prop} (hS : (bodOf (stA 52))[1]? = some S1) (hsc : scpOf (stA 52) = sc) (hh : A.handled = none) (hu0 : 0 ≤ u) (hu1 : u < 128) (ha0 : 0 ≤ a) (ha : a < 8) (hb0 : 0 ≤ b) (hb : b < 8) (hc0 : 0 ≤ c) (hc : c < 8)
    (F : Fr h₀ L s.heap m) (X : (K1 w.params).In h₀) (T : Top q1 (looseW q1 lz) mean mg mb h₀) (N : News h₀ L s.heap led) (hR : (R, lsObj [.int a t1, .int b t2, .int c t3] k) ∈ led) (hm : RwM m u R (rowR u (a, b, c) 0))
    (hq : ∀ h t m', Fr h₀ L h m' → News h₀ L h led → RwM m' u R (rowR u (a, b, c) 3) → Q .next { s with heap := h, toks := t }) :
    wpAny (model PySem.Challenge.rw_op0238_01.row.prog w) A (exec S1 (rwE sc L)) Q E s := by
  rw [show (bodOf (stA 52))[1]? = some _ from rfl] at hS
  cases hS
  subst hsc
  obtain ⟨hh0, gg0, dd0, tk0, os0⟩ := s
  refine for_go (h₀ := h₀) rfl rfl (fun _ => by with_unfolding_all rfl) ?_
  refine call_typ (id := "range") (t1 := eval _ _) (tr := []) F X T (by kernel_rfl) (by kernel_rfl) (by decide) rfl rfl rfl rfl rfl rfl (sp1 (wpAny_Constant_int ?_)) (by decide)
  refine call_range_1 ?_
  have F1 := F.push ({ cls := .type "range", data := .fields #[.int 0 (tk0 + 1), .int 3 tk0, .int 1 (tk0 + 1 + 1)] } : Obj)
  have N1 := news_sub (N.push F ({ cls := .type "range", data := .fields #[.int 0 (tk0 + 1), .int 3 tk0, .int 1 (tk0 + 1 + 1)] } : Obj)) (fun p hp => List.mem_cons_of_mem _ hp)
  refine for_range (env := rwE (scpOf (stA 52)) L) (n := 3) hh F1 N1 (IsRange.new _ _ _ _ _ _ _) (by decide) (by decide)
    (J := fun i m' nw' => nw' = led ∧ RwM m' u R (rowR u (a, b, c) i)) ⟨rfl, hm⟩ ?_ ?_
  · rintro i v m1 nw0 I oI ⟨hh1, gg1, dd1, tk1, os1⟩ E' hi ⟨u', rfl⟩ ⟨rfl, hm1⟩ F2 N2 hI
    rw [Int.zero_add, Int.mul_one] at F2
    refine row_turn rfl rfl hi hu0 hu1 ha0 ha hb0 hb hc0 hc F2 N2 (.tail _ hR) (hm1.put (by decide) (by decide) (by decide)) ⟨u', if_pos rfl⟩ fun h t m' F3 N3 hm3 => ?_
    exact ⟨rfl, m', _, h, t, rfl, F3, N3, hI, rfl, hm3⟩
  · rintro m' nw' h' tk' ⟨rfl, hm1⟩ F2 N2
    exact hq _ _ _ F2 N2 hm1
end
end Row_
section Pl3_
set_option maxRecDepth 100000

theorem and_one (n k : Nat) : (n &&& 2 ^ k = 2 ^ k) ↔ n / 2 ^ k % 2 = 1 := by
  have ht : n.testBit k = decide (n / 2 ^ k % 2 = 1) := Nat.testBit_eq_decide_div_mod_eq
  constructor
  · intro h
    have := congrArg (fun x => x.testBit k) h
    simp only [Nat.testBit_and, Nat.testBit_two_pow, decide_true, Bool.and_true] at this
    rw [ht] at this
    exact of_decide_eq_true this
  · intro h
    apply Nat.eq_of_testBit_eq
    intro i
    rw [Nat.testBit_and, Nat.testBit_two_pow]
    by_cases e : k = i
    · subst e; rw [ht, h]; simp
    · simp [e]
theorem and_or (n x y : Nat) : (n &&& (x ||| y) = x ||| y) ↔ n &&& x = x ∧ n &&& y = y := by
  have key : ∀ x y : Nat, n &&& (x ||| y) = x ||| y → n &&& x = x := by
    intro x y h
    apply Nat.eq_of_testBit_eq
    intro i
    have := congrArg (fun z => z.testBit i) h
    simp only [Nat.testBit_and, Nat.testBit_or] at this ⊢
    revert this
    cases n.testBit i <;> cases x.testBit i <;> cases y.testBit i <;> simp
  constructor
  · intro h
    exact ⟨key x y h, key y x (by rw [Nat.or_comm y x]; exact h)⟩
  · rintro ⟨h1, h2⟩
    rw [Nat.and_or_distrib_left, h1, h2]
theorem and_hi (n : Nat) : n &&& 61440 = n / 4096 % 16 * 4096 := by
  apply Nat.eq_of_testBit_eq
  intro i
  have e : (61440 : Nat) = 15 * 2 ^ 12 := by decide
  have e2 : n / 4096 % 16 * 4096 = (n / 4096 % 16) * 2 ^ 12 := rfl
  rw [e, e2, Nat.testBit_and, Nat.testBit_mul_two_pow, Nat.testBit_mul_two_pow]
  by_cases hi : 12 ≤ i
  · simp only [hi, decide_true, Bool.true_and]
    rw [show (16 : Nat) = 2 ^ 4 from rfl, Nat.testBit_mod_two_pow, show (15 : Nat) = 2 ^ 4 - 1 from rfl, Nat.testBit_two_pow_sub_one, show (4096 : Nat) = 2 ^ 12 from rfl, Nat.testBit_div_two_pow, Bool.and_comm]
    congr 2
    omega
  · simp [hi]
theorem band_nat (n b : Nat) : Builtin.bitAnd (n : Int) (b : Int) = ((n &&& b : Nat) : Int) := by
  rfl
noncomputable def fmTab : List (List (Nat × Nat)) := [[(40960, 108), (49152, 115), (32768, 45), (24576, 98), (16384, 100), (8192, 99), (4096, 112)], [(256, 114)], [(128, 119)], [(2112, 115), (2048, 83), (64, 120)], [(32, 114)], [(16, 119)], [(1032, 115), (1024, 83), (8, 120)], [(4, 114)], [(2, 119)], [(513, 116), (512, 84), (1, 120)]]
/-- a table's sign -/
noncomputable def fmPick (f : Nat → Bool) (d : Nat) : List (Nat × Nat) → Nat
  | [] => d
  | (b, c) :: r => if f b then c else fmPick f d r
noncomputable def fmSign (n : Nat) (i : Nat) (rows : List (Nat × Nat)) : Nat := if i = 0 then fmPick (fun b => n &&& 61440 == b) 63 rows else fmPick (fun b => n &&& b == b) 45 rows
noncomputable def fmR (n : Nat) : List Nat := (List.range 10).map fun i => fmSign n i (fmTab.getD i [])
theorem pick1 {n x c : Nat} {P : Prop} [Decidable P] (h : n &&& x = x ↔ P) : fmPick (fun b => n &&& b == b) 45 [(x, c)] = if P then c else 45 := by
  unfold fmPick fmPick
  by_cases hp : P
  · rw [if_pos hp, if_pos (beq_iff_eq.mpr (h.mpr hp))]
  · rw [if_neg hp, if_neg (fun z => hp (h.mp (beq_iff_eq.mp z)))]
theorem pick3 {n x y S s : Nat} {P : Prop} [Decidable P] {hi : Bool} (hx : n &&& x = x ↔ P) (hy : n &&& y = y ↔ hi = true) : fmPick (fun b => n &&& b == b) 45 [(x ||| y, s), (y, S), (x, 120)] = if hi then (if P then s else S) else if P then 120 else 45 := by
  unfold fmPick fmPick fmPick fmPick
  have hxy := and_or n x y
  have b1 : ∀ z : Nat, (n &&& z == z) = decide (n &&& z = z) := fun z => by
    by_cases hz : n &&& z = z
    · rw [beq_iff_eq.mpr hz, decide_eq_true hz]
    · rw [beq_eq_false_iff_ne.mpr hz, decide_eq_false hz]
  simp only [b1, hxy, hx, hy]
  by_cases hp : P <;> cases hi <;> simp [hp]
theorem kd16 : ∀ k : Nat, k < 16 → fmPick (fun b => k * 4096 == b) 63 [(40960, 108), (49152, 115), (32768, 45), (24576, 98), (16384, 100), (8192, 99), (4096, 112)] = kindR (k : Int) := by decide
theorem bit {m k : Nat} (h : m = k) : m = 1 ↔ (k : Int) = 1 := h ▸ ⟨fun z => congrArg Int.ofNat z, fun z => Int.ofNat.inj z⟩
theorem bitB {m k : Nat} (h : m = k) : m = 1 ↔ ((k : Int) == 1) = true := (bit h).trans beq_iff_eq.symm
theorem fm_bits (n : Nat) (hn : n < 65536) : fmR n = rowR ((n / 512 : Nat) : Int) (((n / 64 % 8 : Nat) : Int), ((n / 8 % 8 : Nat) : Int), ((n % 8 : Nat) : Int)) 3 := by
  have one : ∀ k : Nat, (n &&& 2 ^ k = 2 ^ k) ↔ n / 2 ^ k % 2 = 1 := and_one n
  have h0 : fmSign n 0 [(40960, 108), (49152, 115), (32768, 45), (24576, 98), (16384, 100), (8192, 99), (4096, 112)] = kindR (((n / 512 : Nat) : Int) / 8) := by
    show fmPick (fun b => n &&& 61440 == b) 63 _ = _
    rw [and_hi]
    have e : n / 4096 % 16 = n / 512 / 8 := by omega
    rw [e]
    exact kd16 (n / 512 / 8) (by omega)
  have d4 : ∀ m k : Nat, m / k % 8 / 4 = m / k / 4 % 2 := fun m k => by omega
  have d2 : ∀ m k : Nat, m / k % 8 / 2 % 2 = m / k / 2 % 2 := fun m k => by omega
  have d1 : ∀ m : Nat, m % 8 % 2 = m % 2 := fun m => by omega
  have dd : ∀ m k j : Nat, m / k / j = m / (k * j) := fun m k j => Nat.div_div_eq_div_mul m k j
  have h1 := pick1 (c := 114) ((one 8).trans (bit (show n / 2 ^ 8 % 2 = n / 64 % 8 / 4 by rw [d4, dd])))
  have h2 := pick1 (c := 119) ((one 7).trans (bit (show n / 2 ^ 7 % 2 = n / 64 % 8 / 2 % 2 by rw [d2, dd])))
  have h3 := pick3 (S := 83) (s := 115) ((one 6).trans (bit (show n / 2 ^ 6 % 2 = n / 64 % 8 % 2 by rw [d1]))) ((one 11).trans (bitB (show n / 2 ^ 11 % 2 = n / 512 / 4 % 2 by rw [dd])))
  have h4 := pick1 (c := 114) ((one 5).trans (bit (show n / 2 ^ 5 % 2 = n / 8 % 8 / 4 by rw [d4, dd])))
  have h5 := pick1 (c := 119) ((one 4).trans (bit (show n / 2 ^ 4 % 2 = n / 8 % 8 / 2 % 2 by rw [d2, dd])))
  have h6 := pick3 (S := 83) (s := 115) ((one 3).trans (bit (show n / 2 ^ 3 % 2 = n / 8 % 8 % 2 by rw [d1]))) ((one 10).trans (bitB (show n / 2 ^ 10 % 2 = n / 512 / 2 % 2 by rw [dd])))
  have h7 := pick1 (c := 114) ((one 2).trans (bit (show n / 2 ^ 2 % 2 = n % 8 / 4 by have := d4 n 1; rwa [Nat.div_one, eq_comm] at this)))
  have h8 := pick1 (c := 119) ((one 1).trans (bit (show n / 2 ^ 1 % 2 = n % 8 / 2 % 2 by have := d2 n 1; rwa [Nat.div_one, eq_comm] at this)))
  have h9 := pick3 (S := 84) (s := 116) ((one 0).trans (bit (show n / 2 ^ 0 % 2 = n % 8 % 2 by rw [d1, Nat.pow_zero, Nat.div_one]))) ((one 9).trans (bitB (show n / 2 ^ 9 % 2 = n / 512 % 2 from rfl)))
  show [fmSign n 0 _, fmPick (fun b => n &&& b == b) 45 [(2 ^ 8, 114)], fmPick (fun b => n &&& b == b) 45 [(2 ^ 7, 119)], fmPick (fun b => n &&& b == b) 45 [(2 ^ 6 ||| 2 ^ 11, 115), (2 ^ 11, 83), (2 ^ 6, 120)],
    fmPick (fun b => n &&& b == b) 45 [(2 ^ 5, 114)], fmPick (fun b => n &&& b == b) 45 [(2 ^ 4, 119)], fmPick (fun b => n &&& b == b) 45 [(2 ^ 3 ||| 2 ^ 10, 115), (2 ^ 10, 83), (2 ^ 3, 120)],
    fmPick (fun b => n &&& b == b) 45 [(2 ^ 2, 114)], fmPick (fun b => n &&& b == b) 45 [(2 ^ 1, 119)], fmPick (fun b => n &&& b == b) 45 [(2 ^ 0 ||| 2 ^ 9, 116), (2 ^ 9, 84), (2 ^ 0, 120)]] = _
  rw [h1, h2, h3, h4, h5, h6, h7, h8, h9]
  show fmSign n 0 [(40960, 108), (49152, 115), (32768, 45), (24576, 98), (16384, 100), (8192, 99), (4096, 112)] :: _ = _
  rw [h0]
  rfl
theorem fm_row (u a b c : Nat) (hu : u < 128) (ha : a < 8) (hb : b < 8) (hc : c < 8) : fmR (512 * u + 64 * a + 8 * b + c) = rowR (u : Int) ((a : Int), (b : Int), (c : Int)) 3 := by
  have e := fm_bits (512 * u + 64 * a + 8 * b + c) (by omega)
  rw [show (512 * u + 64 * a + 8 * b + c) / 512 = u by omega, show (512 * u + 64 * a + 8 * b + c) / 64 % 8 = a by omega, show (512 * u + 64 * a + 8 * b + c) / 8 % 8 = b by omega, show (512 * u + 64 * a + 8 * b + c) % 8 = c by omega] at e
  exact e
end Pl3_
section RowC_
set_option maxRecDepth 100000
set_option maxHeartbeats 4000000

theorem fr_eq {h₀ h : Heap} {L : Addr} {m m' : Str → Option Value} (F : Fr h₀ L h m) (e : m = m') : Fr h₀ L h m' := e ▸ F
theorem kd_0 : ∀ k : Nat, k < 16 → [63, 112, 99, 63, 100, 63, 98, 63, 45, 63, 108, 63, 115, 63, 63, 63].getD k 0 = kindR (k : Int) := by decide
theorem kind_0 {u a b c : Int} (h0 : 0 ≤ u) (h1 : u < 128) : [[63, 112, 99, 63, 100, 63, 98, 63, 45, 63, 108, 63, 115, 63, 63, 63].getD (u.fdiv 8).toNat 0] = rowR u (a, b, c) 0 := by
  rw [Int.fdiv_eq_ediv_of_nonneg _ (by decide)]
  obtain ⟨n, rfl⟩ := Int.eq_ofNat_of_zero_le h0
  exact congrArg (fun k => [k]) (kd_0 (n / 8) (by omega))
theorem row_ct (w : World) (u a b c : Int) (t t1 t2 t3 : Tok) (k : Nat) (R : Addr) (hu0 : 0 ≤ u) (hu1 : u < 128) (ha0 : 0 ≤ a) (ha : a < 8) (hb0 : 0 ≤ b) (hb : b < 8) (hc0 : 0 ≤ c) (hc : c < 8) : Does w 828 [.int u t, .ref R] [] 20 100 (fun news => ∃ rest, news = (R, lsObj [.int a t1, .int b t2, .int c t3] k) :: rest) (fun news news' r => news' = news ∧ ∃ t', r = .str (mkS (rowR u (a, b, c) 3)) t') := by
  unfold Does
  w_on
  k_fill
  intro mean mg mb dp un gd cn ns ig ic mo ad ccd cl outer A₀ base h₀ L m news s Q E B F X N T hpre hd hu hret
  obtain ⟨rest, rfl⟩ := hpre
  obtain ⟨hh, gg, dd, tk, os⟩ := s
  refine wpAny_call ?_
  k_dflt k_enter
  try dsimp only
  generalize tk + List.length _ = tk0
  rename News _ _ _ _ => N1
  rename Fr _ _ _ _ => F1
  rename Frag.In _ _ => X1
  rename Top _ _ _ _ _ _ => T1
  have h0 : 0 ≤ u.fdiv 8 ∧ u.fdiv 8 < 16 := by
    rw [Int.fdiv_eq_ediv_of_nonneg _ (by decide)]
    omega
  refine wpAny_execs_cons (as_name (c := ⟨PySem.Challenge.rw_op0238_01.row.prog, w, _, _, _, _, _, rwE (scpOf (stA 52)) _, gg, dd, os⟩) ⟨rfl, rfl⟩ ⟨F1, N1⟩ rfl (vl_sub_s (l := [63, 112, 99, 63, 100, 63, 98, 63, 45, 63, 108, 63, 115, 63, 63, 63]) h0.1 h0.2 (by decide) (vl_cs sk_s) (vl_fdiv (by decide) (noPylong_small (by decide)) (vl_loc ⟨rfl, rfl⟩ rfl rfl).int vl_cint) (fun _ _ _ _ => by with_unfolding_all rfl)) (fun v h2 k2 hv o2 => ?_) rfl)
  obtain ⟨t', rfl⟩ := hv
  have F2 := o2.F
  have N2 := o2.N
  clear o2 N1 F1
  refine wpAny_execs_cons (row_loop (u := u) (a := a) (b := b) (c := c) (R := R) (k := k) (t1 := t1) (t2 := t2) (t3 := t3) rfl rfl rfl hu0 hu1 ha0 ha hb0 hb hc0 hc F2 X1 T1 N2 (.head _) ⟨⟨t, (Pl.put_ne (by decide)).trans rfl⟩, (Pl.put_ne (by decide)).trans rfl, t', Pl.put_eq.trans (by rw [kind_0 hu0 hu1])⟩ fun h3 k3 m' F3 N3 hm3 => ?_)
  obtain ⟨tr, hr⟩ := hm3.2.2
  generalize rowR u (a, b, c) 3 = rw3 at hr hret ⊢
  clear hm3 F2 N2
  refine wpAny_execs_cons (wpAny_Return_some (nameX_L F3 hr ?_))
  k_steps
  exact hret _ _ _ _ (by k_asm) (by k_asm) ⟨rfl, _, rfl⟩
end RowC_
section Fmt_
set_option maxRecDepth 100000
set_option maxHeartbeats 4000000

theorem fmt_ct (w : World) (m : Int) (t : Tok) : Does w 741 [.int m t] [] 20 100 (fun _ => True) (fun news news' r => news' = news ∧ ∃ t', r = .int (Builtin.bitAnd m 61440) t') := by
  unfold Does
  w_on
  k_fill
  intro mean mg mb dp un gd cn ns ig ic mo ad ccd cl outer A₀ base h₀ L m news s Q E B F X N T hpre hd hu hret
  obtain ⟨hh, gg, dd, tk, os⟩ := s
  refine wpAny_call ?_
  k_dflt k_enter
  k_steps
  exact hret _ _ _ _ (by k_asm) (by k_asm) ⟨rfl, _, rfl⟩
end Fmt_
local macro_rules | `(tactic| walk_at "none10") => `(tactic| skip)
local macro_rules | `(tactic| walk_at "none11") => `(tactic| skip)
section Fm_
set_option maxRecDepth 100000
set_option maxHeartbeats 4000000

noncomputable abbrev fmM (n : Nat) (mt : Tok) (P : Addr) (ix tb bi ch : Option Value) : Str → Option Value := fun y =>
  if y = Str.ofString "char" then ch else if y = Str.ofString "bit" then bi else if y = Str.ofString "table" then tb else if y = Str.ofString "index" then ix else if y = Str.ofString "perm" then some (.ref P) else if y = Str.ofString "mode" then some (.int (n : Int) mt) else none
noncomputable def fmHit (n i b : Nat) : Prop := if i = 0 then n &&& 61440 = b else n &&& b = b
theorem fmM_r {n : Nat} {mt : Tok} {P : Addr} {ix tb bi ch : Option Value} {a b : Value} : (fun z => if z = Str.ofString "char" then some b else if z = Str.ofString "bit" then some a else fmM n mt P ix tb bi ch z) = fmM n mt P ix tb (some a) (some b) := by
  funext y
  unfold fmM
  (by_cases hh : y = Str.ofString "char"; (subst hh; rfl); (by_cases hh : y = Str.ofString "bit"; (subst hh; rfl); (simp only [*, if_false]; done)))
theorem fmM_t {n : Nat} {mt : Tok} {P : Addr} {ix tb bi ch : Option Value} {a b : Value} : (fun z => if z = Str.ofString "table" then some b else if z = Str.ofString "index" then some a else fmM n mt P ix tb bi ch z) = fmM n mt P (some a) (some b) bi ch := by
  funext y
  unfold fmM
  (by_cases hh : y = Str.ofString "table"; (subst hh; rfl); (by_cases hh : y = Str.ofString "index"; (subst hh; rfl); (by_cases hh : y = Str.ofString "char"; (subst hh; rfl); (by_cases hh : y = Str.ofString "bit"; (subst hh; rfl); (simp only [*, if_false]; done)))))
local macro_rules | `(tactic| walk_at "eval Call") => `(tactic| ((with_reducible show wpAny _ _ (eval (Expr.Call (Expr.Name (Str.ofString "S_IFMT") _) _ _ _) _) _ _ _); refine held ?_))
local macro_rules | `(tactic| walk_at "call builtin:list.append") => `(tactic| refine held ?_)
theorem rot2 {h₀ h : Heap} {L : Addr} {a b : Addr × Obj} {r : List (Addr × Obj)} (N : News h₀ L h (a :: b :: r)) : News h₀ L h (b :: a :: r) := news_sub N fun p hp => by
  rcases List.mem_cons.mp hp with rfl | hp
  · exact .tail _ (.head _)
  · rcases List.mem_cons.mp hp with rfl | hp
    · exact .head _
    · exact .tail _ (.tail _ hp)
theorem fmHit_0 {n i b : Nat} (hi : i = 0) (e : Builtin.bitAnd (n : Int) 61440 = (b : Int)) : fmHit n i b := by
  unfold fmHit; rw [if_pos hi]
  have h : ((n &&& 61440 : Nat) : Int) = (b : Int) := e
  exact Int.ofNat.inj h
theorem fmHit_0' {n i b : Nat} (hi : i = 0) (e : fmHit n i b) : Builtin.bitAnd (n : Int) 61440 = (b : Int) := by
  unfold fmHit at e; rw [if_pos hi] at e
  exact congrArg Int.ofNat e
theorem fmHit_1 {n i b : Nat} (hi : i ≠ 0) (e : Builtin.bitAnd (n : Int) (b : Int) = (b : Int)) : fmHit n i b := by
  unfold fmHit; rw [if_neg hi]
  have h : ((n &&& b : Nat) : Int) = (b : Int) := e
  exact Int.ofNat.inj h
theorem fmHit_1' {n i b : Nat} (hi : i ≠ 0) (e : fmHit n i b) : Builtin.bitAnd (n : Int) (b : Int) = (b : Int) := by
  unfold fmHit at e; rw [if_neg hi] at e
  exact congrArg Int.ofNat e
section
variable {w : World} {mean : ExcName → Option Value} {mg mb : Str → Option Value} {dp un : Nat} {gd : Option (List Code)} {cn : Str} {ns : List (Str × NameKind)} {ig ic : Bool} {mo : List (Str × Const)} {ad Lc : Addr} {ccd : Value} {cl : List (Str × Addr)} {outer : List Env} {A₀ : Around} {base h₀ : Heap} {L P R : Addr} {rest : List (Addr × Obj)} {s : Shared} {E : Value → Shared → Prop} {n i : Nat} {mt it : Tok} {tb bi ch : Option Value}
theorem fm_turn {S1 : Stmt} {body orelse : List Stmt} {sc : Scope} {b c : Nat} {tb0 tc0 : Tok} {ys : List Value} {cc : Nat} {I : Addr} {oI : Obj} {Q : Flow → Shared → Prop}
    (hS : (bodOf (stA 43))[1]? = some S1) (hb : forBody S1 = [.For (.Tuple [.Name (Str.ofString "bit") p1, .Name (Str.ofString "char") p2] k pt) iter body orelse pos]) (hsc : scpOf (stA 43) = sc)
    (B : Below (ktrTop dp un gd cn ⟨.function, ns, ig, ic, mo⟩ Lc ad ccd cl outer) base (envX cn ⟨.function, ns, ig, ic, mo⟩ Lc ad ccd cl :: outer) h₀) (F : Fr h₀ L s.heap (fmM n mt P (some (.int (i : Int) it)) tb (some (.int (b : Int) tb0)) (some (.str (mkS [c]) tc0)))) (X : (K1 w.params).In h₀) (T : Top q1 (looseW q1 lz) mean mg mb h₀) (N : News h₀ L s.heap ((I, oI) :: (P, lsObj ys cc) :: rest)) (hne : ∀ p ∈ (P, lsObj ys cc) :: rest, p.1 ≠ I) (hP : ∀ p ∈ rest, p.1 ≠ P) (hd : dp + 60 < recursionLimit) (hu : un + 300 < cLine) (hyl : ys.length ≤ 100)
    (hn : ∀ h' tk', ¬ fmHit n i b → Fr h₀ L h' (fmM n mt P (some (.int (i : Int) it)) tb (some (.int (b : Int) tb0)) (some (.str (mkS [c]) tc0))) → News h₀ L h' ((I, oI) :: (P, lsObj ys cc) :: rest) → Q .next { s with heap := h', toks := tk' })
    (hbk : ∀ h' tk', fmHit n i b → Fr h₀ L h' (fmM n mt P (some (.int (i : Int) it)) tb (some (.int (b : Int) tb0)) (some (.str (mkS [c]) tc0))) → News h₀ L h' ((P, lsObj (ys ++ [.str (mkS [c]) tc0]) (cc + 1)) :: (I, oI) :: rest) → Q .brk { s with heap := h', toks := tk' }) :
    wpAny (model PySem.Challenge.rw_op0238_01.row.prog w) ((ktrTop dp un gd cn ⟨.function, ns, ig, ic, mo⟩ Lc ad ccd cl outer).deeper (envOf (S "filemode") sc L 781 (.ref 780))) (execs body (envOf (S "filemode") sc L 781 (.ref 780))) Q E s := by
  rw [show (bodOf (stA 43))[1]? = some _ from rfl] at hS
  cases hS
  rw [show scpOf (stA 43) = ⟨_, _, _, _, _⟩ from rfl] at hsc
  subst hsc
  cases hb
  obtain ⟨hh0, gg0, dd0, tk0, os0⟩ := s
  have := hne _ (.head _)
  w_on
  k_fill
  k_steps
  · unfold Held
    have hi0 : i = 0 := by omega
    refine call_named (f := 741) F X T (by kernel_rfl) (by kernel_rfl) rfl rfl rfl rfl (sp1 (nameX_L F rfl ⟨⟨_, F⟩, ?_⟩)) (by decide)
    refine does_use (fmt_ct w (n : Int) mt) B F X N T trivial (by ktr_room) (by ktr_units) ?_
    rintro r nw' h' tk' F' N' ⟨rfl, t', rfl⟩
    clear F N
    k_steps
    · rename Builtin.bitAnd _ _ = _ => e1
      unfold Held
      refine append_led F' (rot2 N') (fun p hp => ?_) (by omega) fun h5 F5 N5 => ?_
      · rcases List.mem_cons.mp hp with rfl | hp
        · exact Ne.symm this
        · exact hP p hp
      k_steps
      exact hbk _ _ (fmHit_0 hi0 e1) F5 N5
    · rename Builtin.bitAnd _ _ ≠ _ => e1
      exact hn _ _ (fun z => e1 (fmHit_0' hi0 z)) F' N'
  · rename Builtin.bitAnd _ _ = _ => e1
    have hi0 : i ≠ 0 := by omega
    unfold Held
    refine append_led F (rot2 N) (fun p hp => ?_) (by omega) fun h5 F5 N5 => ?_
    · rcases List.mem_cons.mp hp with rfl | hp
      · exact Ne.symm this
      · exact hP p hp
    k_steps
    exact hbk _ _ (fmHit_1 hi0 e1) F5 N5
  · rename Builtin.bitAnd _ _ ≠ _ => e1
    have hi0 : i ≠ 0 := by omega
    exact hn _ _ (fun z => e1 (fmHit_1' hi0 z)) F N
end
end Fm_
local macro_rules | `(tactic| walk_at "none12") => `(tactic| skip)
local macro_rules | `(tactic| walk_at "none13") => `(tactic| skip)
section Fm2_
set_option maxRecDepth 100000
set_option maxHeartbeats 4000000

local macro_rules | `(tactic| walk_at "call builtin:list.append") => `(tactic| refine held ?_)
section
variable {w : World} {mean : ExcName → Option Value} {mg mb : Str → Option Value} {dp un : Nat} {gd : Option (List Code)} {cn : Str} {ns : List (Str × NameKind)} {ig ic : Bool} {mo : List (Str × Const)} {ad Lc : Addr} {ccd : Value} {cl : List (Str × Addr)} {outer : List Env} {A₀ : Around} {base h₀ : Heap} {L P R : Addr} {rest : List (Addr × Obj)} {s : Shared} {E : Value → Shared → Prop} {n i : Nat} {mt it : Tok} {tb bi ch : Option Value}
theorem qm_s : Str.ofString "?" = mkS [63] := by decide +kernel
theorem hy_s : Str.ofString "-" = mkS [45] := by decide +kernel
theorem fm_else {S1 : Stmt} {body orelse : List Stmt} {sc : Scope} {ys : List Value} {cc : Nat} {Q : Flow → Shared → Prop}
    (hS : (bodOf (stA 43))[1]? = some S1) (hb : forBody S1 = [.For (.Tuple [.Name (Str.ofString "bit") p1, .Name (Str.ofString "char") p2] k pt) iter body orelse pos]) (hsc : scpOf (stA 43) = sc)
    (F : Fr h₀ L s.heap (fmM n mt P (some (.int (i : Int) it)) tb bi ch)) (X : (K1 w.params).In h₀) (T : Top q1 (looseW q1 lz) mean mg mb h₀) (N : News h₀ L s.heap ((P, lsObj ys cc) :: rest)) (hP : ∀ p ∈ rest, p.1 ≠ P) (hyl : ys.length ≤ 100)
    (hn : ∀ h' tk' t, Fr h₀ L h' (fmM n mt P (some (.int (i : Int) it)) tb bi ch) → News h₀ L h' ((P, lsObj (ys ++ [.str (mkS [if i = 0 then 63 else 45]) t]) (cc + 1)) :: rest) → Q .next { s with heap := h', toks := tk' }) :
    wpAny (model PySem.Challenge.rw_op0238_01.row.prog w) ((ktrTop dp un gd cn ⟨.function, ns, ig, ic, mo⟩ Lc ad ccd cl outer).deeper (envOf (S "filemode") sc L 781 (.ref 780))) (execs orelse (envOf (S "filemode") sc L 781 (.ref 780))) Q E s := by
  rw [show (bodOf (stA 43))[1]? = some _ from rfl] at hS
  cases hS
  rw [show scpOf (stA 43) = ⟨_, _, _, _, _⟩ from rfl] at hsc
  subst hsc
  cases hb
  obtain ⟨hh0, gg0, dd0, tk0, os0⟩ := s
  w_on
  k_fill
  k_steps
  · have hi0 : i = 0 := by omega
    unfold Held
    rw [qm_s]
    refine append_led F N hP (by omega) fun h5 F5 N5 => ?_
    k_steps
    exact hn _ _ _ F5 (by rw [if_pos hi0]; exact N5)
  · have hi0 : i ≠ 0 := by omega
    unfold Held
    rw [hy_s]
    refine append_led F N hP (by omega) fun h5 F5 N5 => ?_
    k_steps
    exact hn _ _ _ F5 (by rw [if_neg hi0]; exact N5)
end
end Fm2_
section Fm3_
set_option maxRecDepth 100000
set_option maxHeartbeats 4000000

local macro_rules | `(tactic| walk_at "call builtin:list.append") => `(tactic| refine held ?_)
section
variable {w : World} {mean : ExcName → Option Value} {mg mb : Str → Option Value} {dp un : Nat} {gd : Option (List Code)} {cn : Str} {ns : List (Str × NameKind)} {ig ic : Bool} {mo : List (Str × Const)} {ad Lc : Addr} {ccd : Value} {cl : List (Str × Addr)} {outer : List Env} {A₀ : Around} {base h₀ : Heap} {L P R : Addr} {rest : List (Addr × Obj)} {s : Shared} {E : Value → Shared → Prop} {n i : Nat} {mt it : Tok} {tb bi ch : Option Value}
/-- the rows of one table, as the heap has them -/
noncomputable def RowsAre (h₀ : Heap) (ax : Addr) (rows : List (Nat × Nat)) : Prop :=
  ∃ items : Array Value, ∃ row : Nat → Value × Value, h₀.IsTuple ax items ∧ items.size = rows.length ∧ (∀ (j : Nat) v, items[j]? = some v → ∃ T, v = .ref T ∧ h₀.IsTuple T #[(row j).1, (row j).2]) ∧
    ∀ (j b c : Nat), rows[j]? = some (b, c) → ∃ t t', row j = (.int (b : Int) t, .str (mkS [c]) t')
theorem pick_hit {n i b c d : Nat} {r : List (Nat × Nat)} (h : fmHit n i b) : (if i = 0 then fmPick (fun b => n &&& 61440 == b) d ((b, c) :: r) else fmPick (fun b => n &&& b == b) d ((b, c) :: r)) = c := by
  unfold fmHit at h
  by_cases hi : i = 0
  · rw [if_pos hi] at h ⊢; rw [fmPick, if_pos (beq_iff_eq.mpr h)]
  · rw [if_neg hi] at h ⊢; rw [fmPick, if_pos (beq_iff_eq.mpr h)]
theorem sign_hit {n i b c : Nat} {r : List (Nat × Nat)} (h : fmHit n i b) : fmSign n i ((b, c) :: r) = c := by
  unfold fmSign fmHit at *
  by_cases hi : i = 0
  · rw [if_pos hi] at h ⊢; rw [fmPick, if_pos (beq_iff_eq.mpr h)]
  · rw [if_neg hi] at h ⊢; rw [fmPick, if_pos (beq_iff_eq.mpr h)]
theorem sign_miss {n i b c : Nat} {r : List (Nat × Nat)} (h : ¬ fmHit n i b) : fmSign n i ((b, c) :: r) = fmSign n i r := by
  unfold fmSign fmHit at *
  by_cases hi : i = 0
  · simp only [if_pos hi] at h ⊢; rw [fmPick, if_neg (fun z => h (beq_iff_eq.mp z))]
  · simp only [if_neg hi] at h ⊢; rw [fmPick, if_neg (fun z => h (beq_iff_eq.mp z))]
theorem sign_nil {n i : Nat} : fmSign n i [] = if i = 0 then 63 else 45 := rfl
theorem fm_inner {S1 S2 : Stmt} {sc : Scope} {ys : List Value} {cc : Nat} {Q : Flow → Shared → Prop} {ax : Addr} {rows : List (Nat × Nat)}
    (hS : (bodOf (stA 43))[1]? = some S1) (hb : forBody S1 = [S2]) (hsc : scpOf (stA 43) = sc)
    (B : Below (ktrTop dp un gd cn ⟨.function, ns, ig, ic, mo⟩ Lc ad ccd cl outer) base (envX cn ⟨.function, ns, ig, ic, mo⟩ Lc ad ccd cl :: outer) h₀)
    (F : Fr h₀ L s.heap (fmM n mt P (some (.int (i : Int) it)) (some (.ref ax)) bi ch)) (X : (K1 w.params).In h₀) (T : Top q1 (looseW q1 lz) mean mg mb h₀) (N : News h₀ L s.heap ((P, lsObj ys cc) :: rest)) (hP : ∀ p ∈ rest, p.1 ≠ P) (hd : dp + 60 < recursionLimit) (hu : un + 300 < cLine) (hyl : ys.length ≤ 100) (hr : RowsAre h₀ ax rows)
    (hn : ∀ h' tk' t bi ch, Fr h₀ L h' (fmM n mt P (some (.int (i : Int) it)) (some (.ref ax)) bi ch) → News h₀ L h' ((P, lsObj (ys ++ [.str (mkS [fmSign n i rows]) t]) (cc + 1)) :: rest) → Q .next { s with heap := h', toks := tk' }) :
    wpAny (model PySem.Challenge.rw_op0238_01.row.prog w) ((ktrTop dp un gd cn ⟨.function, ns, ig, ic, mo⟩ Lc ad ccd cl outer).deeper (envOf (S "filemode") sc L 781 (.ref 780))) (exec S2 (envOf (S "filemode") sc L 781 (.ref 780))) Q E s := by
  obtain ⟨items, row, hax, hsz, hrow, hval⟩ := hr
  obtain ⟨p1, p2, k, pt, iter, body, orelse, pos, e2, hiter⟩ : ∃ p1 p2 k pt iter body orelse pos, S2 = .For (.Tuple [.Name (Str.ofString "bit") p1, .Name (Str.ofString "char") p2] k pt) iter body orelse pos ∧ ∃ p3, iter = .Name (Str.ofString "table") p3 := by
    rw [show (bodOf (stA 43))[1]? = some _ from rfl] at hS
    cases hS
    cases hb
    exact ⟨_, _, _, _, _, _, _, _, rfl, _, rfl⟩
  obtain ⟨p3, rfl⟩ := hiter
  subst e2
  have hb' := hb
  refine for_rows (env := envOf (S "filemode") sc L 781 (.ref 780)) (h₀ := h₀) (ax := ax) (items := items) (row := row)
    (fun j m' nw' => nw' = (P, lsObj ys cc) :: rest ∧ (∃ bi ch, m' = fmM n mt P (some (.int (i : Int) it)) (some (.ref ax)) bi ch) ∧ fmSign n i rows = fmSign n i (rows.drop j))
    (fun _ m' nw' => ∃ bi ch t, m' = fmM n mt P (some (.int (i : Int) it)) (some (.ref ax)) bi ch ∧ nw' = (P, lsObj (ys ++ [.str (mkS [fmSign n i rows]) t]) (cc + 1)) :: rest)
    rfl (by subst hsc; rfl) (by subst hsc; rfl) (by subst hsc; rfl) (fun _ => by subst hsc; with_unfolding_all rfl) F N (fun Q' hq => by subst hsc; exact nameX_L F rfl hq) hax hrow ⟨rfl, ⟨_, _, rfl⟩, by rw [List.drop_zero]⟩ ?_ ?_ ?_
  · intro j m₁ nw₁ I oI s₁ QQ E' hj hJ F1 N1 hI hnext hbrk
    obtain ⟨rfl, ⟨bi1, ch1, rfl⟩, hsg⟩ := hJ
    have hj' : j < rows.length := by omega
    obtain ⟨t, t', he⟩ := hval j _ _ (by rw [List.getElem?_eq_getElem hj'])
    rw [he, fmM_r] at F1
    have hdrop : rows.drop j = (rows[j].1, rows[j].2) :: rows.drop (j + 1) := by rw [List.drop_eq_getElem_cons hj']
    refine fm_turn hS hb hsc B F1 X T N1 hI hP hd hu hyl (fun h' tk' hm F2 N2 => ?_) (fun h' tk' hm F2 N2 => ?_)
    · exact hnext _ _ _ _ F2 N2 hI ⟨rfl, ⟨_, _, rfl⟩, by rw [hsg, hdrop, sign_miss hm]⟩
    · refine hbrk _ _ _ _ F2 (news_sub N2 (l' := (P, lsObj (ys ++ [.str (mkS [fmSign n i rows]) t']) (cc + 1)) :: rest) ?_) ⟨_, _, t', rfl, rfl⟩
      rw [hsg, hdrop, sign_hit hm]
      intro p hp
      rcases List.mem_cons.mp hp with rfl | hp
      · exact .head _
      · exact .tail _ (.tail _ hp)
  · intro m₁ nw₁ s₁ QQ E' hJ F1 N1 hnext
    obtain ⟨rfl, ⟨bi1, ch1, rfl⟩, hsg⟩ := hJ
    refine fm_else hS hb hsc F1 X T N1 hP hyl fun h' tk' t F2 N2 => ?_
    refine hnext _ _ _ _ F2 N2 ⟨_, _, t, rfl, ?_⟩
    rw [hsg, hsz, List.drop_length, sign_nil]
  · rintro m' nw' h' tk' F2 N2 ⟨bi2, ch2, t, rfl, rfl⟩
    exact hn _ _ _ _ _ F2 N2
end
end Fm3_
section Fm4_
set_option maxRecDepth 100000
set_option maxHeartbeats 4000000

noncomputable def tupOf (K : Frag) (a : Addr) : Option (List Value) := match K.lookup a with
  | some o => if o.cls == .type "tuple" then (match o.data with
    | .seq items _ => some items.toList
    | _ => none) else none
  | none => none
theorem tupOf_is {K : Frag} {h₀ : Heap} {a : Addr} {l : List Value} (X : K.In h₀) (h : tupOf K a = some l) : h₀.IsTuple a l.toArray := by
  unfold tupOf at h
  cases hq : K.lookup a with
  | none => rw [hq] at h; cases h
  | some o =>
    rw [hq] at h
    dsimp only at h
    split at h
    · rename_i hc
      cases hd : o.data with
      | seq items n => rw [hd] at h; cases h; exact ⟨o, X _ _ hq, eq_of_beq hc, n, by rw [hd]⟩
      | _ => rw [hd] at h; cases h
    · cases h
theorem rows_are {K : Frag} {h₀ : Heap} {a : Addr} {rows : List (Nat × Nat)} {row : Nat → Value × Value} (Ts : List Addr) (X : K.In h₀) (h : tupOf K a = some (Ts.map Value.ref)) (hl : Ts.length = rows.length)
    (hr : ∀ j T, Ts[j]? = some T → tupOf K T = some [(row j).1, (row j).2]) (hv : ∀ (j b c : Nat), rows[j]? = some (b, c) → ∃ t t', row j = (.int (b : Int) t, .str (mkS [c]) t')) : RowsAre h₀ a rows := by
  refine ⟨(Ts.map Value.ref).toArray, row, tupOf_is X h, by simp [hl], fun j v e => ?_, hv⟩
  rw [List.getElem?_toArray, List.getElem?_map] at e
  cases hT : Ts[j]? with
  | none => rw [hT] at e; cases e
  | some T => rw [hT] at e; cases e; exact ⟨T, rfl, tupOf_is X (hr j T hT)⟩
end Fm4_
section Fm5_
set_option maxRecDepth 100000
set_option maxHeartbeats 4000000

noncomputable def rowAt (K : Frag) (Ts : List Addr) (j : Nat) : Value × Value := match Ts[j]? with
  | some T => (match tupOf K T with
    | some [a, b] => (a, b)
    | _ => (.none, .none))
  | none => (.none, .none)
noncomputable def isRow (v : Value × Value) (b c : Nat) : Bool := match v with
  | (.int x _, .str s _) => x == (b : Int) && s == mkS [c]
  | _ => false
theorem isRow_is {v : Value × Value} {b c : Nat} (h : isRow v b c = true) : ∃ t t', v = (.int (b : Int) t, .str (mkS [c]) t') := by
  unfold isRow at h
  split at h
  · rw [Bool.and_eq_true] at h
    exact ⟨_, _, by rw [eq_of_beq h.1, eq_of_beq h.2]⟩
  · cases h
noncomputable def tabOk (K : Frag) (a : Addr) (Ts : List Addr) (rows : List (Nat × Nat)) : Bool :=
  Ts.length == rows.length && (List.range Ts.length).all fun j => isRow (rowAt K Ts j) (rows.getD j (0, 0)).1 (rows.getD j (0, 0)).2
theorem tab_0 {w : World} {h₀ : Heap} (X : (K1 w.params).In h₀) : RowsAre h₀ 749 [(40960, 108), (49152, 115), (32768, 45), (24576, 98), (16384, 100), (8192, 99), (4096, 112)] := by
  refine rows_are (row := rowAt (K1 w.params) [742, 743, 744, 745, 746, 747, 748]) [742, 743, 744, 745, 746, 747, 748] X (by kernel_rfl) rfl (fun j T e => ?_) (fun j b c e => ?_)
  · match j, e with
    | 0, e => cases e; kernel_rfl
    | 1, e => cases e; kernel_rfl
    | 2, e => cases e; kernel_rfl
    | 3, e => cases e; kernel_rfl
    | 4, e => cases e; kernel_rfl
    | 5, e => cases e; kernel_rfl
    | 6, e => cases e; kernel_rfl
  · match j, e with
    | 0, e => cases e; exact isRow_is (by kernel_rfl)
    | 1, e => cases e; exact isRow_is (by kernel_rfl)
    | 2, e => cases e; exact isRow_is (by kernel_rfl)
    | 3, e => cases e; exact isRow_is (by kernel_rfl)
    | 4, e => cases e; exact isRow_is (by kernel_rfl)
    | 5, e => cases e; exact isRow_is (by kernel_rfl)
    | 6, e => cases e; exact isRow_is (by kernel_rfl)
theorem tab_1 {w : World} {h₀ : Heap} (X : (K1 w.params).In h₀) : RowsAre h₀ 751 [(256, 114)] := by
  refine rows_are (row := rowAt (K1 w.params) [750]) [750] X (by kernel_rfl) rfl (fun j T e => ?_) (fun j b c e => ?_)
  · match j, e with
    | 0, e => cases e; kernel_rfl
  · match j, e with
    | 0, e => cases e; exact isRow_is (by kernel_rfl)
theorem tab_2 {w : World} {h₀ : Heap} (X : (K1 w.params).In h₀) : RowsAre h₀ 753 [(128, 119)] := by
  refine rows_are (row := rowAt (K1 w.params) [752]) [752] X (by kernel_rfl) rfl (fun j T e => ?_) (fun j b c e => ?_)
  · match j, e with
    | 0, e => cases e; kernel_rfl
  · match j, e with
    | 0, e => cases e; exact isRow_is (by kernel_rfl)
theorem tab_3 {w : World} {h₀ : Heap} (X : (K1 w.params).In h₀) : RowsAre h₀ 757 [(2112, 115), (2048, 83), (64, 120)] := by
  refine rows_are (row := rowAt (K1 w.params) [754, 755, 756]) [754, 755, 756] X (by kernel_rfl) rfl (fun j T e => ?_) (fun j b c e => ?_)
  · match j, e with
    | 0, e => cases e; kernel_rfl
    | 1, e => cases e; kernel_rfl
    | 2, e => cases e; kernel_rfl
  · match j, e with
    | 0, e => cases e; exact isRow_is (by kernel_rfl)
    | 1, e => cases e; exact isRow_is (by kernel_rfl)
    | 2, e => cases e; exact isRow_is (by kernel_rfl)
theorem tab_4 {w : World} {h₀ : Heap} (X : (K1 w.params).In h₀) : RowsAre h₀ 759 [(32, 114)] := by
  refine rows_are (row := rowAt (K1 w.params) [758]) [758] X (by kernel_rfl) rfl (fun j T e => ?_) (fun j b c e => ?_)
  · match j, e with
    | 0, e => cases e; kernel_rfl
  · match j, e with
    | 0, e => cases e; exact isRow_is (by kernel_rfl)
theorem tab_5 {w : World} {h₀ : Heap} (X : (K1 w.params).In h₀) : RowsAre h₀ 761 [(16, 119)] := by
  refine rows_are (row := rowAt (K1 w.params) [760]) [760] X (by kernel_rfl) rfl (fun j T e => ?_) (fun j b c e => ?_)
  · match j, e with
    | 0, e => cases e; kernel_rfl
  · match j, e with
    | 0, e => cases e; exact isRow_is (by kernel_rfl)
theorem tab_6 {w : World} {h₀ : Heap} (X : (K1 w.params).In h₀) : RowsAre h₀ 765 [(1032, 115), (1024, 83), (8, 120)] := by
  refine rows_are (row := rowAt (K1 w.params) [762, 763, 764]) [762, 763, 764] X (by kernel_rfl) rfl (fun j T e => ?_) (fun j b c e => ?_)
  · match j, e with
    | 0, e => cases e; kernel_rfl
    | 1, e => cases e; kernel_rfl
    | 2, e => cases e; kernel_rfl
  · match j, e with
    | 0, e => cases e; exact isRow_is (by kernel_rfl)
    | 1, e => cases e; exact isRow_is (by kernel_rfl)
    | 2, e => cases e; exact isRow_is (by kernel_rfl)
theorem tab_7 {w : World} {h₀ : Heap} (X : (K1 w.params).In h₀) : RowsAre h₀ 767 [(4, 114)] := by
  refine rows_are (row := rowAt (K1 w.params) [766]) [766] X (by kernel_rfl) rfl (fun j T e => ?_) (fun j b c e => ?_)
  · match j, e with
    | 0, e => cases e; kernel_rfl
  · match j, e with
    | 0, e => cases e; exact isRow_is (by kernel_rfl)
theorem tab_8 {w : World} {h₀ : Heap} (X : (K1 w.params).In h₀) : RowsAre h₀ 769 [(2, 119)] := by
  refine rows_are (row := rowAt (K1 w.params) [768]) [768] X (by kernel_rfl) rfl (fun j T e => ?_) (fun j b c e => ?_)
  · match j, e with
    | 0, e => cases e; kernel_rfl
  · match j, e with
    | 0, e => cases e; exact isRow_is (by kernel_rfl)
theorem tab_9 {w : World} {h₀ : Heap} (X : (K1 w.params).In h₀) : RowsAre h₀ 773 [(513, 116), (512, 84), (1, 120)] := by
  refine rows_are (row := rowAt (K1 w.params) [770, 771, 772]) [770, 771, 772] X (by kernel_rfl) rfl (fun j T e => ?_) (fun j b c e => ?_)
  · match j, e with
    | 0, e => cases e; kernel_rfl
    | 1, e => cases e; kernel_rfl
    | 2, e => cases e; kernel_rfl
  · match j, e with
    | 0, e => cases e; exact isRow_is (by kernel_rfl)
    | 1, e => cases e; exact isRow_is (by kernel_rfl)
    | 2, e => cases e; exact isRow_is (by kernel_rfl)
theorem tab_all {w : World} {h₀ : Heap} (X : (K1 w.params).In h₀) : h₀.IsTuple 774 #[.ref 749, .ref 751, .ref 753, .ref 757, .ref 759, .ref 761, .ref 765, .ref 767, .ref 769, .ref 773] := tupOf_is (l := [.ref 749, .ref 751, .ref 753, .ref 757, .ref 759, .ref 761, .ref 765, .ref 767, .ref 769, .ref 773]) X (by kernel_rfl)
end Fm5_
section Fm6_
set_option maxRecDepth 100000
set_option maxHeartbeats 4000000

section
variable {w : World} {mean : ExcName → Option Value} {mg mb : Str → Option Value} {dp un : Nat} {gd : Option (List Code)} {cn : Str} {ns : List (Str × NameKind)} {ig ic : Bool} {mo : List (Str × Const)} {ad Lc : Addr} {ccd : Value} {cl : List (Str × Addr)} {outer : List Env} {A₀ : Around} {base h₀ : Heap} {L P R : Addr} {rest : List (Addr × Obj)} {s : Shared} {E : Value → Shared → Prop} {n i : Nat} {mt it : Tok} {tb bi ch : Option Value}
theorem tab_at {w : World} {h₀ : Heap} (X : (K1 w.params).In h₀) {i : Nat} {v : Value} (e : (#[.ref 749, .ref 751, .ref 753, .ref 757, .ref 759, .ref 761, .ref 765, .ref 767, .ref 769, .ref 773] : Array Value)[i]? = some v) : ∃ a, v = .ref a ∧ RowsAre h₀ a (fmTab.getD i []) := by
  match i, e with
  | 0, e => cases e; exact ⟨_, rfl, tab_0 X⟩
  | 1, e => cases e; exact ⟨_, rfl, tab_1 X⟩
  | 2, e => cases e; exact ⟨_, rfl, tab_2 X⟩
  | 3, e => cases e; exact ⟨_, rfl, tab_3 X⟩
  | 4, e => cases e; exact ⟨_, rfl, tab_4 X⟩
  | 5, e => cases e; exact ⟨_, rfl, tab_5 X⟩
  | 6, e => cases e; exact ⟨_, rfl, tab_6 X⟩
  | 7, e => cases e; exact ⟨_, rfl, tab_7 X⟩
  | 8, e => cases e; exact ⟨_, rfl, tab_8 X⟩
  | 9, e => cases e; exact ⟨_, rfl, tab_9 X⟩
  | k + 10, e => cases e
theorem fm_outer {S1 : Stmt} {sc : Scope} {Q : Flow → Shared → Prop} (hS : (bodOf (stA 43))[1]? = some S1) (hsc : scpOf (stA 43) = sc)
    (B : Below (ktrTop dp un gd cn ⟨.function, ns, ig, ic, mo⟩ Lc ad ccd cl outer) base (envX cn ⟨.function, ns, ig, ic, mo⟩ Lc ad ccd cl :: outer) h₀)
    (F : Fr h₀ L s.heap (fmM n mt P none none none none)) (X : (K1 w.params).In h₀) (T : Top q1 (looseW q1 lz) mean mg mb h₀) (N : News h₀ L s.heap ((P, lsObj [] 0) :: rest)) (hP : ∀ p ∈ rest, p.1 ≠ P) (hd : dp + 60 < recursionLimit) (hu : un + 300 < cLine)
    (hn : ∀ h' tk' ys cc ix tb bi ch, TxtsAre ys ((fmR n).map fun c => [c]) → Fr h₀ L h' (fmM n mt P ix tb bi ch) → News h₀ L h' ((P, lsObj ys cc) :: rest) → Q .next { s with heap := h', toks := tk' }) :
    wpAny (model PySem.Challenge.rw_op0238_01.row.prog w) ((ktrTop dp un gd cn ⟨.function, ns, ig, ic, mo⟩ Lc ad ccd cl outer).deeper (envOf (S "filemode") sc L 781 (.ref 780))) (exec S1 (envOf (S "filemode") sc L 781 (.ref 780))) Q E s := by
  obtain ⟨p1, p2, k, pt, pg, pn, pc, pos, S2, e2, hb⟩ : ∃ p1 p2 k pt pg pn pc pos S2, S1 = .For (.Tuple [.Name (Str.ofString "index") p1, .Name (Str.ofString "table") p2] k pt) (.Call (.Name (Str.ofString "enumerate") pg) [.Name (Str.ofString "_filemode_table") pn] [] pc) [S2] [] pos ∧ forBody S1 = [S2] := by
    rw [show (bodOf (stA 43))[1]? = some _ from rfl] at hS
    cases hS
    exact ⟨_, _, _, _, _, _, _, _, _, rfl, rfl⟩
  subst e2
  refine for_enum (env := envOf (S "filemode") sc L 781 (.ref 780)) (h₀ := h₀) (ax := 774) (items := #[.ref 749, .ref 751, .ref 753, .ref 757, .ref 759, .ref 761, .ref 765, .ref 767, .ref 769, .ref 773])
    (fun i m' nw' => (∃ ix tb bi ch, m' = fmM n mt P ix tb bi ch) ∧ ∃ ys cc, nw' = (P, lsObj ys cc) :: rest ∧ ys.length = i ∧ TxtsAre ys (((List.range i).map fun i => fmSign n i (fmTab.getD i [])).map fun c => [c]))
    rfl (by subst hsc; rfl) (by subst hsc; rfl) (by subst hsc; rfl) (fun _ => by subst hsc; with_unfolding_all rfl) F N (fun Q' hq => ?_) (tab_all X) ⟨⟨_, _, _, _, rfl⟩, [], 0, rfl, rfl, .nil⟩ ?_ ?_
  · subst hsc
    exact call_typ (id := "enumerate") (t1 := eval _ _) (tr := []) F X T (by kernel_rfl) (by kernel_rfl) (by decide) rfl rfl rfl rfl rfl rfl (sp1 (name_K F X T (v := .ref 774) (by kernel_rfl) rfl rfl rfl hq (by decide))) (by decide)
  · intro i t v m₁ nw₁ I oI I' oI' s₁ QQ E' hi hv hJ F1 N1 hI hnext
    obtain ⟨⟨ix, tb, bi, ch, rfl⟩, ys, cc, rfl, hlen, hys⟩ := hJ
    obtain ⟨a, rfl, hr⟩ := tab_at X hv
    rw [fmM_t] at F1
    have hi10 : i < 10 := hi
    have N1' : News h₀ L s₁.heap ((P, lsObj ys cc) :: (I, oI) :: (I', oI') :: rest) := news_sub N1 fun p hp => by
      simp only [List.mem_cons] at hp ⊢
      rcases hp with h | h | h | h <;> simp [h]
    refine wpAny_execs_cons ?_
    refine fm_inner hS hb hsc B F1 X T N1' (fun p hp => ?_) hd hu (by omega) hr fun h' tk' t2 bi2 ch2 F2 N2 => wpAny_execs_nil ?_
    · rcases List.mem_cons.mp hp with rfl | hp
      · exact Ne.symm (hI _ (.head _)).1
      · rcases List.mem_cons.mp hp with rfl | hp
        · exact Ne.symm (hI _ (.head _)).2
        · exact hP p hp
    refine hnext _ ((P, lsObj (ys ++ [.str (mkS [fmSign n i (fmTab.getD i [])]) t2]) (cc + 1)) :: rest) _ _ F2 (news_sub N2 fun p hp => ?_) (fun p hp => ?_) ⟨⟨_, _, _, _, rfl⟩, _, _, rfl, by simp [hlen], ?_⟩
    · simp only [List.mem_cons] at hp ⊢
      rcases hp with h | h | h | h <;> simp [h]
    · rcases List.mem_cons.mp hp with rfl | hp
      · exact hI (P, lsObj ys cc) (.head _)
      · exact hI p (.tail _ hp)
    · rw [List.range_succ, List.map_append, List.map_append]
      exact hys.snoc _ _
  · rintro m' nw' h' tk' F2 N2 ⟨⟨ix, tb, bi, ch, rfl⟩, ys, cc, rfl, hlen, hys⟩
    exact hn _ _ ys cc _ _ _ _ hys F2 N2
end
end Fm6_
section FmC_
set_option maxRecDepth 100000
set_option maxHeartbeats 4000000

local macro_rules | `(tactic| walk_at "exec For Tuple Call cons nil") => `(tactic| refine held ?_)
local macro_rules | `(tactic| walk_at "call builtin:str.join") => `(tactic| (k_here; (refine join_led (by assumption) (by assumption) (by omega) ?_); intro _ _))
theorem fmM_0 {n : Nat} {mt : Tok} {P : Addr} : (fun y => if y = Str.ofString "perm" then some (Value.ref P) else List.lookup y [(Str.ofString "mode", Value.int (n : Int) mt)]) = fmM n mt P none none none none := by
  funext y
  unfold fmM
  rw [List.lookup_cons]
  by_cases h5 : y = Str.ofString "mode"
  · subst h5; rfl
  · rw [beq_eq_false_iff_ne.mpr h5]
    by_cases h3 : y = Str.ofString "perm"
    · subst h3; rfl
    · rw [if_neg h3, if_neg h3, if_neg h5]; simp [List.lookup]
theorem fm_len (n : Nat) : (fmR n).length ≤ 10 := by unfold fmR; simp
theorem fm_ct (w : World) (n : Nat) (t : Tok) : Does w 781 [.int (n : Int) t] [] 100 500 (fun _ => True) (fun news news' r => news' = news ∧ ∃ t', r = .str (mkS (fmR n)) t') := by
  unfold Does
  w_on
  k_fill
  intro mean mg mb dp un gd cn ns ig ic mo ad ccd cl outer A₀ base h₀ L m news s Q E B F X N T hpre hd hu hret
  obtain ⟨hh, gg, dd, tk, os⟩ := s
  refine wpAny_call ?_
  k_dflt k_enter
  try dsimp only
  generalize tk + List.length _ = tk0
  k_steps
  unfold Held
  rename News _ _ _ _ => N1
  rename Fr _ _ _ _ => F1
  rename ∀ p ∈ news, _ => l1
  rename Below _ _ _ _ => B1
  rename Frag.In _ _ => X1
  rename Top _ _ _ _ _ _ => T1
  refine fm_outer (n := n) rfl rfl B1 (fr_eq F1 fmM_0) X1 T1 N1 (fun p hp => Nat.ne_of_lt (l1 p hp)) (by omega) (by omega) fun h' tk' ys cc ix tb bi ch hys F2 N2 => ?_
  clear N1 F1
  have := fm_len n
  dsimp only
  k_steps
  exact hret _ news _ _ (by k_asm) (by first | k_asm | exact news_sub (by assumption) (fun p hp => .tail _ hp)) ⟨rfl, _, rfl⟩
end FmC_
section Mir_
set_option maxRecDepth 100000
set_option maxHeartbeats 4000000

theorem rev_text (l : List Nat) (u : Tok) : Txt.sliceBy (mkS l) none none (-1, u) = mkS l.reverse := by
  have h := step_rev_list (mkS l) u
  have e : (mkS l).length = l.length := mkS_len l
  rw [e] at h
  have : (Txt.sliceBy (mkS l) none none (-1, u)).cps.toList = l.reverse := by
    rw [h]
    apply List.ext_getElem
    · simp
    · intro i h1 h2
      rw [List.getElem_map, List.getElem_range, List.getElem_reverse]
      have hi : i < l.length := by simpa using h2
      have hk : l.length - 1 - i < l.length := by omega
      simp [Array.getD, hk]
  rcases hx : Txt.sliceBy (mkS l) none none (-1, u) with ⟨c⟩
  rw [hx] at this
  show Str.mk c = Str.mk _
  congr 1
  rw [← this]
theorem txts_get : ∀ {vs : List Value} {ws : List (List Nat)}, TxtsAre vs ws → ∀ {i : Nat} {v : Value}, vs[i]? = some v → ∃ wd t, ws[i]? = some wd ∧ v = .str (mkS wd) t := by
  intro vs ws h
  induction h with
  | nil => intro i v e; simp at e
  | cons h ih => intro i v e; cases i with
    | zero => simp at e; subst e; exact ⟨_, _, rfl, rfl⟩
    | succ i => simp at e; exact ih (by simpa using e)
theorem txts_rev : ∀ {vs : List Value} {ws : List (List Nat)}, TxtsAre vs ws → TxtsAre vs.reverse ws.reverse := by
  intro vs ws h
  induction h with
  | nil => exact .nil
  | cons h ih => rw [List.reverse_cons, List.reverse_cons]; exact ih.snoc _ _
section
variable {prog : Program} {w : World} {A : Around} {h₀ : Heap} {L : Addr} {m : Str → Option Value} {led : List (Addr × Obj)} {s : Shared} {E : Value → Shared → Prop}
theorem slice_m1 {env : Env} {p1 p2 p3 : Pos} {kd : Nat} {Q : Value → Shared → Prop} (h : ∀ t tk, Q (.ref s.heap.objs.size) { s with heap := s.heap.push { cls := .type "slice", data := .fields #[.none, .none, .int (-1) t] }, toks := tk }) :
    wpAny (model prog w) A (eval (.Slice none none (some (.UnaryOp .USub (.Constant (.int 1) kd p1) p2)) p3) env) Q E s := by
  refine wpAny_Slice ?_
  refine wpAny_pure (wpAny_pure ?_)
  show wpAny _ _ (eval _ _) _ _ _
  exact wpAny_UnaryOp (wpAny_Constant_int (PyProof.Rows.neg_int (h _ _)))
end
section
variable {w : World} {A : Around} {h₀ : Heap} {L Z : Addr} {m : Str → Option Value} {led : List (Addr × Obj)} {s : Shared} {E : Value → Shared → Prop} {vs : List Value} {ws : List (List Nat)} {k : Nat}
theorem mir_last {S1 : Stmt} {sc : Scope} {Q : Flow → Shared → Prop} (hS : (bodOf (stA 50))[1]? = some S1) (hsc : scpOf (stA 50) = sc) (hh : A.handled = none) (F : Fr h₀ L s.heap m) (N : News h₀ L s.heap led) (hm : m (Str.ofString "words") = some (.ref Z)) (hl : (Z, lsObj vs k) ∈ led) (ht : TxtsAre vs ws) (hn : ws.length ≤ 1000) (hw : ∀ wd ∈ ws, wd.length ≤ 1000)
    (h : ∀ D ys c h' tk' led', TxtsAre ys (ws.reverse.map List.reverse) → Fr h₀ L h' m → News h₀ L h' ((D, lsObj ys c) :: led') → (∀ p ∈ led, p ∈ led') → (∀ p ∈ led, p.1 < D) → Q (.ret (.ref D)) { s with heap := h', toks := tk' }) :
    wpAny (model PySem.Challenge.rw_op0238_01.row.prog w) A (exec S1 (envOf (S "_law_mirror") sc L 814 (.ref 813))) Q E s := by
  rw [show (bodOf (stA 50))[1]? = some _ from rfl] at hS
  cases hS
  rw [show scpOf (stA 50) = ⟨_, _, _, _, _⟩ from rfl] at hsc
  subst hsc
  obtain ⟨hh0, gg, dd, tk, os⟩ := s
  refine wpAny_Return_some ?_
  refine comp_go (h₀ := h₀) (L := L) (m := m) (cl := []) (by with_unfolding_all rfl) rfl (by decide) (.inl ⟨rfl, fun _ _ => rfl, fun _ => rfl⟩) (fun _ => by with_unfolding_all rfl) ?_
  refine Subscript_ (nameX_L F hm (slice_m1 fun t2 tk2 => ?_))
  have hvl : vs.length = ws.length := by
    clear h hw hn hl
    induction ht with
    | nil => rfl
    | cons _ ih => simp [ih]
  refine krv_lit (zs := vs.reverse) (s := ⟨hh0, gg, dd, tk2, os⟩) F N (News.isList N hl) (IsPart.int _ _) (by simp) (fun D h1 F1 N1 hlt => ?_) (by with_unfolding_all rfl) (fun _ => by with_unfolding_all rfl) (by rw [sizeLine_eq]; simp; omega)
  refine go_list hh F1 N1 (News.isList N1 (.head _)) (.inl ⟨_, .head _⟩) (by simp; omega) (J := fun i ys nw => nw = (D, W.listOf vs.reverse.toArray 0) :: led ∧ ys.length = i ∧ TxtsAre ys ((ws.reverse.map List.reverse).take i)) ⟨rfl, rfl, by simpa using TxtsAre.nil⟩ ?_ (fin_ret ?_)
  · intro C cl' i ys nw sp tg v s₃ E' hcl hi hP hJ ht3 hsub hnw F3 N3 hd3
    have hP' : vs.reverse[i]? = some v := by simpa using hP
    obtain ⟨wd, u, hwd, rfl⟩ := txts_get (txts_rev ht) hP'
    obtain ⟨rfl, rfl, hJ⟩ := hJ
    refine tests_nil ?_
    rw [if_pos rfl]
    obtain ⟨hh3, gg3, dd3, tk3, os3⟩ := s₃
    refine Subscript_ (nameT N3 (fun p hp => List.mem_append_left _ (hsub p hp)) ht3 rfl (slice_m1 fun t4 tk4 => ?_) (by decide))
    have hwl : wd.length ≤ 1000 := hw wd (List.mem_reverse.mp (List.mem_of_getElem? hwd))
    refine slice_strK_nn (s := ⟨hh3, gg3, dd3, tk4, os3⟩) F3 N3 rfl (fun h' t' c F' N' => ?_) (by with_unfolding_all rfl) (fun _ => by with_unfolding_all rfl) (by rw [mkS_len, sizeLine_eq]; omega)
    refine ⟨_, h', c, rfl, F', N', fun _ h => h, hd3, rfl, by simp, ?_⟩
    rw [rev_text, List.take_add_one, List.getElem?_map, hwd]
    exact hJ.snoc _ _
  · rintro D2 ys c h' tk' nw hyl ⟨rfl, hlen, hJ⟩ F' N' hne hsub hlt2
    refine h D2 ys c h' tk' _ ?_ F' N' (fun p hp => .tail _ hp) (fun p hp => hlt2 p (.tail _ hp))
    have : ys.length = (ws.reverse.map List.reverse).length := by
      rw [hlen]; simp; omega
    rw [List.take_of_length_le (by simp; omega)] at hJ
    exact hJ
end
end Mir_
local macro_rules | `(tactic| walk_at "none14") => `(tactic| skip)
local macro_rules | `(tactic| walk_at "none15") => `(tactic| skip)
local macro_rules | `(tactic| walk_at "none16") => `(tactic| skip)
section MirC_
set_option maxRecDepth 100000
set_option maxHeartbeats 4000000

/-- all words turned about -/
noncomputable def mirR (o : Option (List (List Nat))) : Option (List (List Nat)) := o.map fun ws => ws.reverse.map List.reverse
local macro_rules | `(tactic| walk_at "exec Return some") => `(tactic| ((with_reducible show wpAny _ _ (exec (Stmt.Return (some (Expr.ListComp _ _ _ _)) _) _) _ _ _); refine held ?_))
theorem mir_none (w : World) : Does w 814 [.none] [] 20 100 (fun _ => True) (fun news news' r => news' = news ∧ r = .none) := by
  unfold Does
  w_on
  k_fill
  intro mean mg mb dp un gd cn ns ig ic mo ad ccd cl outer A₀ base h₀ L m news s Q E B F X N T hpre hd hu hret
  obtain ⟨hh, gg, dd, tk, os⟩ := s
  refine wpAny_call ?_
  k_dflt k_enter
  k_steps
  exact hret _ _ _ _ (by k_asm) (by k_asm) ⟨rfl, rfl⟩
theorem mir_some (w : World) (Z : Addr) (vs : List Value) (k : Nat) (ws : List (List Nat)) (hn : ws.length ≤ 1000) (hw : ∀ wd ∈ ws, wd.length ≤ 1000) (ht : TxtsAre vs ws) : Does w 814 [.ref Z] [] 20 100 (fun news => (Z, lsObj vs k) ∈ news) (fun news news' r => ∃ D ys c led', r = .ref D ∧ TxtsAre ys (ws.reverse.map List.reverse) ∧ news' = (D, lsObj ys c) :: led' ∧ (∀ p ∈ news, p ∈ led') ∧ ∀ p ∈ news, p.1 < D) := by
  unfold Does
  w_on
  k_fill
  intro mean mg mb dp un gd cn ns ig ic mo ad ccd cl outer A₀ base h₀ L m news s Q E B F X N T hpre hd hu hret
  obtain ⟨hh, gg, dd, tk, os⟩ := s
  refine wpAny_call ?_
  k_dflt k_enter
  try dsimp only
  generalize tk + List.length _ = tk0
  k_steps
  unfold Held
  rename News _ _ _ _ => N1
  rename Fr _ _ _ _ => F1
  refine mir_last (vs := vs) (ws := ws) (Z := Z) (k := k) rfl rfl rfl F1 N1 rfl hpre ht hn hw fun D ys c h' tk' led' hys F2 N2 hsub hlt => ?_
  clear N1 F1
  dsimp only
  k_steps
  exact hret _ _ _ _ (by k_asm) (by k_asm) ⟨D, ys, c, led', rfl, hys, rfl, hsub, hlt⟩
end MirC_
section Ne_
open PySem.SeqAt PySem PySem.W PyProof.Rows PySem.Calls PySem.Spec PyProof

set_option maxRecDepth 100000
set_option maxHeartbeats 4000000

/-- two equal readings are not unequal -/
theorem spl_ne {prog : Program} {w : World} {A : Around} {E : Value → Shared → Prop} {s : Shared} {Q : Value → Shared → Prop} {h₀ : Heap} {L : Addr} {l : List (Addr × Obj)} {o : Option (List (List Nat))} {v v' : Value} (N : News h₀ L s.heap l) (hv : SplIs o v l) (hv' : SplIs o v' l) (hu : A.units < cLine)
    (h : Q (.bool false) s) : wpAny (model prog w) A (richCompare .NotEq v v') Q E s := by
  rcases hv with ⟨rfl, rfl⟩ | ⟨D, ws, vs, c, rfl, rfl, hD, ht⟩
  · rcases hv' with ⟨_, rfl⟩ | ⟨_, _, _, _, e, _⟩
    · exact RcNeAt.none_none prog w E Q h
    · cases e
  · rcases hv' with ⟨e, _⟩ | ⟨D', ws', vs', c', e, rfl, hD', ht'⟩
    · cases e
    · cases e
      have hl : ∀ {vs : List Value} {ws : List (List Nat)}, TxtsAre vs ws → vs.length = ws.length := by
        intro vs ws ht
        induction ht with
        | nil => rfl
        | cons _ ih => simp [ih]
      have h1 := hl ht
      have h2 := hl ht'
      have key := RcNeAt.lists (A := A) (s := s) (e := fun _ => true) (News.isList N hD) (News.isList N hD') (by simp [h1, h2]) hu (fun j g1 g2 => by
        have g1' : j < vs.length := by simpa using g1
        have g2' : j < vs'.length := by simpa using g2
        obtain ⟨wd, t, e1, e2⟩ := txts_get ht (List.getElem?_eq_getElem g1')
        obtain ⟨wd', t', e1', e2'⟩ := txts_get ht' (List.getElem?_eq_getElem g2')
        rw [e1] at e1'
        cases e1'
        show EqAt A.in1 s vs[j] vs'[j] true
        rw [e2, e2']
        have := EqAt.str_str (A := A.in1) (s := s) (mkS wd) t (mkS wd) t'
        rwa [beq_self_eq_true] at this)
      refine key prog w E Q ?_
      have : (!(List.range vs.toArray.size).all fun _ => true) = false := by simp
      rw [this]
      exact h
end Ne_
section Pl1_
set_option maxRecDepth 100000

/-- the quote's state -/
noncomputable def qst (q : Option Nat) (c : Nat) : Option Nat := match q with
  | none => if isQ c then some c else none
  | some k => if c = k then none else some k
inductive Mk where
  | brk | tch | chr (c : Nat)
deriving DecidableEq
noncomputable def mkOf (q : Option Nat) (c : Nat) : Mk := match q with
  | none => if isQ c then .tch else if isW c then .brk else .chr c
  | some k => if c = k then .tch else .chr c
noncomputable def marksOf : Option Nat → List Nat → List Mk
  | _, [] => []
  | q, c :: r => mkOf q c :: marksOf (qst q c) r
noncomputable def wds : Option (List Nat) → List Mk → List (List Nat)
  | w, [] => w.toList
  | w, .brk :: r => w.toList ++ wds none r
  | w, .tch :: r => wds (some (w.getD [])) r
  | w, .chr c :: r => wds (some (w.getD [] ++ [c])) r
theorem q_nq {c : Nat} (h : isQ c = true) : qst none c = some c := if_pos h
theorem q_nn {c : Nat} (h : ¬ isQ c = true) : qst none c = none := if_neg h
theorem q_se {c k : Nat} (h : c = k) : qst (some k) c = none := if_pos h
theorem q_sn {c k : Nat} (h : c ≠ k) : qst (some k) c = some k := if_neg h
theorem m_nq {c : Nat} (h : isQ c = true) : mkOf none c = .tch := if_pos h
theorem m_nw {c : Nat} (h : ¬ isQ c = true) (h' : isW c = true) : mkOf none c = .brk := (if_neg h).trans (if_pos h')
theorem m_nc {c : Nat} (h : ¬ isQ c = true) (h' : ¬ isW c = true) : mkOf none c = .chr c := (if_neg h).trans (if_neg h')
theorem m_se {c k : Nat} (h : c = k) : mkOf (some k) c = .tch := if_pos h
theorem m_sn {c k : Nat} (h : c ≠ k) : mkOf (some k) c = .chr c := if_neg h
theorem sc_marks : ∀ (x : List Nat) (q : Option Nat) (w : Option (List Nat)), (q ≠ none → w ≠ none) → sc q w x = if x.foldl qst q = none then some (wds w (marksOf q x)) else none
  | [], none, w, _ => rfl
  | [], some k, w, _ => rfl
  | c :: r, none, w, h => by
    rw [sc, List.foldl_cons, marksOf]
    by_cases hq : isQ c = true
    · rw [if_pos hq, q_nq hq, m_nq hq, wds, sc_marks r (some c) (some (w.getD [])) (by simp)]
    · rw [if_neg hq, q_nn hq]
      by_cases hw : isW c = true
      · rw [if_pos hw, m_nw hq hw, wds, sc_marks r none none (by simp)]
        split <;> rfl
      · rw [if_neg hw, m_nc hq hw, wds, sc_marks r none _ (by simp)]
  | c :: r, some k, w, h => by
    rw [sc, List.foldl_cons, marksOf]
    by_cases he : c = k
    · rw [if_pos he, q_se he, m_se he, wds, sc_marks r none w (by simp)]
      cases w with
      | none => exact absurd rfl (h (by simp))
      | some v => rfl
    · rw [if_neg he, q_sn he, m_sn he, wds, sc_marks r (some k) _ (by simp)]
theorem wds_app : ∀ (a b : List Mk) (w : Option (List Nat)), wds w (a ++ .brk :: b) = wds w a ++ wds none b
  | [], b, w => rfl
  | .brk :: a, b, w => by rw [List.cons_append, wds, wds, wds_app a b none, List.append_assoc]
  | .tch :: a, b, w => by rw [List.cons_append, wds, wds, wds_app a b _]
  | .chr c :: a, b, w => by rw [List.cons_append, wds, wds, wds_app a b _]
noncomputable def chs : List Mk → List Nat
  | [] => []
  | .chr c :: r => c :: chs r
  | _ :: r => chs r
theorem chs_app : ∀ (a b : List Mk), chs (a ++ b) = chs a ++ chs b
  | [], b => rfl
  | .brk :: a, b => chs_app a b
  | .tch :: a, b => chs_app a b
  | .chr c :: a, b => congrArg (c :: ·) (chs_app a b)
theorem chs_rev : ∀ a : List Mk, chs a.reverse = (chs a).reverse
  | [] => rfl
  | .brk :: a => by rw [List.reverse_cons, chs_app, chs_rev a]; simp [chs]
  | .tch :: a => by rw [List.reverse_cons, chs_app, chs_rev a]; simp [chs]
  | .chr c :: a => by rw [List.reverse_cons, chs_app, chs_rev a]; simp [chs]
theorem wds_some : ∀ (a : List Mk) (w : List Nat), Mk.brk ∉ a → wds (some w) a = [w ++ chs a]
  | [], w, _ => by simp [wds, chs]
  | .brk :: a, w, h => absurd (.head _) h
  | .tch :: a, w, h => by rw [wds, wds_some a _ (fun z => h (.tail _ z))]; rfl
  | .chr c :: a, w, h => by rw [wds, wds_some a _ (fun z => h (.tail _ z))]; simp [chs]
theorem wds_none (a : List Mk) (h : Mk.brk ∉ a) : wds none a = if a = [] then [] else [chs a] := by
  cases a with
  | nil => rfl
  | cons m a => cases m with
    | brk => exact absurd (.head _) h
    | tch => rw [wds, wds_some a _ (fun z => h (.tail _ z))]; rfl
    | chr c => rw [wds, wds_some a _ (fun z => h (.tail _ z))]; rfl
theorem wds_rev : ∀ (n : Nat) (a : List Mk), a.length ≤ n → wds none a.reverse = (wds none a).reverse.map List.reverse
  | 0, a, h => by
    have : a = [] := List.eq_nil_of_length_eq_zero (by omega)
    subst this; rfl
  | n + 1, a, h => by
    by_cases hb : Mk.brk ∈ a
    · obtain ⟨l, r, rfl⟩ := List.append_of_mem hb
      simp only [List.length_append, List.length_cons] at h
      rw [List.reverse_append, List.reverse_cons, List.append_assoc, List.singleton_append, wds_app, wds_app, wds_rev n r (by omega), wds_rev n l (by omega), List.reverse_append, List.map_append]
    · rw [wds_none a hb, wds_none a.reverse (by simpa using hb)]
      by_cases h0 : a = []
      · subst h0; rfl
      · rw [if_neg h0, if_neg (by simpa using h0), chs_rev]; rfl
/-- the states that occur -/
noncomputable def qok (q : Option Nat) : Prop := ∀ k, q = some k → isQ k = true
theorem qok_st {q : Option Nat} (h : qok q) (c : Nat) : qok (qst q c) := by
  cases q with
  | none =>
    by_cases hq : isQ c = true
    · rw [q_nq hq]; rintro k ⟨⟩; exact hq
    · rw [q_nn hq]; rintro k ⟨⟩
  | some k =>
    by_cases he : c = k
    · rw [q_se he]; rintro k ⟨⟩
    · rw [q_sn he]; exact h
theorem qst_inv {q : Option Nat} (h : qok q) (c : Nat) : qst (qst q c) c = q := by
  cases q with
  | none =>
    by_cases hq : isQ c = true
    · rw [q_nq hq, q_se rfl]
    · rw [q_nn hq, q_nn hq]
  | some k =>
    by_cases he : c = k
    · subst he; rw [q_se rfl, q_nq (h _ rfl)]
    · rw [q_sn he, q_sn he]
theorem mk_inv {q : Option Nat} (h : qok q) (c : Nat) : mkOf (qst q c) c = mkOf q c := by
  cases q with
  | none =>
    by_cases hq : isQ c = true
    · rw [q_nq hq, m_se rfl, m_nq hq]
    · rw [q_nn hq]
  | some k =>
    by_cases he : c = k
    · subst he; rw [q_se rfl, m_nq (h _ rfl), m_se rfl]
    · rw [q_sn he]
theorem marks_app : ∀ (a b : List Nat) (q : Option Nat), marksOf q (a ++ b) = marksOf q a ++ marksOf (a.foldl qst q) b
  | [], _, _ => rfl
  | c :: a, b, q => by rw [List.cons_append, marksOf, marksOf, marks_app a b, List.foldl_cons]; rfl
theorem rev_st : ∀ (x : List Nat) (q : Option Nat), qok q → x.reverse.foldl qst (x.foldl qst q) = q ∧ marksOf (x.foldl qst q) x.reverse = (marksOf q x).reverse
  | [], q, _ => ⟨rfl, rfl⟩
  | c :: r, q, h => by
    obtain ⟨h1, h2⟩ := rev_st r (qst q c) (qok_st h c)
    rw [show List.foldl qst q (c :: r) = List.foldl qst (qst q c) r from rfl, List.reverse_cons, List.foldl_append, List.foldl_cons, marks_app, h1, h2]
    refine ⟨qst_inv h c, ?_⟩
    show _ ++ [mkOf (qst q c) c] = (mkOf q c :: marksOf (qst q c) r).reverse
    rw [mk_inv h, List.reverse_cons]
/-- the reader reads a text turned about as the words turned about -/
theorem sc_mirror (x : List Nat) : sc none none x.reverse = mirR (sc none none x) := by
  have h0 : qok none := by rintro k ⟨⟩
  rw [sc_marks _ none none (by simp), sc_marks _ none none (by simp)]
  obtain ⟨h1, h2⟩ := rev_st x none h0
  by_cases h : x.foldl qst none = none
  · rw [h] at h1 h2
    rw [if_pos h1, if_pos h, h2, wds_rev _ _ (Nat.le_refl _)]
    rfl
  · rw [if_neg h, if_neg]
    · rfl
    · intro z
      obtain ⟨h3, _⟩ := rev_st x.reverse none h0
      rw [z, List.reverse_reverse] at h3
      exact h h3
/-- where a right lies -/
noncomputable def atQ (p : Int × Int × Int) (q : Option Nat) : Int := match q with
  | none => p.1
  | some k => if k = 39 then p.2.1 else p.2.2
theorem isQ_iff {c : Nat} : isQ c = true ↔ c = 34 ∨ c = 39 := by
  unfold isQ; simp; omega
theorem mov_at (p : Int × Int × Int) (q : Option Nat) (h : qok q) (c : Nat) : atQ (mov1 p c) (qst q c) = atQ p q := by
  obtain ⟨a, b, d⟩ := p
  cases q with
  | none =>
    by_cases hq : isQ c = true
    · rw [q_nq hq]
      rcases isQ_iff.mp hq with rfl | rfl <;> rfl
    · rw [q_nn hq]
      have h1 : c ≠ 39 := fun z => hq (isQ_iff.mpr (.inr z))
      have h2 : c ≠ 34 := fun z => hq (isQ_iff.mpr (.inl z))
      unfold mov1; rw [if_neg h1, if_neg h2]
  | some k =>
    by_cases he : c = k
    · subst he
      rw [q_se rfl]
      rcases isQ_iff.mp (h _ rfl) with rfl | rfl <;> rfl
    · rw [q_sn he]
      rcases isQ_iff.mp (h _ rfl) with rfl | rfl
      · by_cases h1 : c = 39
        · subst h1; rfl
        · unfold mov1; rw [if_neg h1, if_neg he]
      · by_cases h1 : c = 34
        · subst h1; rfl
        · unfold mov1; rw [if_neg he, if_neg h1]
theorem moved_at : ∀ (x : List Nat) (p : Int × Int × Int) (q : Option Nat), qok q → atQ (x.foldl mov1 p) (x.foldl qst q) = atQ p q
  | [], _, _, _ => rfl
  | c :: r, p, q, h => (moved_at r (mov1 p c) (qst q c) (qok_st h c)).trans (mov_at p q h c)
theorem qok_fold : ∀ (x : List Nat) (q : Option Nat), qok q → qok (x.foldl qst q)
  | [], _, h => h
  | c :: r, q, h => qok_fold r (qst q c) (qok_st h c)
end Pl1_
section Pl2_
set_option maxRecDepth 100000

noncomputable def qA : Nat → Option Nat
  | 0 => none
  | 1 => some 39
  | _ => some 34
theorem qA_ok (a : Nat) : qok (qA a) := by
  intro k h
  unfold qA at h
  split at h
  · cases h
  · cases h; rfl
  · cases h; rfl
theorem qok_A {q : Option Nat} (h : qok q) : ∃ a, a < 3 ∧ q = qA a := by
  cases q with
  | none => exact ⟨0, by decide, rfl⟩
  | some k => rcases isQ_iff.mp (h k rfl) with rfl | rfl
              · exact ⟨2, by decide, rfl⟩
              · exact ⟨1, by decide, rfl⟩
theorem mk_to (a : Nat) (h : a < 3) : (mk a).foldl qst none = qA a := by
  have : a = 0 ∨ a = 1 ∨ a = 2 := by omega
  rcases this with rfl | rfl | rfl <;> rfl
theorem mk_from (b : Nat) (h : b < 3) {q : Option Nat} (hq : qok q) : (mk b).foldl qst q = none ↔ q = qA b := by
  obtain ⟨a, ha, rfl⟩ := qok_A hq
  have h1 : a = 0 ∨ a = 1 ∨ a = 2 := by omega
  have h2 : b = 0 ∨ b = 1 ∨ b = 2 := by omega
  rcases h1 with rfl | rfl | rfl <;> rcases h2 with rfl | rfl | rfl <;> decide
theorem acc_iff (t : List Nat) (a b : Nat) (ha : a < 3) (hb : b < 3) : sc none none (mk a ++ t ++ mk b) ≠ none ↔ t.foldl qst (qA a) = qA b := by
  rw [sc_marks _ none none (by simp), List.foldl_append, List.foldl_append, mk_to a ha, ← mk_from b hb (qok_fold t _ (qA_ok a))]
  split
  · rename_i h; simp [h]
  · rename_i h; simp [h]
theorem fold_inj (t : List Nat) {q q' : Option Nat} (h : qok q) (h' : qok q') (e : t.foldl qst q = t.foldl qst q') : q = q' := by
  have h1 := (rev_st t q h).1
  rw [e, (rev_st t q' h').1] at h1
  exact h1.symm
noncomputable def wgt : Nat → Int
  | 0 => 4
  | 1 => 2
  | _ => 1
theorem at_wgt : ∀ a : Nat, atQ (4, 2, 1) (qA a) = wgt a
  | 0 => rfl
  | 1 => rfl
  | _ + 2 => rfl
/-- a class has just the right whose text is read -/
theorem one_right (t : List Nat) (b : Nat) (hb : b < 3) : ∃ a, a < 3 ∧ atQ (moved t) (qA b) = wgt a ∧ ∀ a', a' < 3 → (sc none none (mk a' ++ t ++ mk b) ≠ none ↔ a' = a) := by
  have h := rev_st t.reverse (qA b) (qA_ok b)
  rw [List.reverse_reverse] at h
  obtain ⟨a, ha, e⟩ := qok_A (qok_fold t.reverse _ (qA_ok b))
  rw [e] at h
  refine ⟨a, ha, ?_, fun a' ha' => ?_⟩
  · have := moved_at t (4, 2, 1) (qA a) (qA_ok a)
    rw [h.1, at_wgt] at this
    exact this
  · rw [acc_iff t a' b ha' hb]
    constructor
    · intro z
      have := fold_inj t (qA_ok a') (qA_ok a) (z.trans h.1.symm)
      have h1 : a = 0 ∨ a = 1 ∨ a = 2 := by omega
      have h2 : a' = 0 ∨ a' = 1 ∨ a' = 2 := by omega
      rcases h1 with rfl | rfl | rfl <;> rcases h2 with rfl | rfl | rfl <;> first | rfl | (exact absurd this (by decide))
    · rintro rfl; exact h.1
theorem sc_len : ∀ (x : List Nat) (q : Option Nat) (w : Option (List Nat)) (ws : List (List Nat)), sc q w x = some ws → ws.length ≤ x.length + 1 ∧ ∀ wd ∈ ws, wd.length ≤ (w.getD []).length + x.length
  | [], none, w, ws, h => by
    cases h
    cases w with
    | none => simp
    | some v => simp
  | [], some k, w, ws, h => by cases h
  | c :: r, none, w, ws, h => by
    rw [sc] at h
    split at h
    · obtain ⟨h1, h2⟩ := sc_len r _ _ _ h
      refine ⟨by simp; omega, fun wd hw => ?_⟩
      have := h2 wd hw
      simp only [Option.getD_some, List.length_cons] at this ⊢; omega
    · split at h
      · cases hr : sc none none r with
        | none => rw [hr] at h; cases h
        | some ws' =>
          rw [hr] at h
          cases h
          obtain ⟨h1, h2⟩ := sc_len r _ _ _ hr
          refine ⟨?_, fun wd hw => ?_⟩
          · cases w <;> simp <;> omega
          · rcases List.mem_append.mp hw with hw | hw
            · cases w with
              | none => simp at hw
              | some v => simp at hw; subst hw; simp
            · have := h2 wd hw
              simp only [Option.getD_none, List.length_nil, List.length_cons] at this ⊢; omega
      · obtain ⟨h1, h2⟩ := sc_len r _ _ _ h
        refine ⟨by simp; omega, fun wd hw => ?_⟩
        have := h2 wd hw
        simp only [Option.getD_some, List.length_append, List.length_cons, List.length_nil] at this ⊢; omega
  | c :: r, some k, w, ws, h => by
    rw [sc] at h
    split at h
    · obtain ⟨h1, h2⟩ := sc_len r _ _ _ h
      refine ⟨by simp; omega, fun wd hw => ?_⟩
      have := h2 wd hw
      simp only [List.length_cons]; omega
    · obtain ⟨h1, h2⟩ := sc_len r _ _ _ h
      refine ⟨by simp; omega, fun wd hw => ?_⟩
      have := h2 wd hw
      simp only [Option.getD_some, List.length_append, List.length_cons, List.length_nil] at this ⊢; omega
end Pl2_
section Sb_
open PySem.SeqAt PySem PySem.W PyProof.Rows PySem.Calls PySem.Spec PyProof

set_option maxRecDepth 100000
set_option maxHeartbeats 8000000

theorem spl_of_lr {text : List Nat} {news news' : List (Addr × Obj)} {r : Value} (h : lrRet text news news' r) : SplIs (Mine.sc none none text) r news' ∧ ∀ p ∈ news, p ∈ news' := by
  rcases h with ⟨e, rfl, hs⟩ | ⟨S, ws, vs, c, e, rfl, h1, h2, _, h4⟩
  · exact ⟨.inl ⟨e, rfl⟩, hs⟩
  · exact ⟨.inr ⟨S, ws, vs, c, e, rfl, h1, h2⟩, h4⟩
theorem SplIs.mono {o : Option (List (List Nat))} {v : Value} {l l' : List (Addr × Obj)} (h : SplIs o v l) (hs : ∀ p ∈ l, p ∈ l') : SplIs o v l' := by
  rcases h with h | ⟨S, ws, vs, c, e, e2, h1, h2⟩
  · exact .inl h
  · exact .inr ⟨S, ws, vs, c, e, e2, hs _ h1, h2⟩
section
variable {w : World} {mean : ExcName → Option Value} {mg mb : Str → Option Value} {dp un : Nat} {gd : Option (List Code)} {cn : Str} {ns : List (Str × NameKind)} {ig ic : Bool} {mo : List (Str × Const)} {a : Addr} {ccd : Value} {cl : List (Str × Addr)} {outer : List Env} {A₀ : Around} {base h₀ : Heap} {L : Addr} {m : Str → Option Value} {led : List (Addr × Obj)} {s : Shared} {Q E : Value → Shared → Prop} {o : Option (List (List Nat))} {v : Value}
/-- _law_mirror of a reading -/
theorem mir_use (B : Below A₀ base outer h₀) (F : Fr h₀ L s.heap m) (X : (Mine.K1 w.params).In h₀) (N : News h₀ L s.heap led) (T : Top Mine.q1 (looseW Mine.q1 lz) mean mg mb h₀) (hd : dp + 20 < recursionLimit) (hu : un + 100 < cLine) (hv : SplIs o v led) (ho : ∀ ws, o = some ws → ws.length ≤ 1000 ∧ ∀ wd ∈ ws, wd.length ≤ 1000)
    (h : ∀ r led' h' tk', Fr h₀ L h' m → News h₀ L h' led' → (∀ p ∈ led, p ∈ led') → SplIs (mirR o) r led' → Q r { s with heap := h', toks := tk' }) :
    wpAny (model PySem.Challenge.rw_op0238_01.row.prog w) (ktrTop dp un gd cn ⟨.function, ns, ig, ic, mo⟩ L a ccd cl outer) (call (.ref 814) [v]) Q E s := by
  rcases hv with ⟨rfl, rfl⟩ | ⟨S, ws, vs, c, rfl, rfl, h1, h2⟩
  · refine does_use (mir_none w) B F X N T trivial hd hu ?_
    rintro r nw' h' tk' F' N' ⟨rfl, rfl⟩
    exact h _ _ _ _ F' N' (fun _ h => h) (.inl ⟨rfl, rfl⟩)
  · obtain ⟨h3, h4⟩ := ho ws rfl
    refine does_use (mir_some w S vs c ws h3 h4 h2) B F X N T h1 hd hu ?_
    rintro r nw' h' tk' F' N' ⟨D, ys, k, led', rfl, hys, rfl, hs, _⟩
    exact h _ _ _ _ F' N' (fun p hp => .tail _ (hs p hp)) (.inr ⟨D, _, ys, k, rfl, rfl, .head _, hys⟩)
end
noncomputable abbrev lawE (sc : Scope) (L fa : Addr) (cd : Value) (c1 c2 c3 c4 c5 : Addr) : Env := envX (Str.ofString "law") sc L fa cd (lawCl c1 c2 c3 c4 c5)
section
variable {prog : Program} {w : World} {A : Around} {E : Value → Shared → Prop} {s : Shared} {h₀ : Heap} {L : Addr} {led : List (Addr × Obj)} {env : Env} {v0 : Value} {Rel : Nat → Nat → Value → List (Addr × Obj) → Prop}
/-- a name's value, here and now -/
noncomputable def Nm (M : Model) (A : Around) (E : Value → Shared → Prop) (s : Shared) (env : Env) (x : Str) (v : Value) : Prop := ∀ (pos : Pos) (Q : Value → Shared → Prop), Q v s → wpAny M A (eval (.Name x pos) env) Q E s
theorem NameIs.nm {M : Model} {A : Around} {x : Str} {v : Value} (h : NameIs M A h₀ L env x v led) (N : News h₀ L s.heap led) : Nm M A E s env x v := fun _ _ q => h _ _ _ _ _ N (fun _ h => h) q
theorem Nm.loc {M : Model} {cn : Str} {cs : Scope} {ad : Addr} {ccd : Value} {cl : List (Str × Addr)} {x : Str} {v : Value} {m : Str → Option Value} (F : Fr h₀ L s.heap m) (hv : m x = some v) (hk : cs.kind = .function := by rfl) (hx : (envX cn cs L ad ccd cl).kindOf x = some .local := by rfl) (hd : (x == ("__debug__" : Str)) = false := by decide) :
    Nm M A E s (envX cn cs L ad ccd cl) x v := fun _ _ q => nameX_L F hv q hk hx hd
/-- an item of an item of a table of tables -/
theorem sub2 {x y z : Str} {p1 p2 p3 p4 p5 : Pos} {b a : Nat} {tb ta : Tok} {m n : Nat} {Q : Value → Shared → Prop} (N : News h₀ L s.heap led) (hx : Nm (model prog w) A E s env x v0) (hr : RelAll (fun b v l => RelAll (fun a v l => Rel b a v l) m v l) n v0 led) (hb : b < n) (ha : a < m) (hm : n ≤ 1000) (hn : m ≤ 1000)
    (hy : Nm (model prog w) A E s env y (.int (b : Int) tb)) (hz : Nm (model prog w) A E s env z (.int (a : Int) ta))
    (h : ∀ v, Rel b a v led → Q v s) : wpAny (model prog w) A (eval (.Subscript (.Subscript (.Name x p1) (.Name y p2) p3) (.Name z p4) p5) env) Q E s := by
  obtain ⟨D, ys, c, rfl, hD, hl, hrel⟩ := hr
  have hbl : b < ys.length := by omega
  obtain ⟨D2, ys2, c2, e2, hD2, hl2, hrel2⟩ := hrel b ys[b] (List.getElem?_eq_getElem hbl)
  have hal : a < ys2.length := by omega
  refine Subscript_ (Subscript_ (hx _ _ (hy _ _ ?_)))
  refine item_listL (l := ys) (x := .ref D2) (News.isList N hD) (by omega) (by omega) ?_ ?_ (by with_unfolding_all rfl) (by intro _; with_unfolding_all rfl)
  · rw [Int.toNat_natCast, List.getElem?_eq_getElem hbl, e2]
  refine hz _ _ ?_
  refine item_listT (l := ys2) (x := ys2[a]) (News.isList N hD2) (by omega) (by omega) ?_ (h _ (hrel2 a _ (List.getElem?_eq_getElem hal))) (by with_unfolding_all rfl)
  rw [Int.toNat_natCast, List.getElem?_eq_getElem hal]
/-- a mark of the tuple of marks -/
theorem mark_at {x y : Str} {p1 p2 p3 : Pos} {Mt : Addr} {oM : Obj} {items : Array Value} {a : Nat} {ta : Tok} {Q : Value → Shared → Prop} (N : News h₀ L s.heap led) (hx : Nm (model prog w) A E s env x (.ref Mt)) (hmM : (Mt, oM) ∈ led) (hM : MarksObj oM items) (ha : a < 3)
    (hy : Nm (model prog w) A E s env y (.int (a : Int) ta)) (h : ∀ t, Q (.str (mkS (mk a)) t) s) : wpAny (model prog w) A (eval (.Subscript (.Name x p1) (.Name y p2) p3) env) Q E s := by
  have hi : a < items.size := by rw [hM.2.1]; exact ha
  obtain ⟨t, e⟩ := marks_get hM hi (Array.getElem?_eq_getElem hi)
  obtain ⟨hMc, nM, hMd⟩ := hM.1
  have e3 : items.toList.length = 3 := by rw [Array.length_toList]; exact hM.2.1
  refine Subscript_ (hx _ _ (hy _ _ ?_))
  refine item_tupleT (l := items.toList) (j := a) (x := .str (mkS (mk a)) t) ⟨oM, (N _ hmM).1, hMc, nM, by simpa using hMd⟩ (by omega) (by omega) ?_ ?_ (h t) (by with_unfolding_all rfl)
  · rw [e3]
    unfold seqIndex?
    have : a = 0 ∨ a = 1 ∨ a = 2 := by omega
    rcases this with rfl | rfl | rfl <;> rfl
  · rw [Array.getElem?_toList, Array.getElem?_eq_getElem hi, e]
end
theorem RelAll.mono {Rel : Nat → Value → List (Addr × Obj) → Prop} {n : Nat} {v : Value} {l l' : List (Addr × Obj)} (hR : ∀ k y, Rel k y l → Rel k y l') (hs : ∀ p ∈ l, p ∈ l') (h : RelAll Rel n v l) : RelAll Rel n v l' := by
  obtain ⟨D, ys, c, e, hD, hl, hr⟩ := h
  exact ⟨D, ys, c, e, hs _ hD, hl, fun k y hk => hR k y (hr k y hk)⟩
theorem relSpl_mono {f : Nat → Nat → Option (List (List Nat))} {n m : Nat} {v : Value} {l l' : List (Addr × Obj)} (hs : ∀ p ∈ l, p ∈ l') (h : RelAll (fun b v l => RelAll (fun a v l => SplIs (f b a) v l) m v l) n v l) : RelAll (fun b v l => RelAll (fun a v l => SplIs (f b a) v l) m v l) n v l' :=
  RelAll.mono (fun _ _ h => RelAll.mono (fun _ _ h => h.mono hs) hs h) hs h
theorem mk_rev (a : Nat) : (mk a).reverse = mk a := by
  match a with
  | 0 => rfl
  | 1 => rfl
  | _ + 2 => rfl
theorem mk_mirror (t : List Nat) (a b : Nat) : sc none none (mk b ++ t.reverse ++ mk a) = mirR (sc none none (mk a ++ t ++ mk b)) := by
  rw [← sc_mirror]
  simp only [List.reverse_append, mk_rev, List.append_assoc]
end Sb_
section St8_
open PySem.SeqAt PySem PySem.W PyProof.Rows PySem.Calls PySem.Spec PyProof

set_option maxRecDepth 100000
set_option maxHeartbeats 8000000

theorem st8_turn {w : World} {mean : ExcName → Option Value} {mg mb : Str → Option Value} {gd : Option (List Code)} {dp un : Nat} {A₀ : Around} {base h₀ : Heap} {S : Stmt} {rr : List Stmt} {sc : Scope} {L fa : Addr} {cd : Value} {s : Shared} {m : Str → Option Value} {led : List (Addr × Obj)} {c1 c2 c3 c4 c5 Mt : Addr} {o1 o3 o4 o5 oM : Obj} {items : Array Value} {v4 v5 : Value} {Q : Flow → Shared → Prop} {E : Value → Shared → Prop} {t : List Nat} {tt : Tok} {b a : Nat} {tb ta : Tok}
  (hS : lawDef.body.drop 7 = S :: rr) (hsc : lawDef.scope = sc)
  (B : Below A₀ base [] h₀) (F : Fr h₀ L s.heap m) (X : (Mine.K1 w.params).In h₀) (N : News h₀ L s.heap led) (T : Top Mine.q1 (looseW Mine.q1 lz) mean mg mb h₀)
  (hm1 : (c1, o1) ∈ led) (hm3 : (c3, o3) ∈ led) (hm4 : (c4, o4) ∈ led) (hm5 : (c5, o5) ∈ led) (hmM : (Mt, oM) ∈ led) (ho1 : o1.data = .cell (some (.str (mkS t) tt))) (ho3 : o3.data = .cell (some (.ref Mt))) (ho4 : o4.data = .cell (some v4)) (ho5 : o5.data = .cell (some v5)) (hM : MarksObj oM items)
  (hr4 : RelAll (fun b v l => RelAll (fun a v l => SplIs (Mine.sc none none (mk a ++ t ++ mk b)) v l) 3 v l) 3 v4 led) (hr5 : RelAll (fun b v l => RelAll (fun a v l => SplIs (Mine.sc none none (mk b ++ t.reverse ++ mk a)) v l) 3 v l) 3 v5 led)
  (htl : t.length ≤ 10) (hb : b < 3) (ha : a < 3) (hvb : m (Str.ofString "b") = some (.int (b : Int) tb)) (hva : m (Str.ofString "a") = some (.int (a : Int) ta))
  (hd : dp + 500 < recursionLimit) (hu : un + 2000 < cLine)
  (h : ∀ h' tk' led', Fr h₀ L h' m → News h₀ L h' led' → (∀ p ∈ led, p ∈ led') → Q .next { s with heap := h', toks := tk' }) :
  wpAny (model PySem.Challenge.rw_op0238_01.row.prog w) (ktrTop dp un gd (Str.ofString "law") sc L fa cd (lawCl c1 c2 c3 c4 c5) []) (execs (forBody (forBody S).head!) (lawE sc L fa cd c1 c2 c3 c4 c5)) Q E s := by
  rw [show lawDef.body.drop 7 = _ :: _ from rfl] at hS
  obtain ⟨rfl, rfl⟩ := List.cons.inj hS
  rw [show lawDef.scope = ⟨_, _, _, _, _⟩ from rfl] at hsc
  subst hsc
  clear hS
  obtain ⟨hh, gg, dd, tk, os⟩ := s
  have ht3 : (mk a ++ t ++ mk b).length ≤ 20 := by have := mk_len a; have := mk_len b; simp only [List.length_append]; omega
  refine wpAny_execs_cons (wpAny_If (wpAny_isTrue_Compare1 ?_ (by with_unfolding_all rfl)))
  refine sub2 N ((NameIs.cell (c := c4) (o := o4) (led0 := led) rfl rfl rfl hm4 ho4 (by decide)).nm N) hr4 hb ha (by omega) (by omega) (Nm.loc F hvb) (Nm.loc F hva) fun v1 hv1 => ?_
  refine call_named (f := 809) F X T (by kernel_rfl) (by kernel_rfl) rfl rfl rfl rfl (sp1 (wpAny_BinOp (wpAny_BinOp (mark_at N ((NameIs.cell (c := c3) (o := o3) (led0 := led) rfl rfl rfl hm3 ho3 (by decide)).nm N) hmM hM ha (Nm.loc F hva) fun t1 => ((NameIs.cell (c := c1) (o := o1) (led0 := led) rfl rfl rfl hm1 ho1 (by decide)).nm N) _ _ (add_mk ?l1 fun t2 k2 => mark_at (s := ⟨hh, gg, dd, k2, os⟩) N ((NameIs.cell (c := c3) (o := o3) (led0 := led) rfl rfl rfl hm3 ho3 (by decide)).nm N) hmM hM hb (Nm.loc F hvb) fun t3 => add_mk ?l2 fun t4 k4 => ⟨⟨m, F⟩, ?_⟩))))) (by decide)
  case l1 => have := mk_len a; omega
  case l2 => have := mk_len a; have := mk_len b; simp only [List.length_append]; omega
  refine does_use (read_law w (mk a ++ t ++ mk b) t4 (by omega)) B F X N T trivial (by ktr_room) (by ktr_units) ?_
  intro r nw' h' tk' F' N' hR
  obtain ⟨hr, hs⟩ := spl_of_lr hR
  refine spl_ne N' (hv1.mono hs) hr (by ktr_units) ?_
  refine wpAny_truthy_bool ?_
  rw [if_neg (by decide)]
  refine wpAny_execs_nil ?_
  clear hr hR hv1
  have hr4' := relSpl_mono (f := fun b a => Mine.sc none none (mk a ++ t ++ mk b)) hs hr4
  have hr5' := relSpl_mono (f := fun b a => Mine.sc none none (mk b ++ t.reverse ++ mk a)) hs hr5
  refine wpAny_execs_cons (wpAny_If (wpAny_isTrue_Compare1 ?_ (by with_unfolding_all rfl)))
  refine sub2 N' ((NameIs.cell (c := c5) (o := o5) (led0 := nw') rfl rfl rfl (hs _ hm5) ho5 (by decide)).nm N') hr5' hb ha (by omega) (by omega) (Nm.loc F' hvb) (Nm.loc F' hva) fun v2 hv2 => ?_
  refine call_named (f := 814) F' X T (by kernel_rfl) (by kernel_rfl) rfl rfl rfl rfl (sp1 (sub2 N' ((NameIs.cell (c := c4) (o := o4) (led0 := nw') rfl rfl rfl (hs _ hm4) ho4 (by decide)).nm N') hr4' hb ha (by omega) (by omega) (Nm.loc F' hvb) (Nm.loc F' hva) fun v3 hv3 => ⟨⟨m, F'⟩, ?_⟩)) (by decide)
  refine mir_use B F' X N' T (by ktr_room) (by ktr_units) hv3 ?_ fun r3 led3 h3 tk3 F3 N3 hs3 hr3 => ?_
  · intro ws hws
    obtain ⟨g1, g2⟩ := sc_len _ _ _ _ hws
    exact ⟨by omega, fun wd hwd => by have := g2 wd hwd; simp at this ht3; omega⟩
  rw [mk_mirror] at hv2
  refine spl_ne N3 (hv2.mono hs3) hr3 (by ktr_units) ?_
  refine wpAny_truthy_bool ?_
  rw [if_neg (by decide)]
  refine wpAny_execs_nil ?_
  exact wpAny_execs_nil (h _ _ _ F3 N3 fun p hp => hs3 p (hs p hp))
theorem st8 {w : World} {mean : ExcName → Option Value} {mg mb : Str → Option Value} {gd : Option (List Code)} {dp un : Nat} {A₀ : Around} {base h₀ : Heap} {S : Stmt} {rr : List Stmt} {sc : Scope} {L fa : Addr} {cd : Value} {s : Shared} {m : Str → Option Value} {led : List (Addr × Obj)} {c1 c2 c3 c4 c5 Mt : Addr} {o1 o3 o4 o5 oM : Obj} {items : Array Value} {v4 v5 : Value} {Q : Flow → Shared → Prop} {E : Value → Shared → Prop} {t : List Nat} {tt : Tok}
  (hS : lawDef.body.drop 7 = S :: rr) (hsc : lawDef.scope = sc)
  (B : Below A₀ base [] h₀) (F : Fr h₀ L s.heap m) (X : (Mine.K1 w.params).In h₀) (N : News h₀ L s.heap led) (T : Top Mine.q1 (looseW Mine.q1 lz) mean mg mb h₀)
  (hm1 : (c1, o1) ∈ led) (hm3 : (c3, o3) ∈ led) (hm4 : (c4, o4) ∈ led) (hm5 : (c5, o5) ∈ led) (hmM : (Mt, oM) ∈ led) (ho1 : o1.data = .cell (some (.str (mkS t) tt))) (ho3 : o3.data = .cell (some (.ref Mt))) (ho4 : o4.data = .cell (some v4)) (ho5 : o5.data = .cell (some v5)) (hM : MarksObj oM items)
  (hr4 : RelAll (fun b v l => RelAll (fun a v l => SplIs (Mine.sc none none (mk a ++ t ++ mk b)) v l) 3 v l) 3 v4 led) (hr5 : RelAll (fun b v l => RelAll (fun a v l => SplIs (Mine.sc none none (mk b ++ t.reverse ++ mk a)) v l) 3 v l) 3 v5 led)
  (htl : t.length ≤ 10)
  (hd : dp + 500 < recursionLimit) (hu : un + 2000 < cLine)
  (h : ∀ m' h' tk' led', (∀ y, y ≠ Str.ofString "a" → y ≠ Str.ofString "b" → m' y = m y) → Fr h₀ L h' m' → News h₀ L h' led' → (∀ p ∈ led, p ∈ led') → Q .next { s with heap := h', toks := tk' }) :
  wpAny (model PySem.Challenge.rw_op0238_01.row.prog w) (ktrTop dp un gd (Str.ofString "law") sc L fa cd (lawCl c1 c2 c3 c4 c5) []) (exec S (lawE sc L fa cd c1 c2 c3 c4 c5)) Q E s := by
  have turn := @st8_turn w mean mg mb gd dp un A₀ base h₀ S rr sc L fa cd
  rw [show lawDef.body.drop 7 = _ :: _ from rfl] at hS
  obtain ⟨rfl, rfl⟩ := List.cons.inj hS
  rw [show lawDef.scope = ⟨_, _, _, _, _⟩ from rfl] at hsc
  subst hsc
  clear hS
  obtain ⟨hh, gg, dd, tk, os⟩ := s
  refine for_go (h₀ := h₀) rfl rfl (fun _ => by with_unfolding_all rfl) ?_
  refine call_typ (id := "range") (t1 := eval _ _) (tr := []) F X T (by kernel_rfl) (by kernel_rfl) (by decide) rfl rfl rfl rfl rfl rfl (sp1 (wpAny_Constant_int ?_)) (by decide)
  refine call_range_1 ?_
  have F1 := F.push ({ cls := .type "range", data := .fields #[.int 0 (tk + 1), .int 3 tk, .int 1 (tk + 1 + 1)] } : Obj)
  have N1 := news_sub (N.push F ({ cls := .type "range", data := .fields #[.int 0 (tk + 1), .int 3 tk, .int 1 (tk + 1 + 1)] } : Obj)) (fun p hp => List.mem_cons_of_mem _ hp)
  refine for_range (env := lawE _ L fa cd c1 c2 c3 c4 c5) (n := 3) rfl F1 N1 (IsRange.new _ _ _ _ _ _ _) (by decide) (by decide)
    (J := fun _ m' nw' => (∀ y, y ≠ Str.ofString "a" → y ≠ Str.ofString "b" → m' y = m y) ∧ ∀ p ∈ led, p ∈ nw') ⟨fun _ _ _ => rfl, fun _ h => h⟩ ?_ ?_
  · intro b v m1 nw I oI s1 E' hb hP hJ F2 N2 hI
    obtain ⟨tb, rfl⟩ := hP
    obtain ⟨hm', hsub⟩ := hJ
    obtain ⟨hh1, gg1, dd1, tk1, os1⟩ := s1
    refine wpAny_execs_cons ?_
    refine for_go (h₀ := h₀) rfl rfl (fun _ => by with_unfolding_all rfl) ?_
    refine call_typ (id := "range") (t1 := eval _ _) (tr := []) F2 X T (by kernel_rfl) (by kernel_rfl) (by decide) rfl rfl rfl rfl rfl rfl (sp1 (wpAny_Constant_int ?_)) (by decide)
    refine call_range_1 ?_
    have F3 := F2.push ({ cls := .type "range", data := .fields #[.int 0 (tk1 + 1), .int 3 tk1, .int 1 (tk1 + 1 + 1)] } : Obj)
    have N3 := news_sub (N2.push F2 ({ cls := .type "range", data := .fields #[.int 0 (tk1 + 1), .int 3 tk1, .int 1 (tk1 + 1 + 1)] } : Obj)) (fun p hp => List.mem_cons_of_mem _ hp)
    refine for_range (env := lawE _ L fa cd c1 c2 c3 c4 c5) (n := 3) rfl F3 N3 (IsRange.new _ _ _ _ _ _ _) (by decide) (by decide)
      (J := fun _ m' nw' => (∀ y, y ≠ Str.ofString "a" → y ≠ Str.ofString "b" → m' y = m y) ∧ m' (Str.ofString "b") = some (.int (b : Int) tb) ∧ ∀ p ∈ (I, oI) :: nw, p ∈ nw') ⟨fun y h1 h2 => (if_neg h2).trans (hm' y h1 h2), ?_, fun _ h => h⟩ ?_ ?_
    · show (if _ then _ else _) = _
      rw [if_pos rfl, Int.zero_add, Int.mul_one]
    · intro a v m2 nw2 I2 oI2 s2 E2 ha hP hJ F4 N4 hI2
      obtain ⟨ta, rfl⟩ := hP
      obtain ⟨hm2, hmb, hsub2⟩ := hJ
      have sub : ∀ p ∈ led, p ∈ (I2, oI2) :: nw2 := fun p hp => .tail _ (hsub2 p (.tail _ (hsub p hp)))
      refine turn (b := b) (a := a) (tb := tb) (ta := ta) (led := (I2, oI2) :: nw2) rfl rfl B F4 X N4 T (sub _ hm1) (sub _ hm3) (sub _ hm4) (sub _ hm5) (sub _ hmM) ho1 ho3 ho4 ho5 hM (relSpl_mono (f := fun b a => Mine.sc none none (mk a ++ t ++ mk b)) sub hr4) (relSpl_mono (f := fun b a => Mine.sc none none (mk b ++ t.reverse ++ mk a)) sub hr5) htl hb ha ?_ ?_ hd hu fun h5 tk5 led5 F5 N5 hs5 => ?_
      · show (if _ then _ else _) = _
        rw [if_neg (by decide)]; exact hmb
      · show (if _ then _ else _) = _
        rw [if_pos rfl, Int.zero_add, Int.mul_one]
      · refine ⟨rfl, _, led5.filter (fun p => decide (p.1 ≠ I2)), h5, tk5, rfl, F5, news_sub N5 ?_, fun p hp => of_decide_eq_true (List.mem_filter.mp hp).2, fun y h1 h2 => (if_neg h1).trans (hm2 y h1 h2), ?_, fun p hp => List.mem_filter.mpr ⟨hs5 _ (.tail _ (hsub2 p hp)), decide_eq_true (hI2 _ (hsub2 p hp))⟩⟩
        · intro p hp
          rcases List.mem_cons.mp hp with rfl | hp
          · exact hs5 _ (.head _)
          · exact (List.mem_filter.mp hp).1
        · show (if _ then _ else _) = _
          rw [if_neg (by decide)]; exact hmb
    · rintro m2 nw2 h2 tk2 ⟨hm2, _, hsub2⟩ F4 N4
      refine wpAny_execs_nil ⟨rfl, m2, nw2.filter (fun p => decide (p.1 ≠ I)), h2, tk2, rfl, F4, news_sub N4 ?_, fun p hp => of_decide_eq_true (List.mem_filter.mp hp).2, hm2, fun p hp => List.mem_filter.mpr ⟨hsub2 _ (.tail _ (hsub p hp)), decide_eq_true (hI _ (hsub p hp))⟩⟩
      intro p hp
      rcases List.mem_cons.mp hp with rfl | hp
      · exact hsub2 _ (.head _)
      · exact (List.mem_filter.mp hp).1
  · rintro m' nw' h' tk' ⟨h1, h2⟩ F2 N2
    exact h m' h' tk' nw' h1 F2 N2 h2
end St8_
section Th_
open PySem.SeqAt PySem PySem.W PyProof.Rows PySem.Calls PySem.Spec PyProof

set_option maxRecDepth 100000
set_option maxHeartbeats 8000000

noncomputable def rights (f : Nat → Option (List (List Nat))) : Nat → List Int
  | 0 => []
  | i + 1 => if (f i).isSome then rights f i ++ [wgt i] else rights f i
theorem rights_len (f : Nat → Option (List (List Nat))) : ∀ i, (rights f i).length ≤ i
  | 0 => Nat.le_refl _
  | i + 1 => by
    have := rights_len f i
    unfold rights
    split
    · simp; omega
    · omega
/-- just one right -/
theorem rights_one {f : Nat → Option (List (List Nat))} {k : Nat} (hk : k < 3) (h : ∀ a, a < 3 → (f a ≠ none ↔ a = k)) : (rights f 3).sum = wgt k := by
  have h0 := h 0 (by decide)
  have h1 := h 1 (by decide)
  have h2 := h 2 (by decide)
  have e : ∀ a, (f a).isSome = true ↔ f a ≠ none := fun a => by cases f a <;> simp
  have : k = 0 ∨ k = 1 ∨ k = 2 := by omega
  rcases this with rfl | rfl | rfl
  · simp only [rights, e, h0, h1, h2]; rfl
  · simp only [rights, e, h0, h1, h2]; rfl
  · simp only [rights, e, h0, h1, h2]; rfl
theorem w3_int (t0 t1 t2 : Tok) : IntsAre [.int 4 t0, .int 2 t1, .int 1 t2] [4, 2, 1] := .cons _ _ (.cons _ _ (.cons _ _ .nil))
section
variable {prog : Program} {w : World} {A : Around} {E Q : Value → Shared → Prop} {s : Shared} {h₀ : Heap} {L : Addr} {m : Str → Option Value} {led : List (Addr × Obj)} {cenv : Env} {K : Frag} {mg mb : Str → Option Value} {p : Program} {loose : List Str} {mean : ExcName → Option Value}
variable {scope : Scope} {cl : List (Str × Addr)} {x : Str} {tabE : Expr} {f : Nat → Option (List (List Nat))}
theorem elt_sum {q1' q2' q3' p1 p2 p3 p4 p5 p6 p7 p8 p9 px pt pos : Pos} {k1 k2 k3 k4 k5 kt : Nat} (hh : A.handled = none) (F : Fr h₀ L s.heap m) (X : K.In h₀) (T : Top p loose mean mg mb h₀) (N : News h₀ L s.heap led)
    (es : nsIn K mainGlobals (Str.ofString "sum") = some none) (er : nsIn K mainGlobals (Str.ofString "range") = some none) (hg : cenv.globals = mainGlobals) (hb : cenv.builtins = builtinsNs) (hk : cenv.scope.kind = .function) (hsum : cenv.kindOf (Str.ofString "sum") = some .globalImplicit) (hrange : cenv.kindOf (Str.ofString "range") = some .globalImplicit)
    (hclos : closureFor scope cenv = pure cl) (hkind : scope.kind = .function) (hnames : ∀ y ∈ scope.names, y.2 = .local → scope.names.lookup y.1 = some .local) (hx : OneName scope x) (hxd : (x == ("__debug__" : Str)) = false)
    (hitem : ∀ C cl' (i : Nat) tg t (led' : List (Addr × Obj)) (s' : Shared) (Q' E' : Value → Shared → Prop), (cl' = cl ∨ ∃ c, cl' = (x, c) :: cl) → i < 3 → Tgt (cenvOf scope cenv C cl') x tg (some (.int (i : Int) t)) → (∀ p ∈ tg, p ∈ led') → (∀ p ∈ led, p ∈ led') → News h₀ L s'.heap led' →
      (∀ v, SplIs (f i) v led' → Q' v s') → wpAny (model prog w) A (eval tabE (cenvOf scope cenv C cl')) Q' E' s')
    (h : ∀ t h' tk', Fr h₀ L h' m → News h₀ L h' led → Q (.int (rights f 3).sum t) { s with heap := h', toks := tk' }) :
    wpAny (model prog w) A (eval (.Call (.Name (Str.ofString "sum") p1) [.ListComp (.Subscript (.Tuple [.Constant (.int 4) k1 p2, .Constant (.int 2) k2 p3, .Constant (.int 1) k3 p4] kt pt) (.Name x p5) p6) [⟨.Name x px, .Call (.Name (Str.ofString "range") p7) [.Constant (.int 3) k4 p8] [] p9, [.Compare tabE [.IsNot] [.Constant .none k5 q1'] q2'], 0⟩] scope pos] [] q3') cenv) Q E s := by
  obtain ⟨hh0, gg, dd, tk, os⟩ := s
  refine call_builtin (id := "sum") (t1 := eval _ _) (tr := []) F X T es (by kernel_rfl) (by decide) hg hb hk hsum rfl rfl (sp1 ?_) (by decide)
  refine comp_go (h₀ := h₀) (L := L) (m := m) (cl := cl) hclos hkind hnames hx (fun _ => by with_unfolding_all rfl) ?_
  refine call_typ (id := "range") (t1 := eval _ _) (tr := []) F X T er (by kernel_rfl) (by decide) hg hb hk hrange rfl rfl (sp1 (wpAny_Constant_int ?_)) (by decide)
  refine call_range_1 ?_
  have F1 := F.push ({ cls := .type "range", data := .fields #[.int 0 (tk + 1), .int 3 tk, .int 1 (tk + 1 + 1)] } : Obj)
  have N1 := news_sub (N.push F ({ cls := .type "range", data := .fields #[.int 0 (tk + 1), .int 3 tk, .int 1 (tk + 1 + 1)] } : Obj)) (fun p hp => List.mem_cons_of_mem _ hp)
  refine go_range (n := 3) hh F1 N1 (IsRange.new _ _ _ _ _ _ _) (by decide) (by decide) (by decide) (J := fun i ys nw => nw = led ∧ IntsAre ys (rights f i)) ⟨rfl, .nil⟩ ?_ ?_
  · intro C cl' i ys nw sp tg v s₃ E' hcl hi hP hJ ht hsub hnw F3 N3 hd3
    obtain ⟨t, rfl⟩ := hP
    obtain ⟨rfl, hJ⟩ := hJ
    rw [Int.zero_add, Int.mul_one] at ht
    refine wpAny_tests_one (wpAny_isTrue_Compare1 (hitem C cl' i tg t _ s₃ _ _ hcl hi ht (fun p hp => List.mem_append_left _ (hsub p hp)) (fun p hp => List.mem_append_right _ hp) N3 fun v hv => wpAny_Constant_none ?_) (by with_unfolding_all rfl))
    rcases hv with ⟨hf, rfl⟩ | ⟨S, ws, vs, c, hf, rfl, -, -⟩
    · refine wpAny_isNot_self rfl (wpAny_truthy_bool ?_)
      rw [if_neg (by decide)]
      refine ⟨_, s₃.heap, s₃.toks, rfl, F3, N3, fun _ h => h, hd3, rfl, ?_⟩
      show IntsAre ys (if _ then _ else _)
      rw [hf]; exact hJ
    · refine wpAny_isNot_other rfl (fun z => nomatch z) (wpAny_truthy_bool ?_)
      rw [if_pos rfl]
      obtain ⟨hh3, gg3, dd3, tk3, os3⟩ := s₃
      refine Subscript_ (Tuple_ ?_)
      show wpAny _ _ (spliced [(false, eval (.Constant (.int 4) k1 p2) _), (false, eval (.Constant (.int 2) k2 p3) _), (false, eval (.Constant (.int 1) k3 p4) _)]) _ _ _
      refine sp3 (wpAny_Constant_int (wpAny_Constant_int (wpAny_Constant_int ?_)))
      refine newTuple_N F3 N3 fun h4 F4 N4 => ?_
      refine nameT N4 (fun p hp => .tail _ (List.mem_append_left _ (hsub p hp))) ht (show (relabel scope cenv).kind = .function from hkind) ?_ hxd
      refine item_anyT (News.isTup N4 (.head _)) (w3_int _ _ _) (by omega) (by simp; omega) (by omega) (fun t5 => ?_) (by with_unfolding_all rfl)
      refine ⟨_, h4, _, rfl, F4, news_sub N4 (fun p hp => .tail _ hp), fun _ h => h, hd3, rfl, ?_⟩
      show IntsAre _ (if _ then _ else _)
      rw [hf, Option.isSome_some, if_pos rfl]
      have : ([4, 2, 1] : List Int).getD ((i : Int)).toNat 0 = wgt i := by
        have : i = 0 ∨ i = 1 ∨ i = 2 := by omega
        rcases this with rfl | rfl | rfl <;> rfl
      rw [this]
      exact intsAre_snoc hJ _ _
  · refine fin_ret ?_
    rintro D ys c h' tk' nw hyl ⟨rfl, hys⟩ F' N' hne hsub hlt
    refine sumK hh F' N' ⟨_, (N' _ (.head _)).1, rfl, _, rfl⟩ hys ?_
    intro h2 tk2 t2 F2 N2
    exact h _ _ _ F2 (news_sub N2 fun p hp => .tail _ hp)
end
end Th_
section St9_
open PySem.SeqAt PySem PySem.W PyProof.Rows PySem.Calls PySem.Spec PyProof

set_option maxRecDepth 100000
set_option maxHeartbeats 8000000

theorem st9 {w : World} {mean : ExcName → Option Value} {mg mb : Str → Option Value} {gd : Option (List Code)} {dp un : Nat} {h₀ : Heap} {S : Stmt} {rr : List Stmt} {sc : Scope} {L fa : Addr} {cd : Value} {s : Shared} {m : Str → Option Value} {led : List (Addr × Obj)} {c1 c2 c3 c4 c5 : Addr} {oT : Obj} {vT : Value} {Q : Flow → Shared → Prop} {E : Value → Shared → Prop} {t : List Nat}
  (hS : lawDef.body.drop 8 = S :: rr) (hsc : lawDef.scope = sc)
  (F : Fr h₀ L s.heap m) (X : (Mine.K1 w.params).In h₀) (N : News h₀ L s.heap led) (T : Top Mine.q1 (looseW Mine.q1 lz) mean mg mb h₀)
  (hmT : (c4, oT) ∈ led) (hoT : oT.data = .cell (some vT))
  (hrT : RelAll (fun b v l => RelAll (fun a v l => SplIs (Mine.sc none none (mk a ++ t ++ mk b)) v l) 3 v l) 3 vT led)
  (h : ∀ D t0 t1 t2 c h' tk' led', Fr h₀ L h' (fun z => if z = Str.ofString "there" then some (.ref D) else m z) → News h₀ L h' ((D, lsObj [.int (rights (fun a => Mine.sc none none (mk a ++ t ++ mk 0)) 3).sum t0, .int (rights (fun a => Mine.sc none none (mk a ++ t ++ mk 1)) 3).sum t1, .int (rights (fun a => Mine.sc none none (mk a ++ t ++ mk 2)) 3).sum t2] c) :: led') → (∀ p ∈ led, p ∈ led') → Q .next { s with heap := h', toks := tk' }) :
  wpAny (model PySem.Challenge.rw_op0238_01.row.prog w) (ktrTop dp un gd (Str.ofString "law") sc L fa cd (lawCl c1 c2 c3 c4 c5) []) (exec S (lawE sc L fa cd c1 c2 c3 c4 c5)) Q E s := by
  rw [show lawDef.body.drop 8 = _ :: _ from rfl] at hS
  obtain ⟨rfl, rfl⟩ := List.cons.inj hS
  rw [show lawDef.scope = ⟨_, _, _, _, _⟩ from rfl] at hsc
  subst hsc
  clear hS
  obtain ⟨hh, gg, dd, tk, os⟩ := s
  refine assign_comp (h₀ := h₀) (L := L) (m := m) (cl := [(Str.ofString "told", c4)]) (by with_unfolding_all rfl) (by with_unfolding_all rfl) rfl (by decide) (.inr ⟨rfl, fun _ _ => rfl, fun _ => rfl⟩) (fun _ => by with_unfolding_all rfl) ?_
  refine call_typ (id := "range") (t1 := eval _ _) (tr := []) F X T (by kernel_rfl) (by kernel_rfl) (by decide) rfl rfl rfl rfl rfl rfl (sp1 (wpAny_Constant_int ?_)) (by decide)
  refine call_range_1 ?_
  have F1 := F.push ({ cls := .type "range", data := .fields #[.int 0 (tk + 1), .int 3 tk, .int 1 (tk + 1 + 1)] } : Obj)
  have N1 := news_sub (N.push F ({ cls := .type "range", data := .fields #[.int 0 (tk + 1), .int 3 tk, .int 1 (tk + 1 + 1)] } : Obj)) (fun p hp => List.mem_cons_of_mem _ hp)
  refine go_range (n := 3) rfl F1 N1 (IsRange.new _ _ _ _ _ _ _) (by decide) (by decide) (by decide) (J := JR (fun b y _ => ∃ t', y = .int (rights (fun a => Mine.sc none none (mk a ++ t ++ mk b)) 3).sum t') led) ⟨fun _ h => h, rfl, fun k y hk => nomatch hk⟩ (rel_turn ?_) (fin_local rfl rfl rfl ?_)
  · intro C cl' b tg v led1 s1 Q1 E1 hcl hb hP ht htg hnw F1 N1 hret
    obtain ⟨tb, rfl⟩ := hP
    rw [Int.zero_add, Int.mul_one] at ht
    obtain ⟨cb, ob, rfl, hmb, hob⟩ := tgt_cell (x := Str.ofString "b") ht rfl rfl hcl
    have hmb := htg _ hmb
    refine elt_sum (f := fun a => Mine.sc none none (mk a ++ t ++ mk b)) (cl := [(Str.ofString "told", c4), (Str.ofString "b", cb)]) rfl F1 X T N1 (by kernel_rfl) (by kernel_rfl) rfl rfl rfl rfl rfl (by with_unfolding_all rfl) rfl (by decide) (.inl ⟨rfl, fun _ _ => rfl, fun _ => rfl⟩) (by decide) ?_ ?_
    · intro C2 cl2 a tg2 ta led2 s2 Q2 E2 hcl2 ha ht2 htg2 hnw2 N2 hq
      refine sub2 (Rel := fun b a v l => SplIs (Mine.sc none none (mk a ++ t ++ mk b)) v l) N2 ((NameIs.cell (c := c4) (o := oT) (led0 := led2) rfl rfl (clx hcl2 (by decide) rfl) (hnw2 _ (hnw _ hmT)) hoT (by decide)).nm N2) (relSpl_mono (f := fun b a => Mine.sc none none (mk a ++ t ++ mk b)) (fun p hp => hnw2 _ (hnw _ hp)) hrT) hb ha (by omega) (by omega) ((NameIs.cell (c := cb) (o := ob) (led0 := led2) rfl rfl (clx hcl2 (by decide) rfl) (hnw2 _ hmb) hob (by decide)).nm N2) (((NameIs.tgt ht2 rfl (by decide)).mono htg2).nm N2) hq
    · intro t' h' tk' F' N'
      exact hret _ led1 h' tk' F' N' (fun _ h => h) (fun l _ => ⟨_, rfl⟩)
  · rintro D ys c h' tk' nw' hyl ⟨_, hlen, hrel⟩ F' N' hsub hlt
    have hr := fun k y hk => hrel k y hk nw' (fun p hp _ => hp)
    match ys, hlen, hr, N' with
    | [y0, y1, y2], _, hr, N' =>
      obtain ⟨t0, e0⟩ := hr 0 y0 rfl
      obtain ⟨t1, e1⟩ := hr 1 y1 rfl
      obtain ⟨t2, e2⟩ := hr 2 y2 rfl
      subst e0 e1 e2
      exact h D t0 t1 t2 c h' tk' nw' F' N' hsub
end St9_
section St10_
open PySem.SeqAt PySem PySem.W PyProof.Rows PySem.Calls PySem.Spec PyProof

set_option maxRecDepth 100000
set_option maxHeartbeats 8000000

theorem st10 {w : World} {mean : ExcName → Option Value} {mg mb : Str → Option Value} {gd : Option (List Code)} {dp un : Nat} {h₀ : Heap} {S : Stmt} {rr : List Stmt} {sc : Scope} {L fa : Addr} {cd : Value} {s : Shared} {m : Str → Option Value} {led : List (Addr × Obj)} {c1 c2 c3 c4 c5 : Addr} {oT : Obj} {vT : Value} {Q : Flow → Shared → Prop} {E : Value → Shared → Prop} {t : List Nat}
  (hS : lawDef.body.drop 9 = S :: rr) (hsc : lawDef.scope = sc)
  (F : Fr h₀ L s.heap m) (X : (Mine.K1 w.params).In h₀) (N : News h₀ L s.heap led) (T : Top Mine.q1 (looseW Mine.q1 lz) mean mg mb h₀)
  (hmT : (c5, oT) ∈ led) (hoT : oT.data = .cell (some vT))
  (hrT : RelAll (fun b v l => RelAll (fun a v l => SplIs (Mine.sc none none (mk b ++ t ++ mk a)) v l) 3 v l) 3 vT led)
  (h : ∀ D t0 t1 t2 c h' tk' led', Fr h₀ L h' (fun z => if z = Str.ofString "again" then some (.ref D) else m z) → News h₀ L h' ((D, lsObj [.int (rights (fun b => Mine.sc none none (mk b ++ t ++ mk 0)) 3).sum t0, .int (rights (fun b => Mine.sc none none (mk b ++ t ++ mk 1)) 3).sum t1, .int (rights (fun b => Mine.sc none none (mk b ++ t ++ mk 2)) 3).sum t2] c) :: led') → (∀ p ∈ led, p ∈ led') → Q .next { s with heap := h', toks := tk' }) :
  wpAny (model PySem.Challenge.rw_op0238_01.row.prog w) (ktrTop dp un gd (Str.ofString "law") sc L fa cd (lawCl c1 c2 c3 c4 c5) []) (exec S (lawE sc L fa cd c1 c2 c3 c4 c5)) Q E s := by
  rw [show lawDef.body.drop 9 = _ :: _ from rfl] at hS
  obtain ⟨rfl, rfl⟩ := List.cons.inj hS
  rw [show lawDef.scope = ⟨_, _, _, _, _⟩ from rfl] at hsc
  subst hsc
  clear hS
  obtain ⟨hh, gg, dd, tk, os⟩ := s
  refine assign_comp (h₀ := h₀) (L := L) (m := m) (cl := [(Str.ofString "turned", c5)]) (by with_unfolding_all rfl) (by with_unfolding_all rfl) rfl (by decide) (.inr ⟨rfl, fun _ _ => rfl, fun _ => rfl⟩) (fun _ => by with_unfolding_all rfl) ?_
  refine call_typ (id := "range") (t1 := eval _ _) (tr := []) F X T (by kernel_rfl) (by kernel_rfl) (by decide) rfl rfl rfl rfl rfl rfl (sp1 (wpAny_Constant_int ?_)) (by decide)
  refine call_range_1 ?_
  have F1 := F.push ({ cls := .type "range", data := .fields #[.int 0 (tk + 1), .int 3 tk, .int 1 (tk + 1 + 1)] } : Obj)
  have N1 := news_sub (N.push F ({ cls := .type "range", data := .fields #[.int 0 (tk + 1), .int 3 tk, .int 1 (tk + 1 + 1)] } : Obj)) (fun p hp => List.mem_cons_of_mem _ hp)
  refine go_range (n := 3) rfl F1 N1 (IsRange.new _ _ _ _ _ _ _) (by decide) (by decide) (by decide) (J := JR (fun a y _ => ∃ t', y = .int (rights (fun b => Mine.sc none none (mk b ++ t ++ mk a)) 3).sum t') led) ⟨fun _ h => h, rfl, fun k y hk => nomatch hk⟩ (rel_turn ?_) (fin_local rfl rfl rfl ?_)
  · intro C cl' a tg v led1 s1 Q1 E1 hcl hb hP ht htg hnw F1 N1 hret
    obtain ⟨tb, rfl⟩ := hP
    rw [Int.zero_add, Int.mul_one] at ht
    obtain ⟨cb, ob, rfl, hmb, hob⟩ := tgt_cell (x := Str.ofString "a") ht rfl rfl hcl
    have hmb := htg _ hmb
    refine elt_sum (f := fun b => Mine.sc none none (mk b ++ t ++ mk a)) (cl := [(Str.ofString "turned", c5), (Str.ofString "a", cb)]) rfl F1 X T N1 (by kernel_rfl) (by kernel_rfl) rfl rfl rfl rfl rfl (by with_unfolding_all rfl) rfl (by decide) (.inl ⟨rfl, fun _ _ => rfl, fun _ => rfl⟩) (by decide) ?_ ?_
    · intro C2 cl2 b tg2 ta led2 s2 Q2 E2 hcl2 ha ht2 htg2 hnw2 N2 hq
      refine sub2 (Rel := fun b a v l => SplIs (Mine.sc none none (mk b ++ t ++ mk a)) v l) N2 ((NameIs.cell (c := c5) (o := oT) (led0 := led2) rfl rfl (clx hcl2 (by decide) rfl) (hnw2 _ (hnw _ hmT)) hoT (by decide)).nm N2) (relSpl_mono (f := fun b a => Mine.sc none none (mk b ++ t ++ mk a)) (fun p hp => hnw2 _ (hnw _ hp)) hrT) ha hb (by omega) (by omega) (((NameIs.tgt ht2 rfl (by decide)).mono htg2).nm N2) ((NameIs.cell (c := cb) (o := ob) (led0 := led2) rfl rfl (clx hcl2 (by decide) rfl) (hnw2 _ hmb) hob (by decide)).nm N2) hq
    · intro t' h' tk' F' N'
      exact hret _ led1 h' tk' F' N' (fun _ h => h) (fun l _ => ⟨_, rfl⟩)
  · rintro D ys c h' tk' nw' hyl ⟨_, hlen, hrel⟩ F' N' hsub hlt
    have hr := fun k y hk => hrel k y hk nw' (fun p hp _ => hp)
    match ys, hlen, hr, N' with
    | [y0, y1, y2], _, hr, N' =>
      obtain ⟨t0, e0⟩ := hr 0 y0 rfl
      obtain ⟨t1, e1⟩ := hr 1 y1 rfl
      obtain ⟨t2, e2⟩ := hr 2 y2 rfl
      subst e0 e1 e2
      exact h D t0 t1 t2 c h' tk' nw' F' N' hsub
end St10_
section St11_
open PySem.SeqAt PySem PySem.W PyProof.Rows PySem.Calls PySem.Spec PyProof

set_option maxRecDepth 100000
set_option maxHeartbeats 8000000

theorem wgt_range (k : Nat) : 0 ≤ wgt k ∧ wgt k < 8 := by
  match k with
  | 0 => decide
  | 1 => decide
  | _ + 2 => exact ⟨(by decide : (0 : Int) ≤ 1), (by decide : (1 : Int) < 8)⟩
/-- the rights of a class -/
theorem rights_moved (t : List Nat) {b : Nat} (hb : b < 3) : (rights (fun a => sc none none (mk a ++ t ++ mk b)) 3).sum = atQ (moved t) (qA b) := by
  obtain ⟨k, hk, e, h⟩ := one_right t b hb
  rw [rights_one hk h, e]
theorem moved_range (t : List Nat) {b : Nat} (hb : b < 3) : 0 ≤ atQ (moved t) (qA b) ∧ atQ (moved t) (qA b) < 8 := by
  obtain ⟨k, hk, e, h⟩ := one_right t b hb
  rw [e]; exact wgt_range k
/-- filemode of the mode is the row -/
theorem fm_rowI {u a b c : Int} (hu0 : 0 ≤ u) (hu1 : u < 128) (ha0 : 0 ≤ a) (ha : a < 8) (hb0 : 0 ≤ b) (hb : b < 8) (hc0 : 0 ≤ c) (hc : c < 8) : ∃ n : Nat, 512 * u + 64 * a + 8 * b + c = (n : Int) ∧ fmR n = rowR u (a, b, c) 3 := by
  obtain ⟨u, rfl⟩ := Int.eq_ofNat_of_zero_le hu0
  obtain ⟨a, rfl⟩ := Int.eq_ofNat_of_zero_le ha0
  obtain ⟨b, rfl⟩ := Int.eq_ofNat_of_zero_le hb0
  obtain ⟨c, rfl⟩ := Int.eq_ofNat_of_zero_le hc0
  exact ⟨512 * u + 64 * a + 8 * b + c, by push_cast; rfl, fm_row u a b c (by omega) (by omega) (by omega) (by omega)⟩
section
variable {w : World} {mean : ExcName → Option Value} {mg mb : Str → Option Value} {gd : Option (List Code)} {dp un : Nat} {A₀ : Around} {base h₀ : Heap} {sc : Scope} {L fa : Addr} {cd : Value} {s : Shared} {m : Str → Option Value} {led : List (Addr × Obj)} {c1 c2 c3 c4 c5 : Addr} {E Q : Value → Shared → Prop} {u a b c : Int} {ut t1 t2 t3 : Tok} {R : Addr} {k : Nat} {p1 p2 p3 p4 p5 p6 : Pos}
theorem side_l {x : Str} (hsc : lawDef.scope = sc) (B : Below A₀ base [] h₀) (F : Fr h₀ L s.heap m) (X : (Mine.K1 w.params).In h₀) (N : News h₀ L s.heap led) (T : Top Mine.q1 (looseW Mine.q1 lz) mean mg mb h₀)
    (hR : (R, lsObj [.int a t1, .int b t2, .int c t3] k) ∈ led) (hmu : m (Str.ofString "upper") = some (.int u ut)) (hmx : m x = some (.ref R)) (hxk : sc.names.lookup x = some .local) (hxd : (x == ("__debug__" : Str)) = false)
    (hu0 : 0 ≤ u) (hu1 : u < 128) (ha0 : 0 ≤ a) (ha : a < 8) (hb0 : 0 ≤ b) (hb : b < 8) (hc0 : 0 ≤ c) (hc : c < 8) (hd : dp + 500 < recursionLimit) (hu : un + 2000 < cLine)
    (h : ∀ t h' tk', Fr h₀ L h' m → News h₀ L h' led → Q (.str (mkS (rowR u (a, b, c) 3)) t) { s with heap := h', toks := tk' }) :
    wpAny (model PySem.Challenge.rw_op0238_01.row.prog w) (ktrTop dp un gd (Str.ofString "law") sc L fa cd (lawCl c1 c2 c3 c4 c5) []) (eval (.Call (.Name (Str.ofString "filemode") p1) [.Call (.Name (Str.ofString "_law_mode") p2) [.Name (Str.ofString "upper") p3, .Name x p4] [] p5] [] p6) (lawE sc L fa cd c1 c2 c3 c4 c5)) Q E s := by
  rw [show lawDef.scope = ⟨_, _, _, _, _⟩ from rfl] at hsc
  subst hsc
  have N1 : News h₀ L s.heap ((R, lsObj [.int a t1, .int b t2, .int c t3] k) :: led) := news_sub N fun p hp => by
    rcases List.mem_cons.mp hp with rfl | hp
    · exact hR
    · exact hp
  refine call_named (f := 781) (t1 := eval _ _) (tr := []) F X T (by kernel_rfl) (by kernel_rfl) rfl rfl rfl rfl (sp1 ?_) (by decide)
  refine call_named (f := 835) (t1 := eval _ _) (tr := [(false, eval _ _)]) F X T (by kernel_rfl) (by kernel_rfl) rfl rfl rfl rfl (sp2 (nameX_L F hmu (nameX_L F hmx ⟨⟨m, F⟩, ?_⟩ rfl hxk hxd))) (by decide)
  refine does_use (mode_ct w u a b c ut t1 t2 t3 k R) B F X N1 T ⟨_, rfl⟩ (by ktr_room) (by ktr_units) ?_
  rintro r nw' h' tk' F' N' ⟨rfl, t', rfl⟩
  refine ⟨⟨m, F'⟩, ?_⟩
  obtain ⟨n, e1, e2⟩ := fm_rowI hu0 hu1 ha0 ha hb0 hb hc0 hc
  rw [e1]
  refine does_use (fm_ct w n t') B F' X N' T trivial (by ktr_room) (by ktr_units) ?_
  rintro r nw'' h'' tk'' F'' N'' ⟨rfl, t'', rfl⟩
  rw [e2]
  exact h t'' h'' tk'' F'' (news_sub N'' fun p hp => .tail _ hp)
theorem side_r {y : Str} {cy : Addr} {oy : Obj} {t : List Nat} {tt : Tok} (hsc : lawDef.scope = sc) (B : Below A₀ base [] h₀) (F : Fr h₀ L s.heap m) (X : (Mine.K1 w.params).In h₀) (N : News h₀ L s.heap led) (T : Top Mine.q1 (looseW Mine.q1 lz) mean mg mb h₀)
    (hmu : m (Str.ofString "upper") = some (.int u ut)) (hyk : sc.names.lookup y = some .cell) (hyc : (lawCl c1 c2 c3 c4 c5).lookup y = some cy) (hyd : (y == ("__debug__" : Str)) = false) (hmy : (cy, oy) ∈ led) (hoy : oy.data = .cell (some (.str (mkS t) tt)))
    (hu0 : 0 ≤ u) (hu1 : u < 128) (hd : dp + 500 < recursionLimit) (hu : un + 2000 < cLine)
    (h : ∀ t' h' tk', Fr h₀ L h' m → News h₀ L h' led → Q (.str (mkS (rowR u (moved t) 3)) t') { s with heap := h', toks := tk' }) :
    wpAny (model PySem.Challenge.rw_op0238_01.row.prog w) (ktrTop dp un gd (Str.ofString "law") sc L fa cd (lawCl c1 c2 c3 c4 c5) []) (eval (.Call (.Name (Str.ofString "_law_row") p1) [.Name (Str.ofString "upper") p2, .Call (.Name (Str.ofString "_law_moved") p3) [.Name y p4] [] p5] [] p6) (lawE sc L fa cd c1 c2 c3 c4 c5)) Q E s := by
  rw [show lawDef.scope = ⟨_, _, _, _, _⟩ from rfl] at hsc
  subst hsc
  refine call_named (f := 828) (t1 := eval _ _) (tr := [(false, eval _ _)]) F X T (by kernel_rfl) (by kernel_rfl) rfl rfl rfl rfl (sp2 (nameX_L F hmu ?_)) (by decide)
  refine call_named (f := 821) (t1 := eval _ _) (tr := []) F X T (by kernel_rfl) (by kernel_rfl) rfl rfl rfl rfl (sp1 (nameX_C N hyc hmy hoy ⟨⟨m, F⟩, ?_⟩ rfl hyk hyd)) (by decide)
  refine does_use (moved_ct w t tt) B F X N T trivial (by ktr_room) (by ktr_units) ?_
  rintro r nw' h' tk' F' N' ⟨D, q1, q2, q3, rfl, rfl, hlt⟩
  refine ⟨⟨m, F'⟩, ?_⟩
  have g0 := moved_range t (b := 0) (by decide)
  have g1 := moved_range t (b := 1) (by decide)
  have g2 := moved_range t (b := 2) (by decide)
  refine does_use (row_ct w u (moved t).1 (moved t).2.1 (moved t).2.2 ut q1 q2 q3 0 D hu0 hu1 g0.1 g0.2 g1.1 g1.2 g2.1 g2.2) B F' X N' T ⟨_, rfl⟩ (by ktr_room) (by ktr_units) ?_
  rintro r nw'' h'' tk'' F'' N'' ⟨rfl, t'', rfl⟩
  exact h t'' h'' tk'' F'' (news_sub N'' fun p hp => .tail _ hp)
end
end St11_
section Said_
set_option maxRecDepth 100000
set_option maxHeartbeats 8000000

noncomputable abbrev pr1 : Program := (PySem.W.Fast.tw2368527892694137696 PySem.Challenge.rw_op0238_01).prog
theorem sd3 : PySem.W.Fast.tw8377067652309620493 pr1 = true := by kernel_rfl
theorem sd6 : (PySem.W.Fast.tw17119622794617984870 pr1 pr1.main.body fun _ n => PySem.W.Fast.tw17868728402115742887 n) = true := by kernel_rfl
theorem sdp : PySem.W.Fast.tw12908688711261696721 pr1 = true := by
  unfold PySem.W.Fast.tw12908688711261696721
  rw [sd3, sd6]
  kernel_rfl
theorem sd0 : PySem.W.Fast.tw17960256430627541270 (PySem.W.Fast.tw2368527892694137696 PySem.Challenge.rw_op0238_01) = true := by
  unfold PySem.W.Fast.tw17960256430627541270 PySem.W.Fast.tw2436336058641802641
  rw [show PySem.W.Fast.tw12908688711261696721 (PySem.W.Fast.tw2368527892694137696 PySem.Challenge.rw_op0238_01).prog = true from sdp]
  kernel_rfl
theorem said1 : PySem.Challenge.rw_op0238_01.wellSaid = true := by
  rw [PySem.W.Fast.te9446332074065402090]
  unfold PySem.W.Fast.tw9446332074065402090
  rw [sd0]
  kernel_rfl
end Said_
local macro_rules | `(tactic| walk_at "none17") => `(tactic| skip)
local macro_rules | `(tactic| walk_at "none18") => `(tactic| skip)
section Lw1_
set_option maxRecDepth 100000
set_option maxHeartbeats 8000000

noncomputable abbrev M1 (w : World) : Model := model PySem.Challenge.rw_op0238_01.row.prog w
theorem good1 {s₀ s₁ s' : Shared} {ns : List Int} (h1 : OldK s₁.heap s'.heap) (h2 : s'.os = s₁.os) (h3 : AllBare s'.gens) :
    GoodWG PySem.Challenge.rw_op0238_01.row.toRowW.claim (classAt s₀.heap) (ExcName.means s₀.heap) [ofPy (.list (ns.map .int))] s₁ (.ok (.ret (.bool true))) s' := by
  exact ⟨.inl ⟨.bool true, .bool true, [], rfl, raisesW_false (by intro c hm; cases hm), .bool true, postW_of rfl rfl (by decide +kernel), unshared_nil⟩, h1, h2, h3⟩
noncomputable abbrev lawEnv (L fa : Addr) (cd : Value) : Env := envOfC lawDef.name lawDef.scope L fa cd
theorem law1_of (h : ∀ (w : World) (mean : ExcName → Option Value) (mg mb : Str → Option Value) (s₁ : Shared) (l fa : Addr) (cd : Value) (vs : List Value) (ns : List Int),
    Top q1 (looseW q1 lzz) mean mg mb s₁.heap → (K1 w.params).In s₁.heap → s₁.heap.IsList l vs.toArray → IntsAre vs ns → ns.length ≤ 63 →
    ∀ h₁ tk cells, Fr s₁.heap s₁.heap.objs.size h₁ (fun y => if y = Str.ofString "script" then some (.ref l) else none) → News s₁.heap s₁.heap.objs.size h₁ cells →
      CellsAre (fun _ => none) (cellsFrom (s₁.heap.objs.size + 1) lawDef.scope.names []) cells →
      wpCl (M1 w) (callerA.deeper (lawEnv s₁.heap.objs.size fa cd)) (execs lawDef.body (lawEnv s₁.heap.objs.size fa cd))
        (fun f s' => f = .ret (.bool true) ∧ (∀ b o, s₁.heap.get? b = some o → s'.heap.get? b = some o) ∧ s'.os = s₁.os ∧ s'.gens = s₁.gens) (fun _ _ => False) { s₁ with heap := h₁, toks := tk }) :
    PySem.Challenge.rw_op0238_01.Holds := by
  w_on
  refine holds_law said1 fun said => ?_
  refine holds_cl left1 (kHook K1 as1 as1_eq).of (kHook K1 as1 as1_eq).keeps (by rfl) (by rfl) (by rfl) (by rfl) (by first | assumption | decide +kernel) (by decide +kernel) ⟨rfl, rfl, rfl, rfl, rfl, by decide +kernel⟩ ?hw ?_
  case hw => w_witness2
  intro w s₀ s₁ mg mb T Y fa o pm cd doc dV kV ho hd hcd hD hmg hg args vals as hpre hlay hrd hwl hlo
  have KX := kIn_of Y
  wrow_args hpre hlay hrd hwl hlo
  refine wpCl_call ?_
  refine codeCl_mono (R := fun r s' => ∃ ns', r = .ok (.ret (.bool true)) ∧ (∀ b o, s₁.heap.get? b = some o → s'.heap.get? b = some o) ∧ s'.os = s₁.os ∧ s'.gens = s₁.gens ∧ ns' = 0) ?_ ?_
  · have he := Dflts.none hD rfl
    subst he
    have he := Dflts.noKw hD
    subst he
    refine callCl_cells (by decide) ho (fd_plain hd) (Top.nolimit T) hcd rfl (kinds_of (by kinds_ok)) (by decide) fun h₁ tk₁ cells F N0 X0 => ?_
    rename IntsAre _ _ => hI
    rename Heap.IsList _ _ _ => hL
    rename ¬ _ < _ => hc
    refine wpCl_mono (h w _ mg mb s₁ _ fa cd _ _ T KX hL hI (by omega) h₁ tk₁ cells F N0 X0) ?_ ?_
    · rintro f s' ⟨rfl, h2⟩
      exact ⟨0, rfl, h2.1, h2.2.1, h2.2.2, rfl⟩
    · exact fun _ _ h => h.elim
  · rintro r s' ⟨_, rfl, h1, h2, h3, _⟩
    exact good1 (.of_keep h1) h2 (.of_eq (h3.trans hg))
end Lw1_
section As_
open PySem.SeqAt PySem PySem.W PyProof.Rows PySem.Calls PySem.Spec PyProof

set_option maxRecDepth 100000
set_option maxHeartbeats 8000000

theorem fl_next {M : Model} {A : Around} {rest : List Stmt} {env : Env} {Q : Flow → Shared → Prop} {E : Value → Shared → Prop} {s : Shared} (h : wpAny M A (execs rest env) Q E s) :
    (fun (f : Flow) (s' : Shared) => match f with | .next => wpAny M A (execs rest env) Q E s' | f => Q f s') .next s := h
theorem ne_eq_str {prog : Program} {w : World} {A : Around} {E : Value → Shared → Prop} {s : Shared} {x : Str} {t u : Tok} {Q : Value → Shared → Prop} (h : Q (.bool false) s) : wpAny (model prog w) A (compareOp .NotEq (.str x t) (.str x u)) Q E s :=
  P.ne_str (by rw [bne_self_eq_false]; exact h)
theorem eq_eq_str {prog : Program} {w : World} {A : Around} {E : Value → Shared → Prop} {s : Shared} {x : Str} {t u : Tok} {Q : Value → Shared → Prop} (h : Q (.bool true) s) : wpAny (model prog w) A (compareOp .Eq (.str x t) (.str x u)) Q E s :=
  P.eq_str (by rw [beq_self_eq_true]; exact h)
/-- the law's last two statements -/
theorem st_end {w : World} {mean : ExcName → Option Value} {mg mb : Str → Option Value} {gd : Option (List Code)} {dp un : Nat} {A₀ : Around} {base h₀ : Heap} {SS : List Stmt} {sc : Scope} {L fa : Addr} {cd : Value} {s : Shared} {m : Str → Option Value} {led : List (Addr × Obj)} {c1 c2 c3 c4 c5 : Addr} {o1 o2 : Obj} {Q : Flow → Shared → Prop} {E : Value → Shared → Prop} {t t' : List Nat} {tt bt ut : Tok} {u : Int} {R R' : Addr} {t1 t2 t3 t4 t5 t6 : Tok} {k k' : Nat}
  (hS : lawDef.body.drop 10 = SS) (hsc : lawDef.scope = sc)
  (B : Below A₀ base [] h₀) (F : Fr h₀ L s.heap m) (X : (Mine.K1 w.params).In h₀) (N : News h₀ L s.heap led) (T : Top Mine.q1 (looseW Mine.q1 lz) mean mg mb h₀)
  (hm1 : (c1, o1) ∈ led) (hm2 : (c2, o2) ∈ led) (ho1 : o1.data = .cell (some (.str (mkS t) tt))) (ho2 : o2.data = .cell (some (.str (mkS t') bt)))
  (hmu : m (Str.ofString "upper") = some (.int u ut)) (hmx : m (Str.ofString "there") = some (.ref R)) (hmy : m (Str.ofString "again") = some (.ref R'))
  (hR : (R, lsObj [.int (moved t).1 t1, .int (moved t).2.1 t2, .int (moved t).2.2 t3] k) ∈ led) (hR' : (R', lsObj [.int (moved t').1 t4, .int (moved t').2.1 t5, .int (moved t').2.2 t6] k') ∈ led)
  (hu0 : 0 ≤ u) (hu1 : u < 128) (hd : dp + 500 < recursionLimit) (hu : un + 2000 < cLine)
  (h : ∀ h' tk', Fr h₀ L h' m → Q (.ret (.bool true)) { s with heap := h', toks := tk' }) :
  wpAny (model PySem.Challenge.rw_op0238_01.row.prog w) (ktrTop dp un gd (Str.ofString "law") sc L fa cd (lawCl c1 c2 c3 c4 c5) []) (execs SS (lawE sc L fa cd c1 c2 c3 c4 c5)) Q E s := by
  rw [show lawDef.body.drop 10 = [_, _] from rfl] at hS
  subst hS
  obtain ⟨hh, gg, dd, tk, os⟩ := s
  have g0 := moved_range t (b := 0) (by decide)
  have g1 := moved_range t (b := 1) (by decide)
  have g2 := moved_range t (b := 2) (by decide)
  have g3 := moved_range t' (b := 0) (by decide)
  have g4 := moved_range t' (b := 1) (by decide)
  have g5 := moved_range t' (b := 2) (by decide)
  refine wpAny_execs_cons (wpAny_If (wpAny_isTrue_Compare1 ?_ (by with_unfolding_all rfl)))
  refine side_l hsc B F X N T hR hmu hmx (by rw [← hsc]; rfl) (by decide) hu0 hu1 g0.1 g0.2 g1.1 g1.2 g2.1 g2.2 hd hu fun q1 h1 k1 F1 N1 => ?_
  refine side_r (y := Str.ofString "text") (cy := c1) (oy := o1) (t := t) (tt := tt) hsc B F1 X N1 T hmu (by rw [← hsc]; rfl) rfl (by decide) hm1 ho1 hu0 hu1 hd hu fun q2 h2 k2 F2 N2 => ?_
  refine ne_eq_str (wpAny_truthy_bool ?_)
  rw [if_neg (by decide)]
  refine wpAny_execs_nil ?_
  refine wpAny_execs_cons (wpAny_Return_some (wpAny_Compare1 ?_))
  refine side_l hsc B F2 X N2 T hR' hmu hmy (by rw [← hsc]; rfl) (by decide) hu0 hu1 g3.1 g3.2 g4.1 g4.2 g5.1 g5.2 hd hu fun q3 h3 k3 F3 N3 => ?_
  refine side_r (y := Str.ofString "back") (cy := c2) (oy := o2) (t := t') (tt := bt) hsc B F3 X N3 T hmu (by rw [← hsc]; rfl) rfl (by decide) hm2 ho2 hu0 hu1 hd hu fun q4 h4 k4 F4 N4 => ?_
  exact eq_eq_str (h _ _ F4)
theorem ls_ne {h₀ h : Heap} {L D c5 : Addr} {led : List (Addr × Obj)} {ys : List Value} {c : Nat} {o5 : Obj} {v : Option Value} (N : News h₀ L h led) (hD : (D, lsObj ys c) ∈ led) (hc : (c5, o5) ∈ led) (ho : o5.data = .cell v) : D ≠ c5 := by
  rintro rfl
  have := (N _ hD).1
  rw [(N _ hc).1] at this
  cases this
  cases ho
theorem relSpl_cell {h₀ h : Heap} {L c5 : Addr} {led led' : List (Addr × Obj)} {o5 : Obj} {x : Option Value} {f : Nat → Nat → Option (List (List Nat))} {n m : Nat} {v : Value} (N : News h₀ L h led) (hc : (c5, o5) ∈ led) (ho : o5.data = .cell x) (hs : ∀ p ∈ led, p.1 ≠ c5 → p ∈ led')
    (hr : RelAll (fun b v l => RelAll (fun a v l => SplIs (f b a) v l) m v l) n v led) : RelAll (fun b v l => RelAll (fun a v l => SplIs (f b a) v l) m v l) n v led' := by
  have up : ∀ {D ys c}, (D, lsObj ys c) ∈ led → (D, lsObj ys c) ∈ led' := fun hD => hs _ hD (ls_ne N hD hc ho)
  obtain ⟨D, ys, c, e, hD, hl, hr⟩ := hr
  refine ⟨D, ys, c, e, up hD, hl, fun k y hk => ?_⟩
  obtain ⟨D, ys, c, e, hD, hl, hr⟩ := hr k y hk
  refine ⟨D, ys, c, e, up hD, hl, fun k y hk => ?_⟩
  rcases hr k y hk with h | ⟨S, ws, vs, c, e, e2, h1, h2⟩
  · exact .inl h
  · exact .inr ⟨S, ws, vs, c, e, e2, up h1, h2⟩
theorem ne_1 (n : Nat) : n + 1 ≠ n + 1 + 1 ∧ n + 1 ≠ n + 1 + 1 + 1 ∧ n + 1 ≠ n + 1 + 1 + 1 + 1 ∧ n + 1 ≠ n + 1 + 1 + 1 + 1 + 1 := by omega
theorem ne_2 (n : Nat) : n + 1 + 1 ≠ n + 1 ∧ n + 1 + 1 ≠ n + 1 + 1 + 1 ∧ n + 1 + 1 ≠ n + 1 + 1 + 1 + 1 ∧ n + 1 + 1 ≠ n + 1 + 1 + 1 + 1 + 1 := by omega
theorem ne_3 (n : Nat) : n + 1 + 1 + 1 ≠ n + 1 ∧ n + 1 + 1 + 1 ≠ n + 1 + 1 ∧ n + 1 + 1 + 1 ≠ n + 1 + 1 + 1 + 1 ∧ n + 1 + 1 + 1 ≠ n + 1 + 1 + 1 + 1 + 1 := by omega
theorem ne_45 (n : Nat) : n + 1 + 1 + 1 + 1 + 1 ≠ n + 1 + 1 + 1 + 1 := by omega
theorem rev_esc {t : List Nat} (h : ∀ c ∈ t, c ≠ 92 ∧ c < 256) : ∀ c ∈ t.reverse, c ≠ 92 ∧ c < 256 := fun c hc => h c (List.mem_reverse.mp hc)
theorem law_body : ∃ S0 S1 S2 S3 S4 S5 S6 S7 S8 S9 SS, lawDef.body = S0 :: S1 :: S2 :: S3 :: S4 :: S5 :: S6 :: S7 :: S8 :: S9 :: SS := ⟨_, _, _, _, _, _, _, _, _, _, _, rfl⟩
/-- the whole body of the law -/
theorem law_walk {w : World} {mean : ExcName → Option Value} {mg mb : Str → Option Value} {gd : Option (List Code)} {dp un : Nat} {A₀ : Around} {base h₀ : Heap} {sc : Scope} {fa l : Addr} {cd : Value} {s : Shared} {vs : List Value} {ns : List Int} {L c1 c2 c3 c4 c5 : Addr} {o1 o2 o3 o4 o5 : Obj}
  (hsc : lawDef.scope = sc) (B : Below A₀ base [] h₀) (F : Fr h₀ L s.heap (fun y => if y = Str.ofString "script" then some (.ref l) else none)) (X : (Mine.K1 w.params).In h₀) (N : News h₀ L s.heap [(c5,o5),(c4,o4),(c3,o3),(c2,o2),(c1,o1)]) (T : Top Mine.q1 (looseW Mine.q1 lz) mean mg mb h₀) (XB : (Mine.K1 w.params).In base) (TB : Top Mine.q1 (looseW Mine.q1 lz) mean mg mb base)
  (ho1 : o1.data = .cell none) (ho2 : o2.data = .cell none) (ho3 : o3.data = .cell none) (ho4 : o4.data = .cell none) (ho5 : o5.data = .cell none)
  (hc1 : c1 ≠ c2 ∧ c1 ≠ c3 ∧ c1 ≠ c4 ∧ c1 ≠ c5) (hc2 : c2 ≠ c1 ∧ c2 ≠ c3 ∧ c2 ≠ c4 ∧ c2 ≠ c5) (hc3 : c3 ≠ c1 ∧ c3 ≠ c2 ∧ c3 ≠ c4 ∧ c3 ≠ c5) (hc45 : c5 ≠ c4)
  (hL : h₀.IsList l vs.toArray) (hI : IntsAre vs ns) (hn : ns.length ≤ 63) (hd : dp + 500 < recursionLimit) (hu : un + 2000 < cLine) :
  wpCl (M1 w) (ktrTop dp un gd (Str.ofString "law") sc L fa cd (lawCl c1 c2 c3 c4 c5) []) (execs lawDef.body (lawE sc L fa cd c1 c2 c3 c4 c5))
    (fun f s' => f = .ret (.bool true) ∧ (∀ b o, h₀.get? b = some o → s'.heap.get? b = some o) ∧ s'.os = s.os ∧ s'.gens = s.gens) (fun _ _ => False) s := by
  obtain ⟨S0, S1, S2, S3, S4, S5, S6, S7, S8, S9, SS, hb⟩ := law_body
  obtain ⟨hh, gg, dd, tk, os⟩ := s
  rw [hb]
  refine wpCl_execs_cons (wpCl_any (st1 hb hsc B F X N T ho1 hc1 hL hI hn hd hu fun t tt h1 k1 o1' ht0 htl htc ho1' F1 N1 => ?_))
  clear N F
  refine wpCl_execs_cons (wpCl_any (st2 (S := S1) (by rw [hb]; rfl) hsc B F1 X N1 T hL hI hn hd hu fun u ut h2 k2 hu0 hu1 F2 N2 => ?_))
  clear N1 F1
  refine wpCl_execs_cons (st3 (S := S2) (by rw [hb]; rfl) hsc B F2 X N2 T (by simp) ho1' ht0 htl htc hd fun bt h3 k3 F3 N3 => ?_)
  dsimp only
  clear N2 F2
  refine wpCl_any (wpAny_execs_cons (st4 (S := S3) (by rw [hb]; rfl) hsc B F3 X N3 T ho2 (by simpa using htl) hc2 fun tb h4 k4 o2' ho2' F4 N4 => ?_))
  rw [u8_back htc] at ho2'
  clear N3 F3
  refine wpAny_execs_cons (st5 (S := S4) (by rw [hb]; rfl) hsc B F4 X N4 T ho3 hc3 fun Mt oM items h5 k5 o3' ho3' hM F5 N5 hlt5 => ?_)
  dsimp only
  clear N4 F4
  refine wpAny_execs_cons (st6 (S := S5) (by rw [hb]; rfl) hsc B F5 X N5 T XB TB (by simp) (by simp) (by simp) (by simp) ho1' ho3' ho4 hM htl htc hd hu fun D4 h6 k6 o4' led6 ho4' F6 N6 hm4 hs6 hlt6 hr4 => ?_)
  dsimp only
  have m1 : (c1, o1') ∈ led6 := hs6 _ (by simp) hc1.2.2.1
  have m2 : (c2, o2') ∈ led6 := hs6 _ (by simp) hc2.2.2.1
  have m3 : (c3, o3') ∈ led6 := hs6 _ (by simp) hc3.2.2.1
  have m5 : (c5, o5) ∈ led6 := hs6 _ (by simp) hc45
  have mM : (Mt, oM) ∈ led6 := hs6 _ (by simp) (Nat.ne_of_gt hlt5.2.1)
  clear N5 F5 hs6
  refine wpAny_execs_cons (st7 (S := S6) (by rw [hb]; rfl) hsc B F6 X N6 T XB TB m2 m3 m5 mM ho2' ho3' ho5 hM (by simpa using htl) (rev_esc htc) hd hu fun D5 h7 k7 o5' led7 ho5' F7 N7 hm5 hs7 hlt7 hr5 => ?_)
  dsimp only
  have hr4 := relSpl_cell (f := fun b a => Mine.sc none none (mk a ++ t ++ mk b)) N6 m5 ho5 hs7 hr4
  have m1 : (c1, o1') ∈ led7 := hs7 _ m1 hc1.2.2.2
  have m2 : (c2, o2') ∈ led7 := hs7 _ m2 hc2.2.2.2
  have m3 : (c3, o3') ∈ led7 := hs7 _ m3 hc3.2.2.2
  have m4 : (c4, o4') ∈ led7 := hs7 _ hm4 (Ne.symm hc45)
  have mM : (Mt, oM) ∈ led7 := hs7 _ mM (Nat.ne_of_gt hlt5.1)
  clear N6 F6 hs7 m5 hm4
  refine wpAny_execs_cons (st8 (S := S7) (by rw [hb]; rfl) hsc B F7 X N7 T m1 m3 m4 hm5 mM ho1' ho3' ho4' ho5' hM hr4 hr5 htl hd hu fun m8 h8 k8 led8 hm8 F8 N8 hs8 => ?_)
  dsimp only
  have hmu : m8 (Str.ofString "upper") = some (.int u ut) := (hm8 _ (by decide) (by decide)).trans ((if_neg (by decide)).trans (if_pos rfl))
  have hr4 := relSpl_mono (f := fun b a => Mine.sc none none (mk a ++ t ++ mk b)) hs8 hr4
  have hr5 := relSpl_mono (f := fun b a => Mine.sc none none (mk b ++ t.reverse ++ mk a)) hs8 hr5
  have m1 := hs8 _ m1
  have m2 := hs8 _ m2
  have m4 := hs8 _ m4
  have hm5 := hs8 _ hm5
  clear N7 F7 hs8 hm8 m3 mM
  refine wpAny_execs_cons (st9 (S := S8) (t := t) (by rw [hb]; rfl) hsc F8 X N8 T m4 ho4' hr4 fun D9 q0 q1 q2 c9 h9 k9 led9 F9 N9 hs9 => ?_)
  dsimp only
  rw [rights_moved t (b := 0) (by decide), rights_moved t (b := 1) (by decide), rights_moved t (b := 2) (by decide)] at N9
  have hs9 : ∀ p ∈ led8, p ∈ (D9, lsObj [.int (atQ (moved t) (qA 0)) q0, .int (atQ (moved t) (qA 1)) q1, .int (atQ (moved t) (qA 2)) q2] c9) :: led9 := fun p hp => .tail _ (hs9 p hp)
  have hr5 := relSpl_mono (f := fun b a => Mine.sc none none (mk b ++ t.reverse ++ mk a)) hs9 hr5
  refine wpAny_execs_cons (st10 (S := S9) (t := t.reverse) (by rw [hb]; rfl) hsc F9 X N9 T (hs9 _ hm5) ho5' hr5 fun D10 q3 q4 q5 c10 h10 k10 led10 F10 N10 hs10 => ?_)
  dsimp only
  rw [rights_moved t.reverse (b := 0) (by decide), rights_moved t.reverse (b := 1) (by decide), rights_moved t.reverse (b := 2) (by decide)] at N10
  have up : ∀ p ∈ led8, p ∈ (D10, lsObj [.int (atQ (moved t.reverse) (qA 0)) q3, .int (atQ (moved t.reverse) (qA 1)) q4, .int (atQ (moved t.reverse) (qA 2)) q5] c10) :: led10 := fun p hp => .tail _ (hs10 p (hs9 p hp))
  refine st_end (SS := SS) (t := t) (t' := t.reverse) (R := D9) (R' := D10) (u := u) (ut := ut) (by rw [hb]; rfl) hsc B F10 X N10 T (up _ m1) (up _ m2) ho1' ho2' ?_ ?_ (if_pos rfl) (.tail _ (hs10 _ (.head _))) (.head _) hu0 hu1 hd hu fun hE kE FE => ⟨rfl, FE.keep, rfl, rfl⟩
  · exact (if_neg (by decide)).trans ((if_neg (by decide)).trans hmu)
  · exact (if_neg (by decide)).trans (if_pos rfl)
end As_
section As2_
open PySem.SeqAt PySem PySem.W PyProof.Rows PySem.Calls PySem.Spec PyProof

set_option maxRecDepth 100000
set_option maxHeartbeats 8000000

theorem law1_holds : PySem.Challenge.rw_op0238_01.Holds := by
  refine law1_of ?_
  intro w mean mg mb s₁ l fa cd vs ns T X hL hI hn h₁ tk cells F0 N0 X0
  have X1 : CellsAre (fun _ => none) [(Str.ofString "turned", s₁.heap.objs.size + 1 + 1 + 1 + 1 + 1), (Str.ofString "told", s₁.heap.objs.size + 1 + 1 + 1 + 1), (Str.ofString "marks", s₁.heap.objs.size + 1 + 1 + 1), (Str.ofString "back", s₁.heap.objs.size + 1 + 1), (Str.ofString "text", s₁.heap.objs.size + 1)] cells := X0
  obtain ⟨o5, o4, o3, o2, o1, rfl, d5, d4, d3, d2, d1⟩ := kc_five X1
  have he : lawEnv s₁.heap.objs.size fa cd = lawE lawDef.scope s₁.heap.objs.size fa cd (s₁.heap.objs.size + 1) (s₁.heap.objs.size + 1 + 1) (s₁.heap.objs.size + 1 + 1 + 1) (s₁.heap.objs.size + 1 + 1 + 1 + 1) (s₁.heap.objs.size + 1 + 1 + 1 + 1 + 1) := by kernel_rfl
  have W := law_walk (s := { s₁ with heap := h₁, toks := tk }) (dp := callerA.depth + 1) (un := callerA.units + 3) (gd := callerA.guards) (fa := fa) (cd := cd) rfl (below_caller s₁.heap) F0 X N0 T X T d1 d2 d3 d4 d5 (ne_1 _) (ne_2 _) (ne_3 _) (ne_45 _) hL hI hn (by decide +kernel) (by decide +kernel)
  rw [he]
  clear he
  exact W
end As2_
end Mine
set_option maxHeartbeats 4000000 in
theorem PySem.Challenge.cw_op0238_01_holds : PySem.Challenge.rw_op0238_01.Holds := by
  exact Mine.law1_holds
