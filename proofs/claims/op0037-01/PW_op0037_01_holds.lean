import PyProof.Rows.All
import Wide.All
import OpenK.AllK
import Wide.FinOn
import PyProof.ExcStrCall
import PyProof.TypeOfCall
import KE.KxDecode
import PyProof.EnumMake
import PyProof.Draws
import PyProof.WalksPairs
import PySem.Challenge.RW_op0037_01
open PySem PySem.W PyProof.Rows PySem.Calls PySem.Spec
set_option Elab.async false
set_option maxRecDepth 100000
set_option maxHeartbeats 8000000
set_option rowWalk.seconds 0
namespace Mine
noncomputable def stAt (i : Nat) : List Stmt := PySem.Challenge.pw_op0037_01.main.body.drop i
noncomputable def stOf (i : Nat) : Stmt := match stAt i with | x :: _ => x | _ => .Pass ⟨0, 0, 0, 0⟩
noncomputable def fnA (i : Nat) : Arguments := match stAt i with | .FunctionDef _ a .. :: _ => a | _ => ⟨[], [], none, [], [], none, []⟩
noncomputable def fnB (i : Nat) : List Stmt := match stAt i with | .FunctionDef _ _ b .. :: _ => b | _ => []
noncomputable def fnS (i : Nat) : Scope := match stAt i with | .FunctionDef _ _ _ _ _ _ s .. :: _ => s | _ => { kind := .function, names := [], isGenerator := false, isCoroutine := false }
inductive Lits {α : Type} (v : α) : α → Prop
  | mk : Lits v v
noncomputable def hd.view_39 : Program := by
  refine' (fun (v : List Stmt) (_ : Lits v (stOf 0 :: stOf 2 :: stOf 3 :: stOf 4 :: stOf 6 :: stOf 7 :: stOf 8 :: stOf 13 :: stOf 14 :: stOf 15 :: stOf 16 :: stOf 17 :: stOf 18 :: stOf 19 :: stOf 20 :: stOf 21 :: stOf 22 :: stOf 23 :: stOf 24 :: stOf 25 :: stOf 26 :: stOf 27 :: stOf 28 :: stOf 29 :: stOf 30 :: stOf 31 :: stOf 32 :: stOf 33 :: stOf 34 :: stOf 36 :: stOf 37 :: stOf 38 :: stOf 39 :: stOf 40 :: stOf 41 :: stOf 42 :: stOf 43 :: stOf 44 :: stOf 45 :: [])) => ({ PySem.Challenge.rw_op0037_01.prog with main := { PySem.Challenge.rw_op0037_01.prog.main with body := v } } : Program)) _ ?h
  case h =>
    exact .mk
noncomputable def hd.heap_39 : Params → Frag := by
  intro P
  refine' (fun (a0 : Arguments) (_ : Lits a0 (fnA 0)) (b0 : List Stmt) (_ : Lits b0 (fnB 0)) (s0 : Scope) (_ : Lits s0 (fnS 0)) (a4 : Arguments) (_ : Lits a4 (fnA 4)) (b4 : List Stmt) (_ : Lits b4 (fnB 4)) (s4 : Scope) (_ : Lits s4 (fnS 4)) (a6 : Arguments) (_ : Lits a6 (fnA 6)) (b6 : List Stmt) (_ : Lits b6 (fnB 6)) (s6 : Scope) (_ : Lits s6 (fnS 6)) (a7 : Arguments) (_ : Lits a7 (fnA 7)) (b7 : List Stmt) (_ : Lits b7 (fnB 7)) (s7 : Scope) (_ : Lits s7 (fnS 7)) (a9 : Arguments) (_ : Lits a9 (fnA 9)) (b9 : List Stmt) (_ : Lits b9 (fnB 9)) (s9 : Scope) (_ : Lits s9 (fnS 9)) (a11 : Arguments) (_ : Lits a11 (fnA 11)) (b11 : List Stmt) (_ : Lits b11 (fnB 11)) (s11 : Scope) (_ : Lits s11 (fnS 11)) (a13 : Arguments) (_ : Lits a13 (fnA 13)) (b13 : List Stmt) (_ : Lits b13 (fnB 13)) (s13 : Scope) (_ : Lits s13 (fnS 13)) (a34 : Arguments) (_ : Lits a34 (fnA 34)) (b34 : List Stmt) (_ : Lits b34 (fnB 34)) (s34 : Scope) (_ : Lits s34 (fnS 34)) (a36 : Arguments) (_ : Lits a36 (fnA 36)) (b36 : List Stmt) (_ : Lits b36 (fnB 36)) (s36 : Scope) (_ : Lits s36 (fnS 36)) (a37 : Arguments) (_ : Lits a37 (fnA 37)) (b37 : List Stmt) (_ : Lits b37 (fnB 37)) (s37 : Scope) (_ : Lits s37 (fnS 37)) (a38 : Arguments) (_ : Lits a38 (fnA 38)) (b38 : List Stmt) (_ : Lits b38 (fnB 38)) (s38 : Scope) (_ : Lits s38 (fnS 38)) (a39 : Arguments) (_ : Lits a39 (fnA 39)) (b39 : List Stmt) (_ : Lits b39 (fnB 39)) (s39 : Scope) (_ : Lits s39 (fnS 39)) (a40 : Arguments) (_ : Lits a40 (fnA 40)) (b40 : List Stmt) (_ : Lits b40 (fnB 40)) (s40 : Scope) (_ : Lits s40 (fnS 40)) (a41 : Arguments) (_ : Lits a41 (fnA 41)) (b41 : List Stmt) (_ : Lits b41 (fnB 41)) (s41 : Scope) (_ : Lits s41 (fnS 41)) (a42 : Arguments) (_ : Lits a42 (fnA 42)) (b42 : List Stmt) (_ : Lits b42 (fnB 42)) (s42 : Scope) (_ : Lits s42 (fnS 42)) (a43 : Arguments) (_ : Lits a43 (fnA 43)) (b43 : List Stmt) (_ : Lits b43 (fnB 43)) (s43 : Scope) (_ : Lits s43 (fnS 43)) (a44 : Arguments) (_ : Lits a44 (fnA 44)) (b44 : List Stmt) (_ : Lits b44 (fnB 44)) (s44 : Scope) (_ : Lits s44 (fnS 44)) (a45 : Arguments) (_ : Lits a45 (fnA 45)) (b45 : List Stmt) (_ : Lits b45 (fnB 45)) (s45 : Scope) (_ : Lits s45 (fnS 45)) => (
  (nat_lit 2, (Obj.mk Value.none none (Data.dict (List.toArray [(DictEntry.mk (PyData.keyHash P (Str.ofString "type.__subclasses__.Exception.0")) (Value.str (Str.ofString "type.__subclasses__.Exception.0") 212) (Value.int 31 0)), (DictEntry.mk (PyData.keyHash P (Str.ofString "type.__subclasses__.Exception.n")) (Value.str (Str.ofString "type.__subclasses__.Exception.n") 213) (Value.int 1 0))]) 2) #[])) ::
  (nat_lit 3, (Obj.mk (Value.type "dict") none (Data.dict (List.toArray ((DictEntry.mk (PyData.keyHash P (Str.ofString "__name__")) (Value.str (Str.ofString "__name__") 165) (Value.str (Str.ofString "law_op0037_01") 373)) :: (DictEntry.mk (PyData.keyHash P (Str.ofString "__doc__")) (Value.str (Str.ofString "__doc__") 166) Value.none) :: (DictEntry.mk (PyData.keyHash P (Str.ofString "__package__")) (Value.str (Str.ofString "__package__") 167) Value.none) :: (DictEntry.mk (PyData.keyHash P (Str.ofString "__loader__")) (Value.str (Str.ofString "__loader__") 168) (Value.builtin "__main__.__loader__#opaque")) :: (DictEntry.mk (PyData.keyHash P (Str.ofString "__spec__")) (Value.str (Str.ofString "__spec__") 169) Value.none) :: (DictEntry.mk (PyData.keyHash P (Str.ofString "__annotations__")) (Value.str (Str.ofString "__annotations__") 170) (Value.ref 6)) :: (DictEntry.mk (PyData.keyHash P (Str.ofString "__builtins__")) (Value.str (Str.ofString "__builtins__") 171) (Value.ref 4)) :: (DictEntry.mk (PyData.keyHash P (Str.ofString "__file__")) (Value.str (Str.ofString "__file__") 173) (Value.str (Str.ofString "/claim/cut.py") 172)) :: (DictEntry.mk (PyData.keyHash P (Str.ofString "__cached__")) (Value.str (Str.ofString "__cached__") 174) Value.none) :: (DictEntry.mk (PyData.keyHash P (Str.ofString "_wall")) (Value.str (Str.ofString "_wall") 193) (Value.ref 21)) :: (DictEntry.mk (PyData.keyHash P (Str.ofString "Error")) (Value.str (Str.ofString "Error") 215) (Value.ref 31)) :: (DictEntry.mk (PyData.keyHash P (Str.ofString "error_reply")) (Value.str (Str.ofString "error_reply") 231) (Value.ref 44)) :: (DictEntry.mk (PyData.keyHash P (Str.ofString "parse257")) (Value.str (Str.ofString "parse257") 242) (Value.ref 53)) :: (DictEntry.mk (PyData.keyHash P (Str.ofString "_buffer")) (Value.str (Str.ofString "_buffer") 252) (Value.ref 60)) :: (DictEntry.mk (PyData.keyHash P (Str.ofString "_truth")) (Value.str (Str.ofString "_truth") 260) (Value.ref 67)) :: (DictEntry.mk (PyData.keyHash P (Str.ofString "_B64")) (Value.str (Str.ofString "_B64") 262) (Value.bytes (List.toArray ((65 : UInt8) :: (66 : UInt8) :: (67 : UInt8) :: (68 : UInt8) :: (69 : UInt8) :: (70 : UInt8) :: (71 : UInt8) :: (72 : UInt8) :: (73 : UInt8) :: (74 : UInt8) :: (75 : UInt8) :: (76 : UInt8) :: (77 : UInt8) :: (78 : UInt8) :: (79 : UInt8) :: (80 : UInt8) :: (81 : UInt8) :: (82 : UInt8) :: (83 : UInt8) :: (84 : UInt8) :: (85 : UInt8) :: (86 : UInt8) :: (87 : UInt8) :: (88 : UInt8) :: (89 : UInt8) :: (90 : UInt8) :: (97 : UInt8) :: (98 : UInt8) :: (99 : UInt8) :: (100 : UInt8) :: (101 : UInt8) :: (102 : UInt8) :: (103 : UInt8) :: (104 : UInt8) :: (105 : UInt8) :: (106 : UInt8) :: (107 : UInt8) :: (108 : UInt8) :: (109 : UInt8) :: (110 : UInt8) :: (111 : UInt8) :: (112 : UInt8) :: (113 : UInt8) :: (114 : UInt8) :: (115 : UInt8) :: (116 : UInt8) :: (117 : UInt8) :: (118 : UInt8) :: (119 : UInt8) :: (120 : UInt8) :: (121 : UInt8) :: (122 : UInt8) :: (48 : UInt8) :: (49 : UInt8) :: (50 : UInt8) :: (51 : UInt8) :: (52 : UInt8) :: (53 : UInt8) :: (54 : UInt8) :: (55 : UInt8) :: (56 : UInt8) :: (57 : UInt8) :: (43 : UInt8) :: (47 : UInt8) :: [])) 261)) :: (DictEntry.mk (PyData.keyHash P (Str.ofString "b2a_base64")) (Value.str (Str.ofString "b2a_base64") 276) (Value.ref 75)) :: (DictEntry.mk (PyData.keyHash P (Str.ofString "b64encode")) (Value.str (Str.ofString "b64encode") 287) (Value.ref 83)) :: (DictEntry.mk (PyData.keyHash P (Str.ofString "S_IFMT")) (Value.str (Str.ofString "S_IFMT") 296) (Value.ref 90)) :: (DictEntry.mk (PyData.keyHash P (Str.ofString "S_IFDIR")) (Value.str (Str.ofString "S_IFDIR") 298) (Value.int 16384 297)) :: (DictEntry.mk (PyData.keyHash P (Str.ofString "S_IFCHR")) (Value.str (Str.ofString "S_IFCHR") 300) (Value.int 8192 299)) :: (DictEntry.mk (PyData.keyHash P (Str.ofString "S_IFBLK")) (Value.str (Str.ofString "S_IFBLK") 302) (Value.int 24576 301)) :: (DictEntry.mk (PyData.keyHash P (Str.ofString "S_IFREG")) (Value.str (Str.ofString "S_IFREG") 304) (Value.int 32768 303)) :: (DictEntry.mk (PyData.keyHash P (Str.ofString "S_IFIFO")) (Value.str (Str.ofString "S_IFIFO") 306) (Value.int 4096 305)) :: (DictEntry.mk (PyData.keyHash P (Str.ofString "S_IFLNK")) (Value.str (Str.ofString "S_IFLNK") 308) (Value.int 40960 307)) :: (DictEntry.mk (PyData.keyHash P (Str.ofString "S_IFSOCK")) (Value.str (Str.ofString "S_IFSOCK") 310) (Value.int 49152 309)) :: (DictEntry.mk (PyData.keyHash P (Str.ofString "S_ISUID")) (Value.str (Str.ofString "S_ISUID") 312) (Value.int 2048 311)) :: (DictEntry.mk (PyData.keyHash P (Str.ofString "S_ISGID")) (Value.str (Str.ofString "S_ISGID") 314) (Value.int 1024 313)) :: (DictEntry.mk (PyData.keyHash P (Str.ofString "S_ISVTX")) (Value.str (Str.ofString "S_ISVTX") 316) (Value.int 512 315)) :: (DictEntry.mk (PyData.keyHash P (Str.ofString "S_IRUSR")) (Value.str (Str.ofString "S_IRUSR") 318) (Value.int 256 317)) :: (DictEntry.mk (PyData.keyHash P (Str.ofString "S_IWUSR")) (Value.str (Str.ofString "S_IWUSR") 320) (Value.int 128 319)) :: (DictEntry.mk (PyData.keyHash P (Str.ofString "S_IXUSR")) (Value.str (Str.ofString "S_IXUSR") 322) (Value.int 64 321)) :: (DictEntry.mk (PyData.keyHash P (Str.ofString "S_IRGRP")) (Value.str (Str.ofString "S_IRGRP") 324) (Value.int 32 323)) :: (DictEntry.mk (PyData.keyHash P (Str.ofString "S_IWGRP")) (Value.str (Str.ofString "S_IWGRP") 326) (Value.int 16 325)) :: (DictEntry.mk (PyData.keyHash P (Str.ofString "S_IXGRP")) (Value.str (Str.ofString "S_IXGRP") 328) (Value.int 8 327)) :: (DictEntry.mk (PyData.keyHash P (Str.ofString "S_IROTH")) (Value.str (Str.ofString "S_IROTH") 330) (Value.int 4 329)) :: (DictEntry.mk (PyData.keyHash P (Str.ofString "S_IWOTH")) (Value.str (Str.ofString "S_IWOTH") 332) (Value.int 2 331)) :: (DictEntry.mk (PyData.keyHash P (Str.ofString "S_IXOTH")) (Value.str (Str.ofString "S_IXOTH") 334) (Value.int 1 333)) :: (DictEntry.mk (PyData.keyHash P (Str.ofString "_filemode_table")) (Value.str (Str.ofString "_filemode_table") 360) (Value.ref 123)) :: (DictEntry.mk (PyData.keyHash P (Str.ofString "filemode")) (Value.str (Str.ofString "filemode") 372) (Value.ref 130)) :: (DictEntry.mk (PyData.keyHash P (Str.ofString "_law_places")) (Value.str (Str.ofString "_law_places") 380) (Value.ref 137)) :: (DictEntry.mk (PyData.keyHash P (Str.ofString "_law_word")) (Value.str (Str.ofString "_law_word") 386) (Value.ref 142)) :: (DictEntry.mk (PyData.keyHash P (Str.ofString "_law_weight")) (Value.str (Str.ofString "_law_weight") 393) (Value.ref 149)) :: (DictEntry.mk (PyData.keyHash P (Str.ofString "_law_turned")) (Value.str (Str.ofString "_law_turned") 401) (Value.ref 156)) :: (DictEntry.mk (PyData.keyHash P (Str.ofString "_law_rights")) (Value.str (Str.ofString "_law_rights") 414) (Value.ref 163)) :: (DictEntry.mk (PyData.keyHash P (Str.ofString "_law_told")) (Value.str (Str.ofString "_law_told") 422) (Value.ref 170)) :: (DictEntry.mk (PyData.keyHash P (Str.ofString "_law_odd")) (Value.str (Str.ofString "_law_odd") 428) (Value.ref 175)) :: (DictEntry.mk (PyData.keyHash P (Str.ofString "_law_heard")) (Value.str (Str.ofString "_law_heard") 434) (Value.ref 180)) :: (DictEntry.mk (PyData.keyHash P (Str.ofString "_law_written")) (Value.str (Str.ofString "_law_written") 440) (Value.ref 185)) :: (DictEntry.mk (PyData.keyHash P (Str.ofString "law")) (Value.str (Str.ofString "law") 446) (Value.ref 190)) :: [])) 50) #[])) ::
  (nat_lit 15, (Obj.mk (Value.type "tuple") none (Data.seq #[] 0) #[])) ::
  (nat_lit 17, (Obj.mk (Value.type "tuple") none (Data.seq (List.toArray [(Value.str (Str.ofString "k") 190)]) 0) #[])) ::
  (nat_lit 18, (Obj.mk (Value.type "tuple") none (Data.seq #[] 0) #[])) ::
  (nat_lit 20, (Obj.mk (Value.type "code") none (Data.fields (List.toArray ((Value.str (Str.ofString "_wall") 187) :: (Value.str (Str.ofString "_wall") 188) :: (Value.str (Str.ofString "/claim/cut.py") 189) :: (Value.int 1 0) :: (Value.int 1 0) :: (Value.int 0 0) :: (Value.int 0 0) :: (Value.int 3 0) :: (Value.ref 15) :: (Value.bool Bool.true) :: (Value.int 181 0) :: (Value.ref 16) :: Value.none :: (Value.ref 17) :: (Value.ref 18) :: (Value.ref 19) :: (Value.int 191 0) :: (Value.int 1 0) :: (Value.str (Str.ofString "/claim/cut.py") 192) :: []))) #[])) ::
  (nat_lit 21, (Obj.mk (Value.type "function") none (Data.func (FuncData.mk (Str.ofString "_wall") (Str.ofString "_wall") a0 (FuncBody.stmts b0) s0 3 [] Value.none Value.none Value.none (Value.str (Str.ofString "__main__") 164) none (Value.ref 20) Value.none 0)) #[])) ::
  (nat_lit 22, (Obj.mk (Value.type "tuple") none (Data.seq (List.toArray [(Value.type "Exception")]) 0) #[])) ::
  (nat_lit 29, (Obj.mk (Value.type "tuple") none (Data.seq #[] 0) #[])) ::
  (nat_lit 30, (Obj.mk (Value.type "dict") none (Data.dict (List.toArray [(DictEntry.mk (PyData.keyHash P (Str.ofString "__module__")) (Value.str (Str.ofString "__module__") 203) (Value.str (Str.ofString "cpy313.ftplib") 194)), (DictEntry.mk (PyData.keyHash P (Str.ofString "__firstlineno__")) (Value.str (Str.ofString "__firstlineno__") 207) (Value.int 5 206)), (DictEntry.mk (PyData.keyHash P (Str.ofString "__static_attributes__")) (Value.str (Str.ofString "__static_attributes__") 208) (Value.ref 29)), (DictEntry.mk (PyData.keyHash P (Str.ofString "__weakref__")) (Value.str (Str.ofString "__weakref__") 210) (Value.ref 32)), (DictEntry.mk (PyData.keyHash P (Str.ofString "__doc__")) (Value.str (Str.ofString "__doc__") 211) Value.none)]) 3) #[])) ::
  (nat_lit 31, (Obj.mk (Value.type "type") none (Data.cls (ClassData.mk (Str.ofString "Error") [(Value.type "Exception")] [(Value.ref 31), (Value.type "Exception"), (Value.type "BaseException"), (Value.type "object")] 30 (Str.ofString "Error") Bool.true [] [(Value.ref 44)] Bool.false none Bool.false)) (List.toArray [(some (Value.ref 22)), none, (some (Value.str (Str.ofString "Error") 196)), (some (Value.str (Str.ofString "Error") 204)), (some (Value.builtin "Exception.__new__")), (some (Value.bool Bool.true))]))) ::
  (nat_lit 32, (Obj.mk (Value.type "getset_descriptor") none (Data.fields (List.toArray [(Value.str (Str.ofString "__weakref__") 209), (Value.ref 31), (Value.builtin "ExceptionGroup.__weakref__"), Value.none])) #[])) ::
  (nat_lit 35, (Obj.mk (Value.type "tuple") none (Data.seq (List.toArray [(Value.ref 31)]) 0) #[])) ::
  (nat_lit 42, (Obj.mk (Value.type "tuple") none (Data.seq #[] 0) #[])) ::
  (nat_lit 43, (Obj.mk (Value.type "dict") none (Data.dict (List.toArray [(DictEntry.mk (PyData.keyHash P (Str.ofString "__module__")) (Value.str (Str.ofString "__module__") 223) (Value.str (Str.ofString "cpy313.ftplib") 194)), (DictEntry.mk (PyData.keyHash P (Str.ofString "__firstlineno__")) (Value.str (Str.ofString "__firstlineno__") 227) (Value.int 7 226)), (DictEntry.mk (PyData.keyHash P (Str.ofString "__static_attributes__")) (Value.str (Str.ofString "__static_attributes__") 228) (Value.ref 42)), (DictEntry.mk (PyData.keyHash P (Str.ofString "__doc__")) (Value.str (Str.ofString "__doc__") 229) Value.none)]) 2) #[])) ::
  (nat_lit 44, (Obj.mk (Value.type "type") none (Data.cls (ClassData.mk (Str.ofString "error_reply") [(Value.ref 31)] [(Value.ref 44), (Value.ref 31), (Value.type "Exception"), (Value.type "BaseException"), (Value.type "object")] 43 (Str.ofString "error_reply") Bool.true [] [] Bool.false none Bool.false)) (List.toArray [(some (Value.ref 35)), none, (some (Value.str (Str.ofString "error_reply") 216)), (some (Value.str (Str.ofString "error_reply") 224)), (some (Value.builtin "Exception.__new__")), (some (Value.bool Bool.true))]))) ::
  (nat_lit 47, (Obj.mk (Value.type "tuple") none (Data.seq #[] 0) #[])) ::
  (nat_lit 49, (Obj.mk (Value.type "tuple") none (Data.seq (List.toArray [(Value.str (Str.ofString "resp") 235), (Value.str (Str.ofString "dirname") 236), (Value.str (Str.ofString "i") 237), (Value.str (Str.ofString "n") 238), (Value.str (Str.ofString "c") 239)]) 0) #[])) ::
  (nat_lit 50, (Obj.mk (Value.type "tuple") none (Data.seq #[] 0) #[])) ::
  (nat_lit 52, (Obj.mk (Value.type "code") none (Data.fields (List.toArray ((Value.str (Str.ofString "parse257") 232) :: (Value.str (Str.ofString "parse257") 233) :: (Value.str (Str.ofString "/claim/cut.py") 234) :: (Value.int 9 0) :: (Value.int 1 0) :: (Value.int 0 0) :: (Value.int 0 0) :: (Value.int 3 0) :: (Value.ref 47) :: (Value.bool Bool.true) :: (Value.int 181 0) :: (Value.ref 48) :: Value.none :: (Value.ref 49) :: (Value.ref 50) :: (Value.ref 51) :: (Value.int 240 0) :: (Value.int 9 0) :: (Value.str (Str.ofString "/claim/cut.py") 241) :: []))) #[])) ::
  (nat_lit 53, (Obj.mk (Value.type "function") none (Data.func (FuncData.mk (Str.ofString "parse257") (Str.ofString "parse257") a4 (FuncBody.stmts b4) s4 3 [] Value.none Value.none Value.none (Value.str (Str.ofString "cpy313.ftplib") 194) none (Value.ref 52) Value.none 0)) #[])) ::
  (nat_lit 54, (Obj.mk (Value.type "tuple") none (Data.seq #[] 0) #[])) ::
  (nat_lit 56, (Obj.mk (Value.type "tuple") none (Data.seq (List.toArray [(Value.str (Str.ofString "data") 248), (Value.str (Str.ofString "t") 249)]) 0) #[])) ::
  (nat_lit 57, (Obj.mk (Value.type "tuple") none (Data.seq #[] 0) #[])) ::
  (nat_lit 59, (Obj.mk (Value.type "code") none (Data.fields (List.toArray ((Value.str (Str.ofString "_buffer") 245) :: (Value.str (Str.ofString "_buffer") 246) :: (Value.str (Str.ofString "/claim/cut.py") 247) :: (Value.int 27 0) :: (Value.int 1 0) :: (Value.int 0 0) :: (Value.int 0 0) :: (Value.int 3 0) :: (Value.ref 54) :: (Value.bool Bool.true) :: (Value.int 181 0) :: (Value.ref 55) :: Value.none :: (Value.ref 56) :: (Value.ref 57) :: (Value.ref 58) :: (Value.int 250 0) :: (Value.int 27 0) :: (Value.str (Str.ofString "/claim/cut.py") 251) :: []))) #[])) ::
  (nat_lit 60, (Obj.mk (Value.type "function") none (Data.func (FuncData.mk (Str.ofString "_buffer") (Str.ofString "_buffer") a6 (FuncBody.stmts b6) s6 3 [] Value.none Value.none Value.none (Value.str (Str.ofString "binascii") 243) none (Value.ref 59) Value.none 0)) #[])) ::
  (nat_lit 61, (Obj.mk (Value.type "tuple") none (Data.seq #[] 0) #[])) ::
  (nat_lit 63, (Obj.mk (Value.type "tuple") none (Data.seq (List.toArray [(Value.str (Str.ofString "x") 256), (Value.str (Str.ofString "t") 257)]) 0) #[])) ::
  (nat_lit 64, (Obj.mk (Value.type "tuple") none (Data.seq #[] 0) #[])) ::
  (nat_lit 66, (Obj.mk (Value.type "code") none (Data.fields (List.toArray ((Value.str (Str.ofString "_truth") 253) :: (Value.str (Str.ofString "_truth") 254) :: (Value.str (Str.ofString "/claim/cut.py") 255) :: (Value.int 34 0) :: (Value.int 1 0) :: (Value.int 0 0) :: (Value.int 0 0) :: (Value.int 3 0) :: (Value.ref 61) :: (Value.bool Bool.true) :: (Value.int 181 0) :: (Value.ref 62) :: Value.none :: (Value.ref 63) :: (Value.ref 64) :: (Value.ref 65) :: (Value.int 258 0) :: (Value.int 34 0) :: (Value.str (Str.ofString "/claim/cut.py") 259) :: []))) #[])) ::
  (nat_lit 67, (Obj.mk (Value.type "function") none (Data.func (FuncData.mk (Str.ofString "_truth") (Str.ofString "_truth") a7 (FuncBody.stmts b7) s7 3 [] Value.none Value.none Value.none (Value.str (Str.ofString "binascii") 243) none (Value.ref 66) Value.none 0)) #[])) ::
  (nat_lit 68, (Obj.mk (Value.type "dict") none (Data.dict (List.toArray [(DictEntry.mk (PyData.keyHash P (Str.ofString "newline")) (Value.str (Str.ofString "newline") 263) (Value.bool Bool.true))]) 1) #[])) ::
  (nat_lit 69, (Obj.mk (Value.type "tuple") none (Data.seq #[] 0) #[])) ::
  (nat_lit 71, (Obj.mk (Value.type "tuple") none (Data.seq (List.toArray [(Value.str (Str.ofString "data") 267), (Value.str (Str.ofString "newline") 268), (Value.str (Str.ofString "bin_data") 269), (Value.str (Str.ofString "out") 270), (Value.str (Str.ofString "leftbits") 271), (Value.str (Str.ofString "leftchar") 272), (Value.str (Str.ofString "b") 273)]) 0) #[])) ::
  (nat_lit 72, (Obj.mk (Value.type "tuple") none (Data.seq #[] 0) #[])) ::
  (nat_lit 74, (Obj.mk (Value.type "code") none (Data.fields (List.toArray ((Value.str (Str.ofString "b2a_base64") 264) :: (Value.str (Str.ofString "b2a_base64") 265) :: (Value.str (Str.ofString "/claim/cut.py") 266) :: (Value.int 40 0) :: (Value.int 1 0) :: (Value.int 1 0) :: (Value.int 1 0) :: (Value.int 3 0) :: (Value.ref 69) :: (Value.bool Bool.true) :: (Value.int 181 0) :: (Value.ref 70) :: Value.none :: (Value.ref 71) :: (Value.ref 72) :: (Value.ref 73) :: (Value.int 274 0) :: (Value.int 40 0) :: (Value.str (Str.ofString "/claim/cut.py") 275) :: []))) #[])) ::
  (nat_lit 75, (Obj.mk (Value.type "function") none (Data.func (FuncData.mk (Str.ofString "b2a_base64") (Str.ofString "b2a_base64") a9 (FuncBody.stmts b9) s9 3 [] Value.none (Value.ref 68) Value.none (Value.str (Str.ofString "binascii") 243) none (Value.ref 74) Value.none 0)) #[])) ::
  (nat_lit 76, (Obj.mk (Value.type "tuple") none (Data.seq (List.toArray [Value.none]) 0) #[])) ::
  (nat_lit 77, (Obj.mk (Value.type "tuple") none (Data.seq #[] 0) #[])) ::
  (nat_lit 79, (Obj.mk (Value.type "tuple") none (Data.seq (List.toArray [(Value.str (Str.ofString "s") 282), (Value.str (Str.ofString "altchars") 283), (Value.str (Str.ofString "encoded") 284)]) 0) #[])) ::
  (nat_lit 80, (Obj.mk (Value.type "tuple") none (Data.seq #[] 0) #[])) ::
  (nat_lit 82, (Obj.mk (Value.type "code") none (Data.fields (List.toArray ((Value.str (Str.ofString "b64encode") 279) :: (Value.str (Str.ofString "b64encode") 280) :: (Value.str (Str.ofString "/claim/cut.py") 281) :: (Value.int 63 0) :: (Value.int 2 0) :: (Value.int 0 0) :: (Value.int 0 0) :: (Value.int 3 0) :: (Value.ref 77) :: (Value.bool Bool.true) :: (Value.int 181 0) :: (Value.ref 78) :: Value.none :: (Value.ref 79) :: (Value.ref 80) :: (Value.ref 81) :: (Value.int 285 0) :: (Value.int 63 0) :: (Value.str (Str.ofString "/claim/cut.py") 286) :: []))) #[])) ::
  (nat_lit 83, (Obj.mk (Value.type "function") none (Data.func (FuncData.mk (Str.ofString "b64encode") (Str.ofString "b64encode") a11 (FuncBody.stmts b11) s11 3 [] (Value.ref 76) Value.none Value.none (Value.str (Str.ofString "cpy313.base64") 277) none (Value.ref 82) Value.none 0)) #[])) ::
  (nat_lit 84, (Obj.mk (Value.type "tuple") none (Data.seq #[] 0) #[])) ::
  (nat_lit 86, (Obj.mk (Value.type "tuple") none (Data.seq (List.toArray [(Value.str (Str.ofString "mode") 293)]) 0) #[])) ::
  (nat_lit 87, (Obj.mk (Value.type "tuple") none (Data.seq #[] 0) #[])) ::
  (nat_lit 89, (Obj.mk (Value.type "code") none (Data.fields (List.toArray ((Value.str (Str.ofString "S_IFMT") 290) :: (Value.str (Str.ofString "S_IFMT") 291) :: (Value.str (Str.ofString "/claim/cut.py") 292) :: (Value.int 70 0) :: (Value.int 1 0) :: (Value.int 0 0) :: (Value.int 0 0) :: (Value.int 3 0) :: (Value.ref 84) :: (Value.bool Bool.true) :: (Value.int 181 0) :: (Value.ref 85) :: Value.none :: (Value.ref 86) :: (Value.ref 87) :: (Value.ref 88) :: (Value.int 294 0) :: (Value.int 70 0) :: (Value.str (Str.ofString "/claim/cut.py") 295) :: []))) #[])) ::
  (nat_lit 90, (Obj.mk (Value.type "function") none (Data.func (FuncData.mk (Str.ofString "S_IFMT") (Str.ofString "S_IFMT") a13 (FuncBody.stmts b13) s13 3 [] Value.none Value.none Value.none (Value.str (Str.ofString "cpy313.stat") 288) none (Value.ref 89) Value.none 0)) #[])) ::
  (nat_lit 91, (Obj.mk (Value.type "tuple") none (Data.seq (List.toArray [(Value.int 40960 307), (Value.str (Str.ofString "l") 335)]) 0) #[])) ::
  (nat_lit 92, (Obj.mk (Value.type "tuple") none (Data.seq (List.toArray [(Value.int 49152 309), (Value.str (Str.ofString "s") 336)]) 0) #[])) ::
  (nat_lit 93, (Obj.mk (Value.type "tuple") none (Data.seq (List.toArray [(Value.int 32768 303), (Value.str (Str.ofString "-") 337)]) 0) #[])) ::
  (nat_lit 94, (Obj.mk (Value.type "tuple") none (Data.seq (List.toArray [(Value.int 24576 301), (Value.str (Str.ofString "b") 338)]) 0) #[])) ::
  (nat_lit 95, (Obj.mk (Value.type "tuple") none (Data.seq (List.toArray [(Value.int 16384 297), (Value.str (Str.ofString "d") 339)]) 0) #[])) ::
  (nat_lit 96, (Obj.mk (Value.type "tuple") none (Data.seq (List.toArray [(Value.int 8192 299), (Value.str (Str.ofString "c") 340)]) 0) #[])) ::
  (nat_lit 97, (Obj.mk (Value.type "tuple") none (Data.seq (List.toArray [(Value.int 4096 305), (Value.str (Str.ofString "p") 341)]) 0) #[])) ::
  (nat_lit 98, (Obj.mk (Value.type "tuple") none (Data.seq (List.toArray [(Value.ref 91), (Value.ref 92), (Value.ref 93), (Value.ref 94), (Value.ref 95), (Value.ref 96), (Value.ref 97)]) 0) #[])) ::
  (nat_lit 99, (Obj.mk (Value.type "tuple") none (Data.seq (List.toArray [(Value.int 256 317), (Value.str (Str.ofString "r") 342)]) 0) #[])) ::
  (nat_lit 100, (Obj.mk (Value.type "tuple") none (Data.seq (List.toArray [(Value.ref 99)]) 0) #[])) ::
  (nat_lit 101, (Obj.mk (Value.type "tuple") none (Data.seq (List.toArray [(Value.int 128 319), (Value.str (Str.ofString "w") 343)]) 0) #[])) ::
  (nat_lit 102, (Obj.mk (Value.type "tuple") none (Data.seq (List.toArray [(Value.ref 101)]) 0) #[])) ::
  (nat_lit 103, (Obj.mk (Value.type "tuple") none (Data.seq (List.toArray [(Value.int 2112 344), (Value.str (Str.ofString "s") 345)]) 0) #[])) ::
  (nat_lit 104, (Obj.mk (Value.type "tuple") none (Data.seq (List.toArray [(Value.int 2048 311), (Value.str (Str.ofString "S") 346)]) 0) #[])) ::
  (nat_lit 105, (Obj.mk (Value.type "tuple") none (Data.seq (List.toArray [(Value.int 64 321), (Value.str (Str.ofString "x") 347)]) 0) #[])) ::
  (nat_lit 106, (Obj.mk (Value.type "tuple") none (Data.seq (List.toArray [(Value.ref 103), (Value.ref 104), (Value.ref 105)]) 0) #[])) ::
  (nat_lit 107, (Obj.mk (Value.type "tuple") none (Data.seq (List.toArray [(Value.int 32 323), (Value.str (Str.ofString "r") 348)]) 0) #[])) ::
  (nat_lit 108, (Obj.mk (Value.type "tuple") none (Data.seq (List.toArray [(Value.ref 107)]) 0) #[])) ::
  (nat_lit 109, (Obj.mk (Value.type "tuple") none (Data.seq (List.toArray [(Value.int 16 325), (Value.str (Str.ofString "w") 349)]) 0) #[])) ::
  (nat_lit 110, (Obj.mk (Value.type "tuple") none (Data.seq (List.toArray [(Value.ref 109)]) 0) #[])) ::
  (nat_lit 111, (Obj.mk (Value.type "tuple") none (Data.seq (List.toArray [(Value.int 1032 350), (Value.str (Str.ofString "s") 351)]) 0) #[])) ::
  (nat_lit 112, (Obj.mk (Value.type "tuple") none (Data.seq (List.toArray [(Value.int 1024 313), (Value.str (Str.ofString "S") 352)]) 0) #[])) ::
  (nat_lit 113, (Obj.mk (Value.type "tuple") none (Data.seq (List.toArray [(Value.int 8 327), (Value.str (Str.ofString "x") 353)]) 0) #[])) ::
  (nat_lit 114, (Obj.mk (Value.type "tuple") none (Data.seq (List.toArray [(Value.ref 111), (Value.ref 112), (Value.ref 113)]) 0) #[])) ::
  (nat_lit 115, (Obj.mk (Value.type "tuple") none (Data.seq (List.toArray [(Value.int 4 329), (Value.str (Str.ofString "r") 354)]) 0) #[])) ::
  (nat_lit 116, (Obj.mk (Value.type "tuple") none (Data.seq (List.toArray [(Value.ref 115)]) 0) #[])) ::
  (nat_lit 117, (Obj.mk (Value.type "tuple") none (Data.seq (List.toArray [(Value.int 2 331), (Value.str (Str.ofString "w") 355)]) 0) #[])) ::
  (nat_lit 118, (Obj.mk (Value.type "tuple") none (Data.seq (List.toArray [(Value.ref 117)]) 0) #[])) ::
  (nat_lit 119, (Obj.mk (Value.type "tuple") none (Data.seq (List.toArray [(Value.int 513 356), (Value.str (Str.ofString "t") 357)]) 0) #[])) ::
  (nat_lit 120, (Obj.mk (Value.type "tuple") none (Data.seq (List.toArray [(Value.int 512 315), (Value.str (Str.ofString "T") 358)]) 0) #[])) ::
  (nat_lit 121, (Obj.mk (Value.type "tuple") none (Data.seq (List.toArray [(Value.int 1 333), (Value.str (Str.ofString "x") 359)]) 0) #[])) ::
  (nat_lit 122, (Obj.mk (Value.type "tuple") none (Data.seq (List.toArray [(Value.ref 119), (Value.ref 120), (Value.ref 121)]) 0) #[])) ::
  (nat_lit 123, (Obj.mk (Value.type "tuple") none (Data.seq (List.toArray ((Value.ref 98) :: (Value.ref 100) :: (Value.ref 102) :: (Value.ref 106) :: (Value.ref 108) :: (Value.ref 110) :: (Value.ref 114) :: (Value.ref 116) :: (Value.ref 118) :: (Value.ref 122) :: [])) 0) #[])) ::
  (nat_lit 124, (Obj.mk (Value.type "tuple") none (Data.seq #[] 0) #[])) ::
  (nat_lit 126, (Obj.mk (Value.type "tuple") none (Data.seq (List.toArray [(Value.str (Str.ofString "mode") 364), (Value.str (Str.ofString "perm") 365), (Value.str (Str.ofString "index") 366), (Value.str (Str.ofString "table") 367), (Value.str (Str.ofString "bit") 368), (Value.str (Str.ofString "char") 369)]) 0) #[])) ::
  (nat_lit 127, (Obj.mk (Value.type "tuple") none (Data.seq #[] 0) #[])) ::
  (nat_lit 129, (Obj.mk (Value.type "code") none (Data.fields (List.toArray ((Value.str (Str.ofString "filemode") 361) :: (Value.str (Str.ofString "filemode") 362) :: (Value.str (Str.ofString "/claim/cut.py") 363) :: (Value.int 92 0) :: (Value.int 1 0) :: (Value.int 0 0) :: (Value.int 0 0) :: (Value.int 3 0) :: (Value.ref 124) :: (Value.bool Bool.true) :: (Value.int 181 0) :: (Value.ref 125) :: Value.none :: (Value.ref 126) :: (Value.ref 127) :: (Value.ref 128) :: (Value.int 370 0) :: (Value.int 92 0) :: (Value.str (Str.ofString "/claim/cut.py") 371) :: []))) #[])) ::
  (nat_lit 130, (Obj.mk (Value.type "function") none (Data.func (FuncData.mk (Str.ofString "filemode") (Str.ofString "filemode") a34 (FuncBody.stmts b34) s34 3 [] Value.none Value.none Value.none (Value.str (Str.ofString "cpy313.stat") 288) none (Value.ref 129) Value.none 0)) #[])) ::
  (nat_lit 131, (Obj.mk (Value.type "tuple") none (Data.seq #[] 0) #[])) ::
  (nat_lit 133, (Obj.mk (Value.type "tuple") none (Data.seq #[] 0) #[])) ::
  (nat_lit 134, (Obj.mk (Value.type "tuple") none (Data.seq #[] 0) #[])) ::
  (nat_lit 136, (Obj.mk (Value.type "code") none (Data.fields (List.toArray ((Value.str (Str.ofString "_law_places") 375) :: (Value.str (Str.ofString "_law_places") 376) :: (Value.str (Str.ofString "/claim/cut.py") 377) :: (Value.int 110 0) :: (Value.int 0 0) :: (Value.int 0 0) :: (Value.int 0 0) :: (Value.int 3 0) :: (Value.ref 131) :: (Value.bool Bool.true) :: (Value.int 181 0) :: (Value.ref 132) :: Value.none :: (Value.ref 133) :: (Value.ref 134) :: (Value.ref 135) :: (Value.int 378 0) :: (Value.int 110 0) :: (Value.str (Str.ofString "/claim/cut.py") 379) :: []))) #[])) ::
  (nat_lit 137, (Obj.mk (Value.type "function") none (Data.func (FuncData.mk (Str.ofString "_law_places") (Str.ofString "_law_places") a36 (FuncBody.stmts b36) s36 3 [] Value.none Value.none Value.none (Value.str (Str.ofString "law_op0037_01") 373) none (Value.ref 136) Value.none 0)) #[])) ::
  (nat_lit 138, (Obj.mk (Value.type "tuple") none (Data.seq #[] 0) #[])) ::
  (nat_lit 141, (Obj.mk (Value.type "code") none (Data.fields (List.toArray ((Value.str (Str.ofString "_law_word") 381) :: (Value.str (Str.ofString "_law_word") 382) :: (Value.str (Str.ofString "/claim/cut.py") 383) :: (Value.int 112 0) :: (Value.int 1 0) :: (Value.int 0 0) :: (Value.int 0 0) :: (Value.int 3 0) :: (Value.ref 138) :: (Value.bool Bool.true) :: (Value.int 181 0) :: (Value.ref 139) :: Value.none :: Value.none :: Value.none :: (Value.ref 140) :: (Value.int 384 0) :: (Value.int 112 0) :: (Value.str (Str.ofString "/claim/cut.py") 385) :: []))) #[])) ::
  (nat_lit 142, (Obj.mk (Value.type "function") none (Data.func (FuncData.mk (Str.ofString "_law_word") (Str.ofString "_law_word") a37 (FuncBody.stmts b37) s37 3 [] Value.none Value.none Value.none (Value.str (Str.ofString "law_op0037_01") 373) none (Value.ref 141) Value.none 0)) #[])) ::
  (nat_lit 143, (Obj.mk (Value.type "tuple") none (Data.seq #[] 0) #[])) ::
  (nat_lit 145, (Obj.mk (Value.type "tuple") none (Data.seq (List.toArray [(Value.str (Str.ofString "place") 390)]) 0) #[])) ::
  (nat_lit 146, (Obj.mk (Value.type "tuple") none (Data.seq #[] 0) #[])) ::
  (nat_lit 148, (Obj.mk (Value.type "code") none (Data.fields (List.toArray ((Value.str (Str.ofString "_law_weight") 387) :: (Value.str (Str.ofString "_law_weight") 388) :: (Value.str (Str.ofString "/claim/cut.py") 389) :: (Value.int 119 0) :: (Value.int 1 0) :: (Value.int 0 0) :: (Value.int 0 0) :: (Value.int 3 0) :: (Value.ref 143) :: (Value.bool Bool.true) :: (Value.int 181 0) :: (Value.ref 144) :: Value.none :: (Value.ref 145) :: (Value.ref 146) :: (Value.ref 147) :: (Value.int 391 0) :: (Value.int 119 0) :: (Value.str (Str.ofString "/claim/cut.py") 392) :: []))) #[])) ::
  (nat_lit 149, (Obj.mk (Value.type "function") none (Data.func (FuncData.mk (Str.ofString "_law_weight") (Str.ofString "_law_weight") a38 (FuncBody.stmts b38) s38 3 [] Value.none Value.none Value.none (Value.str (Str.ofString "law_op0037_01") 373) none (Value.ref 148) Value.none 0)) #[])) ::
  (nat_lit 150, (Obj.mk (Value.type "tuple") none (Data.seq #[] 0) #[])) ::
  (nat_lit 152, (Obj.mk (Value.type "tuple") none (Data.seq (List.toArray [(Value.str (Str.ofString "mode") 397), (Value.str (Str.ofString "place") 398)]) 0) #[])) ::
  (nat_lit 153, (Obj.mk (Value.type "tuple") none (Data.seq #[] 0) #[])) ::
  (nat_lit 155, (Obj.mk (Value.type "code") none (Data.fields (List.toArray ((Value.str (Str.ofString "_law_turned") 394) :: (Value.str (Str.ofString "_law_turned") 395) :: (Value.str (Str.ofString "/claim/cut.py") 396) :: (Value.int 121 0) :: (Value.int 2 0) :: (Value.int 0 0) :: (Value.int 0 0) :: (Value.int 3 0) :: (Value.ref 150) :: (Value.bool Bool.true) :: (Value.int 181 0) :: (Value.ref 151) :: Value.none :: (Value.ref 152) :: (Value.ref 153) :: (Value.ref 154) :: (Value.int 399 0) :: (Value.int 121 0) :: (Value.str (Str.ofString "/claim/cut.py") 400) :: []))) #[])) ::
  (nat_lit 156, (Obj.mk (Value.type "function") none (Data.func (FuncData.mk (Str.ofString "_law_turned") (Str.ofString "_law_turned") a39 (FuncBody.stmts b39) s39 3 [] Value.none Value.none Value.none (Value.str (Str.ofString "law_op0037_01") 373) none (Value.ref 155) Value.none 0)) #[])) ::
  (nat_lit 157, (Obj.mk (Value.type "tuple") none (Data.seq #[] 0) #[])) ::
  (nat_lit 159, (Obj.mk (Value.type "tuple") none (Data.seq (List.toArray [(Value.str (Str.ofString "mode") 405), (Value.str (Str.ofString "listing") 406), (Value.str (Str.ofString "above") 407), (Value.str (Str.ofString "plain") 408), (Value.str (Str.ofString "k") 409), (Value.str (Str.ofString "ends") 410), (Value.str (Str.ofString "figures") 411)]) 0) #[])) ::
  (nat_lit 160, (Obj.mk (Value.type "tuple") none (Data.seq #[] 0) #[])) ::
  (nat_lit 162, (Obj.mk (Value.type "code") none (Data.fields (List.toArray ((Value.str (Str.ofString "_law_rights") 402) :: (Value.str (Str.ofString "_law_rights") 403) :: (Value.str (Str.ofString "/claim/cut.py") 404) :: (Value.int 123 0) :: (Value.int 1 0) :: (Value.int 0 0) :: (Value.int 0 0) :: (Value.int 3 0) :: (Value.ref 157) :: (Value.bool Bool.true) :: (Value.int 181 0) :: (Value.ref 158) :: Value.none :: (Value.ref 159) :: (Value.ref 160) :: (Value.ref 161) :: (Value.int 412 0) :: (Value.int 123 0) :: (Value.str (Str.ofString "/claim/cut.py") 413) :: []))) #[])) ::
  (nat_lit 163, (Obj.mk (Value.type "function") none (Data.func (FuncData.mk (Str.ofString "_law_rights") (Str.ofString "_law_rights") a40 (FuncBody.stmts b40) s40 3 [] Value.none Value.none Value.none (Value.str (Str.ofString "law_op0037_01") 373) none (Value.ref 162) Value.none 0)) #[])) ::
  (nat_lit 164, (Obj.mk (Value.type "tuple") none (Data.seq #[] 0) #[])) ::
  (nat_lit 166, (Obj.mk (Value.type "tuple") none (Data.seq (List.toArray [(Value.str (Str.ofString "reply") 418), (Value.str (Str.ofString "error") 419)]) 0) #[])) ::
  (nat_lit 167, (Obj.mk (Value.type "tuple") none (Data.seq #[] 0) #[])) ::
  (nat_lit 169, (Obj.mk (Value.type "code") none (Data.fields (List.toArray ((Value.str (Str.ofString "_law_told") 415) :: (Value.str (Str.ofString "_law_told") 416) :: (Value.str (Str.ofString "/claim/cut.py") 417) :: (Value.int 135 0) :: (Value.int 1 0) :: (Value.int 0 0) :: (Value.int 0 0) :: (Value.int 3 0) :: (Value.ref 164) :: (Value.bool Bool.true) :: (Value.int 181 0) :: (Value.ref 165) :: Value.none :: (Value.ref 166) :: (Value.ref 167) :: (Value.ref 168) :: (Value.int 420 0) :: (Value.int 135 0) :: (Value.str (Str.ofString "/claim/cut.py") 421) :: []))) #[])) ::
  (nat_lit 170, (Obj.mk (Value.type "function") none (Data.func (FuncData.mk (Str.ofString "_law_told") (Str.ofString "_law_told") a41 (FuncBody.stmts b41) s41 3 [] Value.none Value.none Value.none (Value.str (Str.ofString "law_op0037_01") 373) none (Value.ref 169) Value.none 0)) #[])) ::
  (nat_lit 171, (Obj.mk (Value.type "tuple") none (Data.seq #[] 0) #[])) ::
  (nat_lit 174, (Obj.mk (Value.type "code") none (Data.fields (List.toArray ((Value.str (Str.ofString "_law_odd") 423) :: (Value.str (Str.ofString "_law_odd") 424) :: (Value.str (Str.ofString "/claim/cut.py") 425) :: (Value.int 140 0) :: (Value.int 2 0) :: (Value.int 0 0) :: (Value.int 0 0) :: (Value.int 3 0) :: (Value.ref 171) :: (Value.bool Bool.true) :: (Value.int 181 0) :: (Value.ref 172) :: Value.none :: Value.none :: Value.none :: (Value.ref 173) :: (Value.int 426 0) :: (Value.int 140 0) :: (Value.str (Str.ofString "/claim/cut.py") 427) :: []))) #[])) ::
  (nat_lit 175, (Obj.mk (Value.type "function") none (Data.func (FuncData.mk (Str.ofString "_law_odd") (Str.ofString "_law_odd") a42 (FuncBody.stmts b42) s42 3 [] Value.none Value.none Value.none (Value.str (Str.ofString "law_op0037_01") 373) none (Value.ref 174) Value.none 0)) #[])) ::
  (nat_lit 176, (Obj.mk (Value.type "tuple") none (Data.seq #[] 0) #[])) ::
  (nat_lit 179, (Obj.mk (Value.type "code") none (Data.fields (List.toArray ((Value.str (Str.ofString "_law_heard") 429) :: (Value.str (Str.ofString "_law_heard") 430) :: (Value.str (Str.ofString "/claim/cut.py") 431) :: (Value.int 155 0) :: (Value.int 1 0) :: (Value.int 0 0) :: (Value.int 0 0) :: (Value.int 3 0) :: (Value.ref 176) :: (Value.bool Bool.true) :: (Value.int 181 0) :: (Value.ref 177) :: Value.none :: Value.none :: Value.none :: (Value.ref 178) :: (Value.int 432 0) :: (Value.int 155 0) :: (Value.str (Str.ofString "/claim/cut.py") 433) :: []))) #[])) ::
  (nat_lit 180, (Obj.mk (Value.type "function") none (Data.func (FuncData.mk (Str.ofString "_law_heard") (Str.ofString "_law_heard") a43 (FuncBody.stmts b43) s43 3 [] Value.none Value.none Value.none (Value.str (Str.ofString "law_op0037_01") 373) none (Value.ref 179) Value.none 0)) #[])) ::
  (nat_lit 181, (Obj.mk (Value.type "tuple") none (Data.seq #[] 0) #[])) ::
  (nat_lit 184, (Obj.mk (Value.type "code") none (Data.fields (List.toArray ((Value.str (Str.ofString "_law_written") 435) :: (Value.str (Str.ofString "_law_written") 436) :: (Value.str (Str.ofString "/claim/cut.py") 437) :: (Value.int 169 0) :: (Value.int 1 0) :: (Value.int 0 0) :: (Value.int 0 0) :: (Value.int 3 0) :: (Value.ref 181) :: (Value.bool Bool.true) :: (Value.int 181 0) :: (Value.ref 182) :: Value.none :: Value.none :: Value.none :: (Value.ref 183) :: (Value.int 438 0) :: (Value.int 169 0) :: (Value.str (Str.ofString "/claim/cut.py") 439) :: []))) #[])) ::
  (nat_lit 185, (Obj.mk (Value.type "function") none (Data.func (FuncData.mk (Str.ofString "_law_written") (Str.ofString "_law_written") a44 (FuncBody.stmts b44) s44 3 [] Value.none Value.none Value.none (Value.str (Str.ofString "law_op0037_01") 373) none (Value.ref 184) Value.none 0)) #[])) ::
  (nat_lit 186, (Obj.mk (Value.type "tuple") none (Data.seq #[] 0) #[])) ::
  (nat_lit 189, (Obj.mk (Value.type "code") none (Data.fields (List.toArray ((Value.str (Str.ofString "law") 441) :: (Value.str (Str.ofString "law") 442) :: (Value.str (Str.ofString "/claim/cut.py") 443) :: (Value.int 177 0) :: (Value.int 1 0) :: (Value.int 0 0) :: (Value.int 0 0) :: (Value.int 3 0) :: (Value.ref 186) :: (Value.bool Bool.true) :: (Value.int 181 0) :: (Value.ref 187) :: Value.none :: Value.none :: Value.none :: (Value.ref 188) :: (Value.int 444 0) :: (Value.int 177 0) :: (Value.str (Str.ofString "/claim/cut.py") 445) :: []))) #[])) ::
  (nat_lit 190, (Obj.mk (Value.type "function") none (Data.func (FuncData.mk (Str.ofString "law") (Str.ofString "law") a45 (FuncBody.stmts b45) s45 3 [] Value.none Value.none Value.none (Value.str (Str.ofString "law_op0037_01") 373) none (Value.ref 189) Value.none 0)) #[])) :: [] : Frag)) _ ?_ _ ?_ _ ?_ _ ?_ _ ?_ _ ?_ _ ?_ _ ?_ _ ?_ _ ?_ _ ?_ _ ?_ _ ?_ _ ?_ _ ?_ _ ?_ _ ?_ _ ?_ _ ?_ _ ?_ _ ?_ _ ?_ _ ?_ _ ?_ _ ?_ _ ?_ _ ?_ _ ?_ _ ?_ _ ?_ _ ?_ _ ?_ _ ?_ _ ?_ _ ?_ _ ?_ _ ?_ _ ?_ _ ?_ _ ?_ _ ?_ _ ?_ _ ?_ _ ?_ _ ?_ _ ?_ _ ?_ _ ?_ _ ?_ _ ?_ _ ?_ _ ?_ _ ?_ _ ?_
  all_goals (try (conv => arg 2; whnf))
  all_goals (try exact Lits.mk)
noncomputable abbrev hdAs : List Addr := nat_lit 2 :: nat_lit 3 :: nat_lit 15 :: nat_lit 17 :: nat_lit 18 :: nat_lit 20 :: nat_lit 21 :: nat_lit 22 :: nat_lit 29 :: nat_lit 30 :: nat_lit 31 :: nat_lit 32 :: nat_lit 35 :: nat_lit 42 :: nat_lit 43 :: nat_lit 44 :: nat_lit 47 :: nat_lit 49 :: nat_lit 50 :: nat_lit 52 :: nat_lit 53 :: nat_lit 54 :: nat_lit 56 :: nat_lit 57 :: nat_lit 59 :: nat_lit 60 :: nat_lit 61 :: nat_lit 63 :: nat_lit 64 :: nat_lit 66 :: nat_lit 67 :: nat_lit 68 :: nat_lit 69 :: nat_lit 71 :: nat_lit 72 :: nat_lit 74 :: nat_lit 75 :: nat_lit 76 :: nat_lit 77 :: nat_lit 79 :: nat_lit 80 :: nat_lit 82 :: nat_lit 83 :: nat_lit 84 :: nat_lit 86 :: nat_lit 87 :: nat_lit 89 :: nat_lit 90 :: nat_lit 91 :: nat_lit 92 :: nat_lit 93 :: nat_lit 94 :: nat_lit 95 :: nat_lit 96 :: nat_lit 97 :: nat_lit 98 :: nat_lit 99 :: nat_lit 100 :: nat_lit 101 :: nat_lit 102 :: nat_lit 103 :: nat_lit 104 :: nat_lit 105 :: nat_lit 106 :: nat_lit 107 :: nat_lit 108 :: nat_lit 109 :: nat_lit 110 :: nat_lit 111 :: nat_lit 112 :: nat_lit 113 :: nat_lit 114 :: nat_lit 115 :: nat_lit 116 :: nat_lit 117 :: nat_lit 118 :: nat_lit 119 :: nat_lit 120 :: nat_lit 121 :: nat_lit 122 :: nat_lit 123 :: nat_lit 124 :: nat_lit 126 :: nat_lit 127 :: nat_lit 129 :: nat_lit 130 :: nat_lit 131 :: nat_lit 133 :: nat_lit 134 :: nat_lit 136 :: nat_lit 137 :: nat_lit 138 :: nat_lit 141 :: nat_lit 142 :: nat_lit 143 :: nat_lit 145 :: nat_lit 146 :: nat_lit 148 :: nat_lit 149 :: nat_lit 150 :: nat_lit 152 :: nat_lit 153 :: nat_lit 155 :: nat_lit 156 :: nat_lit 157 :: nat_lit 159 :: nat_lit 160 :: nat_lit 162 :: nat_lit 163 :: nat_lit 164 :: nat_lit 166 :: nat_lit 167 :: nat_lit 169 :: nat_lit 170 :: nat_lit 171 :: nat_lit 174 :: nat_lit 175 :: nat_lit 176 :: nat_lit 179 :: nat_lit 180 :: nat_lit 181 :: nat_lit 184 :: nat_lit 185 :: nat_lit 186 :: nat_lit 189 :: nat_lit 190 :: []
theorem hdE : ∀ P, hdAs = (hd.heap_39 P).map (·.1) := fun _ => by kernel_rfl
theorem rowSaid : PySem.Challenge.rw_op0037_01.row.wellSaid = true := by
  unfold OpenRow.wellSaid OpenRow.partSaid looksOpen
  repeat' with_reducible refine look_both ?_ ?_
  all_goals decide +kernel
theorem lawSaid : PySem.Challenge.rw_op0037_01.wellSaid = true := by
  unfold OpenLaw.wellSaid
  repeat' with_reducible refine look_both ?_ ?_
  · exact rowSaid
  all_goals decide +kernel
noncomputable def hLife : Life := (Life.mk [] [] [] 0 [] [] Bool.false (Array.mk []) [] 0 Bool.false Bool.false Bool.false 0 (2000 :: 10 :: 10 :: []) Bool.false 0 Bool.true [] [] 0 Bool.false)
noncomputable def hDrawn : Drawn := (Drawn.mk 0 0 0 0)
noncomputable def hAnn : Option Value := (some (Value.ref 6))
noncomputable def hEnv : Env := { scope := (PySem.Challenge.rw_op0037_01.row.prog).main.scope, locals := mainNs, globals := mainNs, cells := [], code := (Value.ref 13), frame := some 14 }
noncomputable abbrev hQ : Pos := (Pos.mk 0 0 0 0)
noncomputable def hB : List Stmt := behindTheImports PySem.Challenge.rw_op0037_01.row.prog
noncomputable def hC : Code := .body hB hEnv
noncomputable def ob11_a (P : Params) : Obj := (Obj.mk (Value.type "tuple") none (Data.seq (Array.mk []) 0) (Array.mk []))
noncomputable def ob12_a (P : Params) : Obj := (Obj.mk Value.none none (Data.fields (Array.mk [])) (Array.mk []))
noncomputable def ob13_a (P : Params) : Obj := (Obj.mk (Value.type "code") none (Data.fields (Array.mk ((Value.str (Str.ofString "<module>") 182) :: (Value.str (Str.ofString "<module>") 183) :: (Value.str (Str.ofString "/claim/cut.py") 184) :: (Value.int 1 0) :: (Value.int 0 0) :: (Value.int 0 0) :: (Value.int 0 0) :: (Value.int 0 0) :: (Value.ref 11) :: (Value.bool Bool.false) :: (Value.int 181 0) :: (Value.ref 12) :: Value.none :: Value.none :: Value.none :: Value.none :: (Value.int 185 0) :: (Value.int 1 0) :: (Value.str (Str.ofString "/claim/cut.py") 186) :: []))) (Array.mk []))
noncomputable def ob14_a (P : Params) : Obj := (Obj.mk (Value.type "frame") none Data.plain (Array.mk ((some (Value.ref 13)) :: (some (Value.ref 3)) :: (some (Value.ref 3)) :: none :: (some (Value.str (Str.ofString "__main__") 164)) :: none :: (some (Value.ref 0)) :: [])))
noncomputable def hHa (P : Params) : Heap := ⟨⟨boot_o_0 P :: boot_o_1 P :: boot_o_2 P :: boot_o_3 P :: boot_o_4 P :: boot_o_5 P :: boot_o_6 P :: boot_o_7 P :: boot_o_8 P :: boot_o_9 P :: boot_o_10 P :: ob11_a P :: ob12_a P :: ob13_a P :: ob14_a P :: []⟩, hLife⟩

noncomputable def hT0 (P : Params) : BT := (.node (boot_o_0 P) (.node (boot_o_1 P) (.node (boot_o_3 P) (.node (boot_o_7 P) .nil .nil) (.node (ob11_a P) .nil .nil)) (.node (boot_o_5 P) (.node (boot_o_9 P) .nil .nil) (.node (ob13_a P) .nil .nil))) (.node (boot_o_2 P) (.node (boot_o_4 P) (.node (boot_o_8 P) .nil .nil) (.node (ob12_a P) .nil .nil)) (.node (boot_o_6 P) (.node (boot_o_10 P) .nil .nil) (.node (ob14_a P) .nil .nil))))
noncomputable def ob2_1 (P : Params) : Obj := (Obj.mk Value.none none (Data.dict (Array.mk ((DictEntry.mk (PyData.keyHash P (Str.ofString "type.__subclasses__.Exception.0")) (Value.str (Str.ofString "type.__subclasses__.Exception.0") 212) (Value.int 31 0)) :: (DictEntry.mk (PyData.keyHash P (Str.ofString "type.__subclasses__.Exception.n")) (Value.str (Str.ofString "type.__subclasses__.Exception.n") 213) (Value.int 1 0)) :: [])) 2) (Array.mk []))
noncomputable def ob3_1 (P : Params) : Obj := (Obj.mk (Value.type "dict") none (Data.dict (Array.mk ((DictEntry.mk (PyData.keyHash P (Str.ofString "__name__")) (Value.str (Str.ofString "__name__") 165) (Value.str (Str.ofString "cpy313.ftplib") 194)) :: (DictEntry.mk (PyData.keyHash P (Str.ofString "__doc__")) (Value.str (Str.ofString "__doc__") 166) Value.none) :: (DictEntry.mk (PyData.keyHash P (Str.ofString "__package__")) (Value.str (Str.ofString "__package__") 167) Value.none) :: (DictEntry.mk (PyData.keyHash P (Str.ofString "__loader__")) (Value.str (Str.ofString "__loader__") 168) (Value.builtin "__main__.__loader__#opaque")) :: (DictEntry.mk (PyData.keyHash P (Str.ofString "__spec__")) (Value.str (Str.ofString "__spec__") 169) Value.none) :: (DictEntry.mk (PyData.keyHash P (Str.ofString "__annotations__")) (Value.str (Str.ofString "__annotations__") 170) (Value.ref 6)) :: (DictEntry.mk (PyData.keyHash P (Str.ofString "__builtins__")) (Value.str (Str.ofString "__builtins__") 171) (Value.ref 4)) :: (DictEntry.mk (PyData.keyHash P (Str.ofString "__file__")) (Value.str (Str.ofString "__file__") 173) (Value.str (Str.ofString "/claim/cut.py") 172)) :: (DictEntry.mk (PyData.keyHash P (Str.ofString "__cached__")) (Value.str (Str.ofString "__cached__") 174) Value.none) :: (DictEntry.mk (PyData.keyHash P (Str.ofString "_wall")) (Value.str (Str.ofString "_wall") 193) (Value.ref 21)) :: (DictEntry.mk (PyData.keyHash P (Str.ofString "Error")) (Value.str (Str.ofString "Error") 215) (Value.ref 31)) :: [])) 11) (Array.mk []))
noncomputable def ob12_1 (P : Params) : Obj := (Obj.mk Value.none none (Data.fields (Array.mk ((Value.int 1 0) :: (Value.int 0 0) :: (Value.ref 20) :: (Value.int 5 0) :: (Value.int 0 0) :: (Value.ref 27) :: []))) (Array.mk []))
noncomputable def ob15_1 (P : Params) : Obj := (Obj.mk (Value.type "tuple") none (Data.seq (Array.mk []) 0) (Array.mk []))
noncomputable def ob16_1 (P : Params) : Obj := (Obj.mk Value.none none (Data.fields (Array.mk [])) (Array.mk []))
noncomputable def ob17_1 (P : Params) : Obj := (Obj.mk (Value.type "tuple") none (Data.seq (Array.mk ((Value.str (Str.ofString "k") 190) :: [])) 0) (Array.mk []))
noncomputable def ob18_1 (P : Params) : Obj := (Obj.mk (Value.type "tuple") none (Data.seq (Array.mk []) 0) (Array.mk []))
noncomputable def ob19_1 (P : Params) : Obj := (Obj.mk Value.none none (Data.func (FuncData.mk (Str.ofString "_wall") (Str.ofString "_wall") (fnA 0) (FuncBody.stmts (fnB 0)) (fnS 0) 0 [] Value.none Value.none Value.none Value.none none Value.none Value.none 0)) (Array.mk []))
noncomputable def ob20_1 (P : Params) : Obj := (Obj.mk (Value.type "code") none (Data.fields (Array.mk ((Value.str (Str.ofString "_wall") 187) :: (Value.str (Str.ofString "_wall") 188) :: (Value.str (Str.ofString "/claim/cut.py") 189) :: (Value.int 1 0) :: (Value.int 1 0) :: (Value.int 0 0) :: (Value.int 0 0) :: (Value.int 3 0) :: (Value.ref 15) :: (Value.bool Bool.true) :: (Value.int 181 0) :: (Value.ref 16) :: Value.none :: (Value.ref 17) :: (Value.ref 18) :: (Value.ref 19) :: (Value.int 191 0) :: (Value.int 1 0) :: (Value.str (Str.ofString "/claim/cut.py") 192) :: []))) (Array.mk []))
noncomputable def ob21_1 (P : Params) : Obj := (Obj.mk (Value.type "function") none (Data.func (FuncData.mk (Str.ofString "_wall") (Str.ofString "_wall") (fnA 0) (FuncBody.stmts (fnB 0)) (fnS 0) 3 [] Value.none Value.none Value.none (Value.str (Str.ofString "__main__") 164) none (Value.ref 20) Value.none 0)) (Array.mk []))
noncomputable def ob22_1 (P : Params) : Obj := (Obj.mk (Value.type "tuple") none (Data.seq (Array.mk ((Value.type "Exception") :: [])) 0) (Array.mk []))
noncomputable def ob23_1 (P : Params) : Obj := (Obj.mk (Value.type "builtin_function_or_method") none (Data.fields (Array.mk ((Value.builtin "type.__prepare__") :: (Value.type "type") :: []))) (Array.mk []))
noncomputable def ob24_1 (P : Params) : Obj := (Obj.mk (Value.type "dict") none (Data.dict (Array.mk ((DictEntry.mk (PyData.keyHash P (Str.ofString "__module__")) (Value.str (Str.ofString "__module__") 203) (Value.str (Str.ofString "cpy313.ftplib") 194)) :: (DictEntry.mk (PyData.keyHash P (Str.ofString "__qualname__")) (Value.str (Str.ofString "__qualname__") 205) (Value.str (Str.ofString "Error") 204)) :: (DictEntry.mk (PyData.keyHash P (Str.ofString "__firstlineno__")) (Value.str (Str.ofString "__firstlineno__") 207) (Value.int 5 206)) :: (DictEntry.mk (PyData.keyHash P (Str.ofString "__static_attributes__")) (Value.str (Str.ofString "__static_attributes__") 208) (Value.ref 29)) :: [])) 4) (Array.mk []))
noncomputable def ob25_1 (P : Params) : Obj := (Obj.mk (Value.type "tuple") none (Data.seq (Array.mk []) 0) (Array.mk []))
noncomputable def ob26_1 (P : Params) : Obj := (Obj.mk Value.none none (Data.fields (Array.mk [])) (Array.mk []))
noncomputable def ob27_1 (P : Params) : Obj := (Obj.mk (Value.type "code") none (Data.fields (Array.mk ((Value.str (Str.ofString "Error") 198) :: (Value.str (Str.ofString "Error") 199) :: (Value.str (Str.ofString "/claim/cut.py") 200) :: (Value.int 5 0) :: (Value.int 0 0) :: (Value.int 0 0) :: (Value.int 0 0) :: (Value.int 0 0) :: (Value.ref 25) :: (Value.bool Bool.false) :: (Value.int 181 0) :: (Value.ref 26) :: Value.none :: Value.none :: Value.none :: Value.none :: (Value.int 201 0) :: (Value.int 5 0) :: (Value.str (Str.ofString "/claim/cut.py") 202) :: []))) (Array.mk []))
noncomputable def ob28_1 (P : Params) : Obj := (Obj.mk (Value.type "frame") none Data.plain (Array.mk ((some (Value.ref 27)) :: (some (Value.ref 3)) :: (some (Value.ref 24)) :: none :: (some (Value.str (Str.ofString "cpy313.ftplib") 194)) :: none :: (some (Value.ref 0)) :: [])))
noncomputable def ob29_1 (P : Params) : Obj := (Obj.mk (Value.type "tuple") none (Data.seq (Array.mk []) 0) (Array.mk []))
noncomputable def ob30_1 (P : Params) : Obj := (Obj.mk (Value.type "dict") none (Data.dict (Array.mk ((DictEntry.mk (PyData.keyHash P (Str.ofString "__module__")) (Value.str (Str.ofString "__module__") 203) (Value.str (Str.ofString "cpy313.ftplib") 194)) :: (DictEntry.mk (PyData.keyHash P (Str.ofString "__firstlineno__")) (Value.str (Str.ofString "__firstlineno__") 207) (Value.int 5 206)) :: (DictEntry.mk (PyData.keyHash P (Str.ofString "__static_attributes__")) (Value.str (Str.ofString "__static_attributes__") 208) (Value.ref 29)) :: (DictEntry.mk (PyData.keyHash P (Str.ofString "__weakref__")) (Value.str (Str.ofString "__weakref__") 210) (Value.ref 32)) :: (DictEntry.mk (PyData.keyHash P (Str.ofString "__doc__")) (Value.str (Str.ofString "__doc__") 211) Value.none) :: [])) 3) (Array.mk []))
noncomputable def ob31_1 (P : Params) : Obj := (Obj.mk (Value.type "type") none (Data.cls (ClassData.mk (Str.ofString "Error") ((Value.type "Exception") :: []) ((Value.ref 31) :: (Value.type "Exception") :: (Value.type "BaseException") :: (Value.type "object") :: []) 30 (Str.ofString "Error") Bool.true [] [] Bool.false none Bool.false)) (Array.mk ((some (Value.ref 22)) :: none :: (some (Value.str (Str.ofString "Error") 196)) :: (some (Value.str (Str.ofString "Error") 204)) :: (some (Value.builtin "Exception.__new__")) :: (some (Value.bool Bool.true)) :: [])))
noncomputable def ob32_1 (P : Params) : Obj := (Obj.mk (Value.type "getset_descriptor") none (Data.fields (Array.mk ((Value.str (Str.ofString "__weakref__") 209) :: (Value.ref 31) :: (Value.builtin "ExceptionGroup.__weakref__") :: Value.none :: []))) (Array.mk []))
noncomputable def ob33_1 (P : Params) : Obj := (Obj.mk (Value.type "super") none (Data.fields (Array.mk ((Value.ref 31) :: (Value.ref 31) :: (Value.ref 31) :: []))) (Array.mk []))
noncomputable def ob34_1 (P : Params) : Obj := (Obj.mk (Value.type "builtin_function_or_method") none (Data.fields (Array.mk ((Value.builtin "object.__init_subclass__") :: (Value.ref 31) :: []))) (Array.mk []))
noncomputable def hT1 (P : Params) : BT := (.node (boot_o_0 P) (.node (boot_o_1 P) (.node (ob3_1 P) (.node (boot_o_7 P) (.node (ob15_1 P) (.node (ob31_1 P) .nil .nil) .nil) (.node (ob23_1 P) .nil .nil)) (.node (ob11_a P) (.node (ob19_1 P) .nil .nil) (.node (ob27_1 P) .nil .nil))) (.node (boot_o_5 P) (.node (boot_o_9 P) (.node (ob17_1 P) (.node (ob33_1 P) .nil .nil) .nil) (.node (ob25_1 P) .nil .nil)) (.node (ob13_a P) (.node (ob21_1 P) .nil .nil) (.node (ob29_1 P) .nil .nil)))) (.node (ob2_1 P) (.node (boot_o_4 P) (.node (boot_o_8 P) (.node (ob16_1 P) (.node (ob32_1 P) .nil .nil) .nil) (.node (ob24_1 P) .nil .nil)) (.node (ob12_1 P) (.node (ob20_1 P) .nil .nil) (.node (ob28_1 P) .nil .nil))) (.node (boot_o_6 P) (.node (boot_o_10 P) (.node (ob18_1 P) (.node (ob34_1 P) .nil .nil) .nil) (.node (ob26_1 P) .nil .nil)) (.node (ob14_a P) (.node (ob22_1 P) .nil .nil) (.node (ob30_1 P) .nil .nil)))))
noncomputable def ob3_2 (P : Params) : Obj := (Obj.mk (Value.type "dict") none (Data.dict (Array.mk ((DictEntry.mk (PyData.keyHash P (Str.ofString "__name__")) (Value.str (Str.ofString "__name__") 165) (Value.str (Str.ofString "cpy313.ftplib") 194)) :: (DictEntry.mk (PyData.keyHash P (Str.ofString "__doc__")) (Value.str (Str.ofString "__doc__") 166) Value.none) :: (DictEntry.mk (PyData.keyHash P (Str.ofString "__package__")) (Value.str (Str.ofString "__package__") 167) Value.none) :: (DictEntry.mk (PyData.keyHash P (Str.ofString "__loader__")) (Value.str (Str.ofString "__loader__") 168) (Value.builtin "__main__.__loader__#opaque")) :: (DictEntry.mk (PyData.keyHash P (Str.ofString "__spec__")) (Value.str (Str.ofString "__spec__") 169) Value.none) :: (DictEntry.mk (PyData.keyHash P (Str.ofString "__annotations__")) (Value.str (Str.ofString "__annotations__") 170) (Value.ref 6)) :: (DictEntry.mk (PyData.keyHash P (Str.ofString "__builtins__")) (Value.str (Str.ofString "__builtins__") 171) (Value.ref 4)) :: (DictEntry.mk (PyData.keyHash P (Str.ofString "__file__")) (Value.str (Str.ofString "__file__") 173) (Value.str (Str.ofString "/claim/cut.py") 172)) :: (DictEntry.mk (PyData.keyHash P (Str.ofString "__cached__")) (Value.str (Str.ofString "__cached__") 174) Value.none) :: (DictEntry.mk (PyData.keyHash P (Str.ofString "_wall")) (Value.str (Str.ofString "_wall") 193) (Value.ref 21)) :: (DictEntry.mk (PyData.keyHash P (Str.ofString "Error")) (Value.str (Str.ofString "Error") 215) (Value.ref 31)) :: (DictEntry.mk (PyData.keyHash P (Str.ofString "error_reply")) (Value.str (Str.ofString "error_reply") 231) (Value.ref 44)) :: [])) 12) (Array.mk []))
noncomputable def ob12_2 (P : Params) : Obj := (Obj.mk Value.none none (Data.fields (Array.mk ((Value.int 1 0) :: (Value.int 0 0) :: (Value.ref 20) :: (Value.int 5 0) :: (Value.int 0 0) :: (Value.ref 27) :: (Value.int 7 0) :: (Value.int 0 0) :: (Value.ref 40) :: []))) (Array.mk []))
noncomputable def ob31_2 (P : Params) : Obj := (Obj.mk (Value.type "type") none (Data.cls (ClassData.mk (Str.ofString "Error") ((Value.type "Exception") :: []) ((Value.ref 31) :: (Value.type "Exception") :: (Value.type "BaseException") :: (Value.type "object") :: []) 30 (Str.ofString "Error") Bool.true [] ((Value.ref 44) :: []) Bool.false none Bool.false)) (Array.mk ((some (Value.ref 22)) :: none :: (some (Value.str (Str.ofString "Error") 196)) :: (some (Value.str (Str.ofString "Error") 204)) :: (some (Value.builtin "Exception.__new__")) :: (some (Value.bool Bool.true)) :: [])))
noncomputable def ob35_2 (P : Params) : Obj := (Obj.mk (Value.type "tuple") none (Data.seq (Array.mk ((Value.ref 31) :: [])) 0) (Array.mk []))
noncomputable def ob36_2 (P : Params) : Obj := (Obj.mk (Value.type "builtin_function_or_method") none (Data.fields (Array.mk ((Value.builtin "type.__prepare__") :: (Value.type "type") :: []))) (Array.mk []))
noncomputable def ob37_2 (P : Params) : Obj := (Obj.mk (Value.type "dict") none (Data.dict (Array.mk ((DictEntry.mk (PyData.keyHash P (Str.ofString "__module__")) (Value.str (Str.ofString "__module__") 223) (Value.str (Str.ofString "cpy313.ftplib") 194)) :: (DictEntry.mk (PyData.keyHash P (Str.ofString "__qualname__")) (Value.str (Str.ofString "__qualname__") 225) (Value.str (Str.ofString "error_reply") 224)) :: (DictEntry.mk (PyData.keyHash P (Str.ofString "__firstlineno__")) (Value.str (Str.ofString "__firstlineno__") 227) (Value.int 7 226)) :: (DictEntry.mk (PyData.keyHash P (Str.ofString "__static_attributes__")) (Value.str (Str.ofString "__static_attributes__") 228) (Value.ref 42)) :: [])) 4) (Array.mk []))
noncomputable def ob38_2 (P : Params) : Obj := (Obj.mk (Value.type "tuple") none (Data.seq (Array.mk []) 0) (Array.mk []))
noncomputable def ob39_2 (P : Params) : Obj := (Obj.mk Value.none none (Data.fields (Array.mk [])) (Array.mk []))
noncomputable def ob40_2 (P : Params) : Obj := (Obj.mk (Value.type "code") none (Data.fields (Array.mk ((Value.str (Str.ofString "error_reply") 218) :: (Value.str (Str.ofString "error_reply") 219) :: (Value.str (Str.ofString "/claim/cut.py") 220) :: (Value.int 7 0) :: (Value.int 0 0) :: (Value.int 0 0) :: (Value.int 0 0) :: (Value.int 0 0) :: (Value.ref 38) :: (Value.bool Bool.false) :: (Value.int 181 0) :: (Value.ref 39) :: Value.none :: Value.none :: Value.none :: Value.none :: (Value.int 221 0) :: (Value.int 7 0) :: (Value.str (Str.ofString "/claim/cut.py") 222) :: []))) (Array.mk []))
noncomputable def ob41_2 (P : Params) : Obj := (Obj.mk (Value.type "frame") none Data.plain (Array.mk ((some (Value.ref 40)) :: (some (Value.ref 3)) :: (some (Value.ref 37)) :: none :: (some (Value.str (Str.ofString "cpy313.ftplib") 194)) :: none :: (some (Value.ref 0)) :: [])))
noncomputable def ob42_2 (P : Params) : Obj := (Obj.mk (Value.type "tuple") none (Data.seq (Array.mk []) 0) (Array.mk []))
noncomputable def ob43_2 (P : Params) : Obj := (Obj.mk (Value.type "dict") none (Data.dict (Array.mk ((DictEntry.mk (PyData.keyHash P (Str.ofString "__module__")) (Value.str (Str.ofString "__module__") 223) (Value.str (Str.ofString "cpy313.ftplib") 194)) :: (DictEntry.mk (PyData.keyHash P (Str.ofString "__firstlineno__")) (Value.str (Str.ofString "__firstlineno__") 227) (Value.int 7 226)) :: (DictEntry.mk (PyData.keyHash P (Str.ofString "__static_attributes__")) (Value.str (Str.ofString "__static_attributes__") 228) (Value.ref 42)) :: (DictEntry.mk (PyData.keyHash P (Str.ofString "__doc__")) (Value.str (Str.ofString "__doc__") 229) Value.none) :: [])) 2) (Array.mk []))
noncomputable def ob44_2 (P : Params) : Obj := (Obj.mk (Value.type "type") none (Data.cls (ClassData.mk (Str.ofString "error_reply") ((Value.ref 31) :: []) ((Value.ref 44) :: (Value.ref 31) :: (Value.type "Exception") :: (Value.type "BaseException") :: (Value.type "object") :: []) 43 (Str.ofString "error_reply") Bool.true [] [] Bool.false none Bool.false)) (Array.mk ((some (Value.ref 35)) :: none :: (some (Value.str (Str.ofString "error_reply") 216)) :: (some (Value.str (Str.ofString "error_reply") 224)) :: (some (Value.builtin "Exception.__new__")) :: (some (Value.bool Bool.true)) :: [])))
noncomputable def ob45_2 (P : Params) : Obj := (Obj.mk (Value.type "super") none (Data.fields (Array.mk ((Value.ref 44) :: (Value.ref 44) :: (Value.ref 44) :: []))) (Array.mk []))
noncomputable def ob46_2 (P : Params) : Obj := (Obj.mk (Value.type "builtin_function_or_method") none (Data.fields (Array.mk ((Value.builtin "object.__init_subclass__") :: (Value.ref 44) :: []))) (Array.mk []))
noncomputable def hT2 (P : Params) : BT := (.node (boot_o_0 P) (.node (boot_o_1 P) (.node (ob3_2 P) (.node (boot_o_7 P) (.node (ob15_1 P) (.node (ob31_2 P) .nil .nil) .nil) (.node (ob23_1 P) (.node (ob39_2 P) .nil .nil) .nil)) (.node (ob11_a P) (.node (ob19_1 P) (.node (ob35_2 P) .nil .nil) .nil) (.node (ob27_1 P) (.node (ob43_2 P) .nil .nil) .nil))) (.node (boot_o_5 P) (.node (boot_o_9 P) (.node (ob17_1 P) (.node (ob33_1 P) .nil .nil) .nil) (.node (ob25_1 P) (.node (ob41_2 P) .nil .nil) .nil)) (.node (ob13_a P) (.node (ob21_1 P) (.node (ob37_2 P) .nil .nil) .nil) (.node (ob29_1 P) (.node (ob45_2 P) .nil .nil) .nil)))) (.node (ob2_1 P) (.node (boot_o_4 P) (.node (boot_o_8 P) (.node (ob16_1 P) (.node (ob32_1 P) .nil .nil) .nil) (.node (ob24_1 P) (.node (ob40_2 P) .nil .nil) .nil)) (.node (ob12_2 P) (.node (ob20_1 P) (.node (ob36_2 P) .nil .nil) .nil) (.node (ob28_1 P) (.node (ob44_2 P) .nil .nil) .nil))) (.node (boot_o_6 P) (.node (boot_o_10 P) (.node (ob18_1 P) (.node (ob34_1 P) .nil .nil) .nil) (.node (ob26_1 P) (.node (ob42_2 P) .nil .nil) .nil)) (.node (ob14_a P) (.node (ob22_1 P) (.node (ob38_2 P) .nil .nil) .nil) (.node (ob30_1 P) (.node (ob46_2 P) .nil .nil) .nil)))))
noncomputable def ob3_3 (P : Params) : Obj := (Obj.mk (Value.type "dict") none (Data.dict (Array.mk ((DictEntry.mk (PyData.keyHash P (Str.ofString "__name__")) (Value.str (Str.ofString "__name__") 165) (Value.str (Str.ofString "cpy313.stat") 288)) :: (DictEntry.mk (PyData.keyHash P (Str.ofString "__doc__")) (Value.str (Str.ofString "__doc__") 166) Value.none) :: (DictEntry.mk (PyData.keyHash P (Str.ofString "__package__")) (Value.str (Str.ofString "__package__") 167) Value.none) :: (DictEntry.mk (PyData.keyHash P (Str.ofString "__loader__")) (Value.str (Str.ofString "__loader__") 168) (Value.builtin "__main__.__loader__#opaque")) :: (DictEntry.mk (PyData.keyHash P (Str.ofString "__spec__")) (Value.str (Str.ofString "__spec__") 169) Value.none) :: (DictEntry.mk (PyData.keyHash P (Str.ofString "__annotations__")) (Value.str (Str.ofString "__annotations__") 170) (Value.ref 6)) :: (DictEntry.mk (PyData.keyHash P (Str.ofString "__builtins__")) (Value.str (Str.ofString "__builtins__") 171) (Value.ref 4)) :: (DictEntry.mk (PyData.keyHash P (Str.ofString "__file__")) (Value.str (Str.ofString "__file__") 173) (Value.str (Str.ofString "/claim/cut.py") 172)) :: (DictEntry.mk (PyData.keyHash P (Str.ofString "__cached__")) (Value.str (Str.ofString "__cached__") 174) Value.none) :: (DictEntry.mk (PyData.keyHash P (Str.ofString "_wall")) (Value.str (Str.ofString "_wall") 193) (Value.ref 21)) :: (DictEntry.mk (PyData.keyHash P (Str.ofString "Error")) (Value.str (Str.ofString "Error") 215) (Value.ref 31)) :: (DictEntry.mk (PyData.keyHash P (Str.ofString "error_reply")) (Value.str (Str.ofString "error_reply") 231) (Value.ref 44)) :: (DictEntry.mk (PyData.keyHash P (Str.ofString "parse257")) (Value.str (Str.ofString "parse257") 242) (Value.ref 53)) :: (DictEntry.mk (PyData.keyHash P (Str.ofString "_buffer")) (Value.str (Str.ofString "_buffer") 252) (Value.ref 60)) :: (DictEntry.mk (PyData.keyHash P (Str.ofString "_truth")) (Value.str (Str.ofString "_truth") 260) (Value.ref 67)) :: (DictEntry.mk (PyData.keyHash P (Str.ofString "_B64")) (Value.str (Str.ofString "_B64") 262) (Value.bytes (Array.mk (65 :: 66 :: 67 :: 68 :: 69 :: 70 :: 71 :: 72 :: 73 :: 74 :: 75 :: 76 :: 77 :: 78 :: 79 :: 80 :: 81 :: 82 :: 83 :: 84 :: 85 :: 86 :: 87 :: 88 :: 89 :: 90 :: 97 :: 98 :: 99 :: 100 :: 101 :: 102 :: 103 :: 104 :: 105 :: 106 :: 107 :: 108 :: 109 :: 110 :: 111 :: 112 :: 113 :: 114 :: 115 :: 116 :: 117 :: 118 :: 119 :: 120 :: 121 :: 122 :: 48 :: 49 :: 50 :: 51 :: 52 :: 53 :: 54 :: 55 :: 56 :: 57 :: 43 :: 47 :: [])) 261)) :: (DictEntry.mk (PyData.keyHash P (Str.ofString "b2a_base64")) (Value.str (Str.ofString "b2a_base64") 276) (Value.ref 75)) :: (DictEntry.mk (PyData.keyHash P (Str.ofString "b64encode")) (Value.str (Str.ofString "b64encode") 287) (Value.ref 83)) :: (DictEntry.mk (PyData.keyHash P (Str.ofString "S_IFMT")) (Value.str (Str.ofString "S_IFMT") 296) (Value.ref 90)) :: (DictEntry.mk (PyData.keyHash P (Str.ofString "S_IFDIR")) (Value.str (Str.ofString "S_IFDIR") 298) (Value.int 16384 297)) :: [])) 20) (Array.mk []))
noncomputable def ob12_3 (P : Params) : Obj := (Obj.mk Value.none none (Data.fields (Array.mk ((Value.int 1 0) :: (Value.int 0 0) :: (Value.ref 20) :: (Value.int 5 0) :: (Value.int 0 0) :: (Value.ref 27) :: (Value.int 7 0) :: (Value.int 0 0) :: (Value.ref 40) :: (Value.int 9 0) :: (Value.int 0 0) :: (Value.ref 52) :: (Value.int 27 0) :: (Value.int 0 0) :: (Value.ref 59) :: (Value.int 34 0) :: (Value.int 0 0) :: (Value.ref 66) :: (Value.int 40 0) :: (Value.int 0 0) :: (Value.ref 74) :: (Value.int 63 0) :: (Value.int 0 0) :: (Value.ref 82) :: (Value.int 70 0) :: (Value.int 0 0) :: (Value.ref 89) :: []))) (Array.mk []))
noncomputable def ob47_3 (P : Params) : Obj := (Obj.mk (Value.type "tuple") none (Data.seq (Array.mk []) 0) (Array.mk []))
noncomputable def ob48_3 (P : Params) : Obj := (Obj.mk Value.none none (Data.fields (Array.mk [])) (Array.mk []))
noncomputable def ob49_3 (P : Params) : Obj := (Obj.mk (Value.type "tuple") none (Data.seq (Array.mk ((Value.str (Str.ofString "resp") 235) :: (Value.str (Str.ofString "dirname") 236) :: (Value.str (Str.ofString "i") 237) :: (Value.str (Str.ofString "n") 238) :: (Value.str (Str.ofString "c") 239) :: [])) 0) (Array.mk []))
noncomputable def ob50_3 (P : Params) : Obj := (Obj.mk (Value.type "tuple") none (Data.seq (Array.mk []) 0) (Array.mk []))
noncomputable def ob51_3 (P : Params) : Obj := (Obj.mk Value.none none (Data.func (FuncData.mk (Str.ofString "parse257") (Str.ofString "parse257") (fnA 4) (FuncBody.stmts (fnB 4)) (fnS 4) 0 [] Value.none Value.none Value.none Value.none none Value.none Value.none 0)) (Array.mk []))
noncomputable def ob52_3 (P : Params) : Obj := (Obj.mk (Value.type "code") none (Data.fields (Array.mk ((Value.str (Str.ofString "parse257") 232) :: (Value.str (Str.ofString "parse257") 233) :: (Value.str (Str.ofString "/claim/cut.py") 234) :: (Value.int 9 0) :: (Value.int 1 0) :: (Value.int 0 0) :: (Value.int 0 0) :: (Value.int 3 0) :: (Value.ref 47) :: (Value.bool Bool.true) :: (Value.int 181 0) :: (Value.ref 48) :: Value.none :: (Value.ref 49) :: (Value.ref 50) :: (Value.ref 51) :: (Value.int 240 0) :: (Value.int 9 0) :: (Value.str (Str.ofString "/claim/cut.py") 241) :: []))) (Array.mk []))
noncomputable def ob53_3 (P : Params) : Obj := (Obj.mk (Value.type "function") none (Data.func (FuncData.mk (Str.ofString "parse257") (Str.ofString "parse257") (fnA 4) (FuncBody.stmts (fnB 4)) (fnS 4) 3 [] Value.none Value.none Value.none (Value.str (Str.ofString "cpy313.ftplib") 194) none (Value.ref 52) Value.none 0)) (Array.mk []))
noncomputable def ob54_3 (P : Params) : Obj := (Obj.mk (Value.type "tuple") none (Data.seq (Array.mk []) 0) (Array.mk []))
noncomputable def ob55_3 (P : Params) : Obj := (Obj.mk Value.none none (Data.fields (Array.mk [])) (Array.mk []))
noncomputable def ob56_3 (P : Params) : Obj := (Obj.mk (Value.type "tuple") none (Data.seq (Array.mk ((Value.str (Str.ofString "data") 248) :: (Value.str (Str.ofString "t") 249) :: [])) 0) (Array.mk []))
noncomputable def ob57_3 (P : Params) : Obj := (Obj.mk (Value.type "tuple") none (Data.seq (Array.mk []) 0) (Array.mk []))
noncomputable def ob58_3 (P : Params) : Obj := (Obj.mk Value.none none (Data.func (FuncData.mk (Str.ofString "_buffer") (Str.ofString "_buffer") (fnA 6) (FuncBody.stmts (fnB 6)) (fnS 6) 0 [] Value.none Value.none Value.none Value.none none Value.none Value.none 0)) (Array.mk []))
noncomputable def ob59_3 (P : Params) : Obj := (Obj.mk (Value.type "code") none (Data.fields (Array.mk ((Value.str (Str.ofString "_buffer") 245) :: (Value.str (Str.ofString "_buffer") 246) :: (Value.str (Str.ofString "/claim/cut.py") 247) :: (Value.int 27 0) :: (Value.int 1 0) :: (Value.int 0 0) :: (Value.int 0 0) :: (Value.int 3 0) :: (Value.ref 54) :: (Value.bool Bool.true) :: (Value.int 181 0) :: (Value.ref 55) :: Value.none :: (Value.ref 56) :: (Value.ref 57) :: (Value.ref 58) :: (Value.int 250 0) :: (Value.int 27 0) :: (Value.str (Str.ofString "/claim/cut.py") 251) :: []))) (Array.mk []))
noncomputable def ob60_3 (P : Params) : Obj := (Obj.mk (Value.type "function") none (Data.func (FuncData.mk (Str.ofString "_buffer") (Str.ofString "_buffer") (fnA 6) (FuncBody.stmts (fnB 6)) (fnS 6) 3 [] Value.none Value.none Value.none (Value.str (Str.ofString "binascii") 243) none (Value.ref 59) Value.none 0)) (Array.mk []))
noncomputable def ob61_3 (P : Params) : Obj := (Obj.mk (Value.type "tuple") none (Data.seq (Array.mk []) 0) (Array.mk []))
noncomputable def ob62_3 (P : Params) : Obj := (Obj.mk Value.none none (Data.fields (Array.mk [])) (Array.mk []))
noncomputable def ob63_3 (P : Params) : Obj := (Obj.mk (Value.type "tuple") none (Data.seq (Array.mk ((Value.str (Str.ofString "x") 256) :: (Value.str (Str.ofString "t") 257) :: [])) 0) (Array.mk []))
noncomputable def ob64_3 (P : Params) : Obj := (Obj.mk (Value.type "tuple") none (Data.seq (Array.mk []) 0) (Array.mk []))
noncomputable def ob65_3 (P : Params) : Obj := (Obj.mk Value.none none (Data.func (FuncData.mk (Str.ofString "_truth") (Str.ofString "_truth") (fnA 7) (FuncBody.stmts (fnB 7)) (fnS 7) 0 [] Value.none Value.none Value.none Value.none none Value.none Value.none 0)) (Array.mk []))
noncomputable def ob66_3 (P : Params) : Obj := (Obj.mk (Value.type "code") none (Data.fields (Array.mk ((Value.str (Str.ofString "_truth") 253) :: (Value.str (Str.ofString "_truth") 254) :: (Value.str (Str.ofString "/claim/cut.py") 255) :: (Value.int 34 0) :: (Value.int 1 0) :: (Value.int 0 0) :: (Value.int 0 0) :: (Value.int 3 0) :: (Value.ref 61) :: (Value.bool Bool.true) :: (Value.int 181 0) :: (Value.ref 62) :: Value.none :: (Value.ref 63) :: (Value.ref 64) :: (Value.ref 65) :: (Value.int 258 0) :: (Value.int 34 0) :: (Value.str (Str.ofString "/claim/cut.py") 259) :: []))) (Array.mk []))
noncomputable def ob67_3 (P : Params) : Obj := (Obj.mk (Value.type "function") none (Data.func (FuncData.mk (Str.ofString "_truth") (Str.ofString "_truth") (fnA 7) (FuncBody.stmts (fnB 7)) (fnS 7) 3 [] Value.none Value.none Value.none (Value.str (Str.ofString "binascii") 243) none (Value.ref 66) Value.none 0)) (Array.mk []))
noncomputable def ob68_3 (P : Params) : Obj := (Obj.mk (Value.type "dict") none (Data.dict (Array.mk ((DictEntry.mk (PyData.keyHash P (Str.ofString "newline")) (Value.str (Str.ofString "newline") 263) (Value.bool Bool.true)) :: [])) 1) (Array.mk []))
noncomputable def ob69_3 (P : Params) : Obj := (Obj.mk (Value.type "tuple") none (Data.seq (Array.mk []) 0) (Array.mk []))
noncomputable def ob70_3 (P : Params) : Obj := (Obj.mk Value.none none (Data.fields (Array.mk [])) (Array.mk []))
noncomputable def ob71_3 (P : Params) : Obj := (Obj.mk (Value.type "tuple") none (Data.seq (Array.mk ((Value.str (Str.ofString "data") 267) :: (Value.str (Str.ofString "newline") 268) :: (Value.str (Str.ofString "bin_data") 269) :: (Value.str (Str.ofString "out") 270) :: (Value.str (Str.ofString "leftbits") 271) :: (Value.str (Str.ofString "leftchar") 272) :: (Value.str (Str.ofString "b") 273) :: [])) 0) (Array.mk []))
noncomputable def ob72_3 (P : Params) : Obj := (Obj.mk (Value.type "tuple") none (Data.seq (Array.mk []) 0) (Array.mk []))
noncomputable def ob73_3 (P : Params) : Obj := (Obj.mk Value.none none (Data.func (FuncData.mk (Str.ofString "b2a_base64") (Str.ofString "b2a_base64") (fnA 9) (FuncBody.stmts (fnB 9)) (fnS 9) 0 [] Value.none Value.none Value.none Value.none none Value.none Value.none 0)) (Array.mk []))
noncomputable def ob74_3 (P : Params) : Obj := (Obj.mk (Value.type "code") none (Data.fields (Array.mk ((Value.str (Str.ofString "b2a_base64") 264) :: (Value.str (Str.ofString "b2a_base64") 265) :: (Value.str (Str.ofString "/claim/cut.py") 266) :: (Value.int 40 0) :: (Value.int 1 0) :: (Value.int 1 0) :: (Value.int 1 0) :: (Value.int 3 0) :: (Value.ref 69) :: (Value.bool Bool.true) :: (Value.int 181 0) :: (Value.ref 70) :: Value.none :: (Value.ref 71) :: (Value.ref 72) :: (Value.ref 73) :: (Value.int 274 0) :: (Value.int 40 0) :: (Value.str (Str.ofString "/claim/cut.py") 275) :: []))) (Array.mk []))
noncomputable def ob75_3 (P : Params) : Obj := (Obj.mk (Value.type "function") none (Data.func (FuncData.mk (Str.ofString "b2a_base64") (Str.ofString "b2a_base64") (fnA 9) (FuncBody.stmts (fnB 9)) (fnS 9) 3 [] Value.none (Value.ref 68) Value.none (Value.str (Str.ofString "binascii") 243) none (Value.ref 74) Value.none 0)) (Array.mk []))
noncomputable def ob76_3 (P : Params) : Obj := (Obj.mk (Value.type "tuple") none (Data.seq (Array.mk (Value.none :: [])) 0) (Array.mk []))
noncomputable def ob77_3 (P : Params) : Obj := (Obj.mk (Value.type "tuple") none (Data.seq (Array.mk []) 0) (Array.mk []))
noncomputable def ob78_3 (P : Params) : Obj := (Obj.mk Value.none none (Data.fields (Array.mk [])) (Array.mk []))
noncomputable def ob79_3 (P : Params) : Obj := (Obj.mk (Value.type "tuple") none (Data.seq (Array.mk ((Value.str (Str.ofString "s") 282) :: (Value.str (Str.ofString "altchars") 283) :: (Value.str (Str.ofString "encoded") 284) :: [])) 0) (Array.mk []))
noncomputable def ob80_3 (P : Params) : Obj := (Obj.mk (Value.type "tuple") none (Data.seq (Array.mk []) 0) (Array.mk []))
noncomputable def ob81_3 (P : Params) : Obj := (Obj.mk Value.none none (Data.func (FuncData.mk (Str.ofString "b64encode") (Str.ofString "b64encode") (fnA 11) (FuncBody.stmts (fnB 11)) (fnS 11) 0 [] Value.none Value.none Value.none Value.none none Value.none Value.none 0)) (Array.mk []))
noncomputable def ob82_3 (P : Params) : Obj := (Obj.mk (Value.type "code") none (Data.fields (Array.mk ((Value.str (Str.ofString "b64encode") 279) :: (Value.str (Str.ofString "b64encode") 280) :: (Value.str (Str.ofString "/claim/cut.py") 281) :: (Value.int 63 0) :: (Value.int 2 0) :: (Value.int 0 0) :: (Value.int 0 0) :: (Value.int 3 0) :: (Value.ref 77) :: (Value.bool Bool.true) :: (Value.int 181 0) :: (Value.ref 78) :: Value.none :: (Value.ref 79) :: (Value.ref 80) :: (Value.ref 81) :: (Value.int 285 0) :: (Value.int 63 0) :: (Value.str (Str.ofString "/claim/cut.py") 286) :: []))) (Array.mk []))
noncomputable def ob83_3 (P : Params) : Obj := (Obj.mk (Value.type "function") none (Data.func (FuncData.mk (Str.ofString "b64encode") (Str.ofString "b64encode") (fnA 11) (FuncBody.stmts (fnB 11)) (fnS 11) 3 [] (Value.ref 76) Value.none Value.none (Value.str (Str.ofString "cpy313.base64") 277) none (Value.ref 82) Value.none 0)) (Array.mk []))
noncomputable def ob84_3 (P : Params) : Obj := (Obj.mk (Value.type "tuple") none (Data.seq (Array.mk []) 0) (Array.mk []))
noncomputable def ob85_3 (P : Params) : Obj := (Obj.mk Value.none none (Data.fields (Array.mk [])) (Array.mk []))
noncomputable def ob86_3 (P : Params) : Obj := (Obj.mk (Value.type "tuple") none (Data.seq (Array.mk ((Value.str (Str.ofString "mode") 293) :: [])) 0) (Array.mk []))
noncomputable def ob87_3 (P : Params) : Obj := (Obj.mk (Value.type "tuple") none (Data.seq (Array.mk []) 0) (Array.mk []))
noncomputable def ob88_3 (P : Params) : Obj := (Obj.mk Value.none none (Data.func (FuncData.mk (Str.ofString "S_IFMT") (Str.ofString "S_IFMT") (fnA 13) (FuncBody.stmts (fnB 13)) (fnS 13) 0 [] Value.none Value.none Value.none Value.none none Value.none Value.none 0)) (Array.mk []))
noncomputable def ob89_3 (P : Params) : Obj := (Obj.mk (Value.type "code") none (Data.fields (Array.mk ((Value.str (Str.ofString "S_IFMT") 290) :: (Value.str (Str.ofString "S_IFMT") 291) :: (Value.str (Str.ofString "/claim/cut.py") 292) :: (Value.int 70 0) :: (Value.int 1 0) :: (Value.int 0 0) :: (Value.int 0 0) :: (Value.int 3 0) :: (Value.ref 84) :: (Value.bool Bool.true) :: (Value.int 181 0) :: (Value.ref 85) :: Value.none :: (Value.ref 86) :: (Value.ref 87) :: (Value.ref 88) :: (Value.int 294 0) :: (Value.int 70 0) :: (Value.str (Str.ofString "/claim/cut.py") 295) :: []))) (Array.mk []))
noncomputable def ob90_3 (P : Params) : Obj := (Obj.mk (Value.type "function") none (Data.func (FuncData.mk (Str.ofString "S_IFMT") (Str.ofString "S_IFMT") (fnA 13) (FuncBody.stmts (fnB 13)) (fnS 13) 3 [] Value.none Value.none Value.none (Value.str (Str.ofString "cpy313.stat") 288) none (Value.ref 89) Value.none 0)) (Array.mk []))
noncomputable def hT3 (P : Params) : BT := (.node (boot_o_0 P) (.node (boot_o_1 P) (.node (ob3_3 P) (.node (boot_o_7 P) (.node (ob15_1 P) (.node (ob31_2 P) (.node (ob63_3 P) .nil .nil) .nil) (.node (ob47_3 P) (.node (ob79_3 P) .nil .nil) .nil)) (.node (ob23_1 P) (.node (ob39_2 P) (.node (ob71_3 P) .nil .nil) .nil) (.node (ob55_3 P) (.node (ob87_3 P) .nil .nil) .nil))) (.node (ob11_a P) (.node (ob19_1 P) (.node (ob35_2 P) (.node (ob67_3 P) .nil .nil) .nil) (.node (ob51_3 P) (.node (ob83_3 P) .nil .nil) .nil)) (.node (ob27_1 P) (.node (ob43_2 P) (.node (ob75_3 P) .nil .nil) .nil) (.node (ob59_3 P) .nil .nil)))) (.node (boot_o_5 P) (.node (boot_o_9 P) (.node (ob17_1 P) (.node (ob33_1 P) (.node (ob65_3 P) .nil .nil) .nil) (.node (ob49_3 P) (.node (ob81_3 P) .nil .nil) .nil)) (.node (ob25_1 P) (.node (ob41_2 P) (.node (ob73_3 P) .nil .nil) .nil) (.node (ob57_3 P) (.node (ob89_3 P) .nil .nil) .nil))) (.node (ob13_a P) (.node (ob21_1 P) (.node (ob37_2 P) (.node (ob69_3 P) .nil .nil) .nil) (.node (ob53_3 P) (.node (ob85_3 P) .nil .nil) .nil)) (.node (ob29_1 P) (.node (ob45_2 P) (.node (ob77_3 P) .nil .nil) .nil) (.node (ob61_3 P) .nil .nil))))) (.node (ob2_1 P) (.node (boot_o_4 P) (.node (boot_o_8 P) (.node (ob16_1 P) (.node (ob32_1 P) (.node (ob64_3 P) .nil .nil) .nil) (.node (ob48_3 P) (.node (ob80_3 P) .nil .nil) .nil)) (.node (ob24_1 P) (.node (ob40_2 P) (.node (ob72_3 P) .nil .nil) .nil) (.node (ob56_3 P) (.node (ob88_3 P) .nil .nil) .nil))) (.node (ob12_3 P) (.node (ob20_1 P) (.node (ob36_2 P) (.node (ob68_3 P) .nil .nil) .nil) (.node (ob52_3 P) (.node (ob84_3 P) .nil .nil) .nil)) (.node (ob28_1 P) (.node (ob44_2 P) (.node (ob76_3 P) .nil .nil) .nil) (.node (ob60_3 P) .nil .nil)))) (.node (boot_o_6 P) (.node (boot_o_10 P) (.node (ob18_1 P) (.node (ob34_1 P) (.node (ob66_3 P) .nil .nil) .nil) (.node (ob50_3 P) (.node (ob82_3 P) .nil .nil) .nil)) (.node (ob26_1 P) (.node (ob42_2 P) (.node (ob74_3 P) .nil .nil) .nil) (.node (ob58_3 P) (.node (ob90_3 P) .nil .nil) .nil))) (.node (ob14_a P) (.node (ob22_1 P) (.node (ob38_2 P) (.node (ob70_3 P) .nil .nil) .nil) (.node (ob54_3 P) (.node (ob86_3 P) .nil .nil) .nil)) (.node (ob30_1 P) (.node (ob46_2 P) (.node (ob78_3 P) .nil .nil) .nil) (.node (ob62_3 P) .nil .nil))))))
noncomputable def ob3_4 (P : Params) : Obj := (Obj.mk (Value.type "dict") none (Data.dict (Array.mk ((DictEntry.mk (PyData.keyHash P (Str.ofString "__name__")) (Value.str (Str.ofString "__name__") 165) (Value.str (Str.ofString "cpy313.stat") 288)) :: (DictEntry.mk (PyData.keyHash P (Str.ofString "__doc__")) (Value.str (Str.ofString "__doc__") 166) Value.none) :: (DictEntry.mk (PyData.keyHash P (Str.ofString "__package__")) (Value.str (Str.ofString "__package__") 167) Value.none) :: (DictEntry.mk (PyData.keyHash P (Str.ofString "__loader__")) (Value.str (Str.ofString "__loader__") 168) (Value.builtin "__main__.__loader__#opaque")) :: (DictEntry.mk (PyData.keyHash P (Str.ofString "__spec__")) (Value.str (Str.ofString "__spec__") 169) Value.none) :: (DictEntry.mk (PyData.keyHash P (Str.ofString "__annotations__")) (Value.str (Str.ofString "__annotations__") 170) (Value.ref 6)) :: (DictEntry.mk (PyData.keyHash P (Str.ofString "__builtins__")) (Value.str (Str.ofString "__builtins__") 171) (Value.ref 4)) :: (DictEntry.mk (PyData.keyHash P (Str.ofString "__file__")) (Value.str (Str.ofString "__file__") 173) (Value.str (Str.ofString "/claim/cut.py") 172)) :: (DictEntry.mk (PyData.keyHash P (Str.ofString "__cached__")) (Value.str (Str.ofString "__cached__") 174) Value.none) :: (DictEntry.mk (PyData.keyHash P (Str.ofString "_wall")) (Value.str (Str.ofString "_wall") 193) (Value.ref 21)) :: (DictEntry.mk (PyData.keyHash P (Str.ofString "Error")) (Value.str (Str.ofString "Error") 215) (Value.ref 31)) :: (DictEntry.mk (PyData.keyHash P (Str.ofString "error_reply")) (Value.str (Str.ofString "error_reply") 231) (Value.ref 44)) :: (DictEntry.mk (PyData.keyHash P (Str.ofString "parse257")) (Value.str (Str.ofString "parse257") 242) (Value.ref 53)) :: (DictEntry.mk (PyData.keyHash P (Str.ofString "_buffer")) (Value.str (Str.ofString "_buffer") 252) (Value.ref 60)) :: (DictEntry.mk (PyData.keyHash P (Str.ofString "_truth")) (Value.str (Str.ofString "_truth") 260) (Value.ref 67)) :: (DictEntry.mk (PyData.keyHash P (Str.ofString "_B64")) (Value.str (Str.ofString "_B64") 262) (Value.bytes (Array.mk (65 :: 66 :: 67 :: 68 :: 69 :: 70 :: 71 :: 72 :: 73 :: 74 :: 75 :: 76 :: 77 :: 78 :: 79 :: 80 :: 81 :: 82 :: 83 :: 84 :: 85 :: 86 :: 87 :: 88 :: 89 :: 90 :: 97 :: 98 :: 99 :: 100 :: 101 :: 102 :: 103 :: 104 :: 105 :: 106 :: 107 :: 108 :: 109 :: 110 :: 111 :: 112 :: 113 :: 114 :: 115 :: 116 :: 117 :: 118 :: 119 :: 120 :: 121 :: 122 :: 48 :: 49 :: 50 :: 51 :: 52 :: 53 :: 54 :: 55 :: 56 :: 57 :: 43 :: 47 :: [])) 261)) :: (DictEntry.mk (PyData.keyHash P (Str.ofString "b2a_base64")) (Value.str (Str.ofString "b2a_base64") 276) (Value.ref 75)) :: (DictEntry.mk (PyData.keyHash P (Str.ofString "b64encode")) (Value.str (Str.ofString "b64encode") 287) (Value.ref 83)) :: (DictEntry.mk (PyData.keyHash P (Str.ofString "S_IFMT")) (Value.str (Str.ofString "S_IFMT") 296) (Value.ref 90)) :: (DictEntry.mk (PyData.keyHash P (Str.ofString "S_IFDIR")) (Value.str (Str.ofString "S_IFDIR") 298) (Value.int 16384 297)) :: (DictEntry.mk (PyData.keyHash P (Str.ofString "S_IFCHR")) (Value.str (Str.ofString "S_IFCHR") 300) (Value.int 8192 299)) :: (DictEntry.mk (PyData.keyHash P (Str.ofString "S_IFBLK")) (Value.str (Str.ofString "S_IFBLK") 302) (Value.int 24576 301)) :: (DictEntry.mk (PyData.keyHash P (Str.ofString "S_IFREG")) (Value.str (Str.ofString "S_IFREG") 304) (Value.int 32768 303)) :: (DictEntry.mk (PyData.keyHash P (Str.ofString "S_IFIFO")) (Value.str (Str.ofString "S_IFIFO") 306) (Value.int 4096 305)) :: (DictEntry.mk (PyData.keyHash P (Str.ofString "S_IFLNK")) (Value.str (Str.ofString "S_IFLNK") 308) (Value.int 40960 307)) :: (DictEntry.mk (PyData.keyHash P (Str.ofString "S_IFSOCK")) (Value.str (Str.ofString "S_IFSOCK") 310) (Value.int 49152 309)) :: (DictEntry.mk (PyData.keyHash P (Str.ofString "S_ISUID")) (Value.str (Str.ofString "S_ISUID") 312) (Value.int 2048 311)) :: (DictEntry.mk (PyData.keyHash P (Str.ofString "S_ISGID")) (Value.str (Str.ofString "S_ISGID") 314) (Value.int 1024 313)) :: (DictEntry.mk (PyData.keyHash P (Str.ofString "S_ISVTX")) (Value.str (Str.ofString "S_ISVTX") 316) (Value.int 512 315)) :: (DictEntry.mk (PyData.keyHash P (Str.ofString "S_IRUSR")) (Value.str (Str.ofString "S_IRUSR") 318) (Value.int 256 317)) :: (DictEntry.mk (PyData.keyHash P (Str.ofString "S_IWUSR")) (Value.str (Str.ofString "S_IWUSR") 320) (Value.int 128 319)) :: (DictEntry.mk (PyData.keyHash P (Str.ofString "S_IXUSR")) (Value.str (Str.ofString "S_IXUSR") 322) (Value.int 64 321)) :: (DictEntry.mk (PyData.keyHash P (Str.ofString "S_IRGRP")) (Value.str (Str.ofString "S_IRGRP") 324) (Value.int 32 323)) :: (DictEntry.mk (PyData.keyHash P (Str.ofString "S_IWGRP")) (Value.str (Str.ofString "S_IWGRP") 326) (Value.int 16 325)) :: (DictEntry.mk (PyData.keyHash P (Str.ofString "S_IXGRP")) (Value.str (Str.ofString "S_IXGRP") 328) (Value.int 8 327)) :: (DictEntry.mk (PyData.keyHash P (Str.ofString "S_IROTH")) (Value.str (Str.ofString "S_IROTH") 330) (Value.int 4 329)) :: (DictEntry.mk (PyData.keyHash P (Str.ofString "S_IWOTH")) (Value.str (Str.ofString "S_IWOTH") 332) (Value.int 2 331)) :: (DictEntry.mk (PyData.keyHash P (Str.ofString "S_IXOTH")) (Value.str (Str.ofString "S_IXOTH") 334) (Value.int 1 333)) :: [])) 38) (Array.mk []))
noncomputable def hT4 (P : Params) : BT := (.node (boot_o_0 P) (.node (boot_o_1 P) (.node (ob3_4 P) (.node (boot_o_7 P) (.node (ob15_1 P) (.node (ob31_2 P) (.node (ob63_3 P) .nil .nil) .nil) (.node (ob47_3 P) (.node (ob79_3 P) .nil .nil) .nil)) (.node (ob23_1 P) (.node (ob39_2 P) (.node (ob71_3 P) .nil .nil) .nil) (.node (ob55_3 P) (.node (ob87_3 P) .nil .nil) .nil))) (.node (ob11_a P) (.node (ob19_1 P) (.node (ob35_2 P) (.node (ob67_3 P) .nil .nil) .nil) (.node (ob51_3 P) (.node (ob83_3 P) .nil .nil) .nil)) (.node (ob27_1 P) (.node (ob43_2 P) (.node (ob75_3 P) .nil .nil) .nil) (.node (ob59_3 P) .nil .nil)))) (.node (boot_o_5 P) (.node (boot_o_9 P) (.node (ob17_1 P) (.node (ob33_1 P) (.node (ob65_3 P) .nil .nil) .nil) (.node (ob49_3 P) (.node (ob81_3 P) .nil .nil) .nil)) (.node (ob25_1 P) (.node (ob41_2 P) (.node (ob73_3 P) .nil .nil) .nil) (.node (ob57_3 P) (.node (ob89_3 P) .nil .nil) .nil))) (.node (ob13_a P) (.node (ob21_1 P) (.node (ob37_2 P) (.node (ob69_3 P) .nil .nil) .nil) (.node (ob53_3 P) (.node (ob85_3 P) .nil .nil) .nil)) (.node (ob29_1 P) (.node (ob45_2 P) (.node (ob77_3 P) .nil .nil) .nil) (.node (ob61_3 P) .nil .nil))))) (.node (ob2_1 P) (.node (boot_o_4 P) (.node (boot_o_8 P) (.node (ob16_1 P) (.node (ob32_1 P) (.node (ob64_3 P) .nil .nil) .nil) (.node (ob48_3 P) (.node (ob80_3 P) .nil .nil) .nil)) (.node (ob24_1 P) (.node (ob40_2 P) (.node (ob72_3 P) .nil .nil) .nil) (.node (ob56_3 P) (.node (ob88_3 P) .nil .nil) .nil))) (.node (ob12_3 P) (.node (ob20_1 P) (.node (ob36_2 P) (.node (ob68_3 P) .nil .nil) .nil) (.node (ob52_3 P) (.node (ob84_3 P) .nil .nil) .nil)) (.node (ob28_1 P) (.node (ob44_2 P) (.node (ob76_3 P) .nil .nil) .nil) (.node (ob60_3 P) .nil .nil)))) (.node (boot_o_6 P) (.node (boot_o_10 P) (.node (ob18_1 P) (.node (ob34_1 P) (.node (ob66_3 P) .nil .nil) .nil) (.node (ob50_3 P) (.node (ob82_3 P) .nil .nil) .nil)) (.node (ob26_1 P) (.node (ob42_2 P) (.node (ob74_3 P) .nil .nil) .nil) (.node (ob58_3 P) (.node (ob90_3 P) .nil .nil) .nil))) (.node (ob14_a P) (.node (ob22_1 P) (.node (ob38_2 P) (.node (ob70_3 P) .nil .nil) .nil) (.node (ob54_3 P) (.node (ob86_3 P) .nil .nil) .nil)) (.node (ob30_1 P) (.node (ob46_2 P) (.node (ob78_3 P) .nil .nil) .nil) (.node (ob62_3 P) .nil .nil))))))
noncomputable def ob3_5 (P : Params) : Obj := (Obj.mk (Value.type "dict") none (Data.dict (Array.mk ((DictEntry.mk (PyData.keyHash P (Str.ofString "__name__")) (Value.str (Str.ofString "__name__") 165) (Value.str (Str.ofString "cpy313.stat") 288)) :: (DictEntry.mk (PyData.keyHash P (Str.ofString "__doc__")) (Value.str (Str.ofString "__doc__") 166) Value.none) :: (DictEntry.mk (PyData.keyHash P (Str.ofString "__package__")) (Value.str (Str.ofString "__package__") 167) Value.none) :: (DictEntry.mk (PyData.keyHash P (Str.ofString "__loader__")) (Value.str (Str.ofString "__loader__") 168) (Value.builtin "__main__.__loader__#opaque")) :: (DictEntry.mk (PyData.keyHash P (Str.ofString "__spec__")) (Value.str (Str.ofString "__spec__") 169) Value.none) :: (DictEntry.mk (PyData.keyHash P (Str.ofString "__annotations__")) (Value.str (Str.ofString "__annotations__") 170) (Value.ref 6)) :: (DictEntry.mk (PyData.keyHash P (Str.ofString "__builtins__")) (Value.str (Str.ofString "__builtins__") 171) (Value.ref 4)) :: (DictEntry.mk (PyData.keyHash P (Str.ofString "__file__")) (Value.str (Str.ofString "__file__") 173) (Value.str (Str.ofString "/claim/cut.py") 172)) :: (DictEntry.mk (PyData.keyHash P (Str.ofString "__cached__")) (Value.str (Str.ofString "__cached__") 174) Value.none) :: (DictEntry.mk (PyData.keyHash P (Str.ofString "_wall")) (Value.str (Str.ofString "_wall") 193) (Value.ref 21)) :: (DictEntry.mk (PyData.keyHash P (Str.ofString "Error")) (Value.str (Str.ofString "Error") 215) (Value.ref 31)) :: (DictEntry.mk (PyData.keyHash P (Str.ofString "error_reply")) (Value.str (Str.ofString "error_reply") 231) (Value.ref 44)) :: (DictEntry.mk (PyData.keyHash P (Str.ofString "parse257")) (Value.str (Str.ofString "parse257") 242) (Value.ref 53)) :: (DictEntry.mk (PyData.keyHash P (Str.ofString "_buffer")) (Value.str (Str.ofString "_buffer") 252) (Value.ref 60)) :: (DictEntry.mk (PyData.keyHash P (Str.ofString "_truth")) (Value.str (Str.ofString "_truth") 260) (Value.ref 67)) :: (DictEntry.mk (PyData.keyHash P (Str.ofString "_B64")) (Value.str (Str.ofString "_B64") 262) (Value.bytes (Array.mk (65 :: 66 :: 67 :: 68 :: 69 :: 70 :: 71 :: 72 :: 73 :: 74 :: 75 :: 76 :: 77 :: 78 :: 79 :: 80 :: 81 :: 82 :: 83 :: 84 :: 85 :: 86 :: 87 :: 88 :: 89 :: 90 :: 97 :: 98 :: 99 :: 100 :: 101 :: 102 :: 103 :: 104 :: 105 :: 106 :: 107 :: 108 :: 109 :: 110 :: 111 :: 112 :: 113 :: 114 :: 115 :: 116 :: 117 :: 118 :: 119 :: 120 :: 121 :: 122 :: 48 :: 49 :: 50 :: 51 :: 52 :: 53 :: 54 :: 55 :: 56 :: 57 :: 43 :: 47 :: [])) 261)) :: (DictEntry.mk (PyData.keyHash P (Str.ofString "b2a_base64")) (Value.str (Str.ofString "b2a_base64") 276) (Value.ref 75)) :: (DictEntry.mk (PyData.keyHash P (Str.ofString "b64encode")) (Value.str (Str.ofString "b64encode") 287) (Value.ref 83)) :: (DictEntry.mk (PyData.keyHash P (Str.ofString "S_IFMT")) (Value.str (Str.ofString "S_IFMT") 296) (Value.ref 90)) :: (DictEntry.mk (PyData.keyHash P (Str.ofString "S_IFDIR")) (Value.str (Str.ofString "S_IFDIR") 298) (Value.int 16384 297)) :: (DictEntry.mk (PyData.keyHash P (Str.ofString "S_IFCHR")) (Value.str (Str.ofString "S_IFCHR") 300) (Value.int 8192 299)) :: (DictEntry.mk (PyData.keyHash P (Str.ofString "S_IFBLK")) (Value.str (Str.ofString "S_IFBLK") 302) (Value.int 24576 301)) :: (DictEntry.mk (PyData.keyHash P (Str.ofString "S_IFREG")) (Value.str (Str.ofString "S_IFREG") 304) (Value.int 32768 303)) :: (DictEntry.mk (PyData.keyHash P (Str.ofString "S_IFIFO")) (Value.str (Str.ofString "S_IFIFO") 306) (Value.int 4096 305)) :: (DictEntry.mk (PyData.keyHash P (Str.ofString "S_IFLNK")) (Value.str (Str.ofString "S_IFLNK") 308) (Value.int 40960 307)) :: (DictEntry.mk (PyData.keyHash P (Str.ofString "S_IFSOCK")) (Value.str (Str.ofString "S_IFSOCK") 310) (Value.int 49152 309)) :: (DictEntry.mk (PyData.keyHash P (Str.ofString "S_ISUID")) (Value.str (Str.ofString "S_ISUID") 312) (Value.int 2048 311)) :: (DictEntry.mk (PyData.keyHash P (Str.ofString "S_ISGID")) (Value.str (Str.ofString "S_ISGID") 314) (Value.int 1024 313)) :: (DictEntry.mk (PyData.keyHash P (Str.ofString "S_ISVTX")) (Value.str (Str.ofString "S_ISVTX") 316) (Value.int 512 315)) :: (DictEntry.mk (PyData.keyHash P (Str.ofString "S_IRUSR")) (Value.str (Str.ofString "S_IRUSR") 318) (Value.int 256 317)) :: (DictEntry.mk (PyData.keyHash P (Str.ofString "S_IWUSR")) (Value.str (Str.ofString "S_IWUSR") 320) (Value.int 128 319)) :: (DictEntry.mk (PyData.keyHash P (Str.ofString "S_IXUSR")) (Value.str (Str.ofString "S_IXUSR") 322) (Value.int 64 321)) :: (DictEntry.mk (PyData.keyHash P (Str.ofString "S_IRGRP")) (Value.str (Str.ofString "S_IRGRP") 324) (Value.int 32 323)) :: (DictEntry.mk (PyData.keyHash P (Str.ofString "S_IWGRP")) (Value.str (Str.ofString "S_IWGRP") 326) (Value.int 16 325)) :: (DictEntry.mk (PyData.keyHash P (Str.ofString "S_IXGRP")) (Value.str (Str.ofString "S_IXGRP") 328) (Value.int 8 327)) :: (DictEntry.mk (PyData.keyHash P (Str.ofString "S_IROTH")) (Value.str (Str.ofString "S_IROTH") 330) (Value.int 4 329)) :: (DictEntry.mk (PyData.keyHash P (Str.ofString "S_IWOTH")) (Value.str (Str.ofString "S_IWOTH") 332) (Value.int 2 331)) :: (DictEntry.mk (PyData.keyHash P (Str.ofString "S_IXOTH")) (Value.str (Str.ofString "S_IXOTH") 334) (Value.int 1 333)) :: (DictEntry.mk (PyData.keyHash P (Str.ofString "_filemode_table")) (Value.str (Str.ofString "_filemode_table") 360) (Value.ref 123)) :: [])) 39) (Array.mk []))
noncomputable def ob91_5 (P : Params) : Obj := (Obj.mk (Value.type "tuple") none (Data.seq (Array.mk ((Value.int 40960 307) :: (Value.str (Str.ofString "l") 335) :: [])) 0) (Array.mk []))
noncomputable def ob92_5 (P : Params) : Obj := (Obj.mk (Value.type "tuple") none (Data.seq (Array.mk ((Value.int 49152 309) :: (Value.str (Str.ofString "s") 336) :: [])) 0) (Array.mk []))
noncomputable def ob93_5 (P : Params) : Obj := (Obj.mk (Value.type "tuple") none (Data.seq (Array.mk ((Value.int 32768 303) :: (Value.str (Str.ofString "-") 337) :: [])) 0) (Array.mk []))
noncomputable def ob94_5 (P : Params) : Obj := (Obj.mk (Value.type "tuple") none (Data.seq (Array.mk ((Value.int 24576 301) :: (Value.str (Str.ofString "b") 338) :: [])) 0) (Array.mk []))
noncomputable def ob95_5 (P : Params) : Obj := (Obj.mk (Value.type "tuple") none (Data.seq (Array.mk ((Value.int 16384 297) :: (Value.str (Str.ofString "d") 339) :: [])) 0) (Array.mk []))
noncomputable def ob96_5 (P : Params) : Obj := (Obj.mk (Value.type "tuple") none (Data.seq (Array.mk ((Value.int 8192 299) :: (Value.str (Str.ofString "c") 340) :: [])) 0) (Array.mk []))
noncomputable def ob97_5 (P : Params) : Obj := (Obj.mk (Value.type "tuple") none (Data.seq (Array.mk ((Value.int 4096 305) :: (Value.str (Str.ofString "p") 341) :: [])) 0) (Array.mk []))
noncomputable def ob98_5 (P : Params) : Obj := (Obj.mk (Value.type "tuple") none (Data.seq (Array.mk ((Value.ref 91) :: (Value.ref 92) :: (Value.ref 93) :: (Value.ref 94) :: (Value.ref 95) :: (Value.ref 96) :: (Value.ref 97) :: [])) 0) (Array.mk []))
noncomputable def ob99_5 (P : Params) : Obj := (Obj.mk (Value.type "tuple") none (Data.seq (Array.mk ((Value.int 256 317) :: (Value.str (Str.ofString "r") 342) :: [])) 0) (Array.mk []))
noncomputable def ob100_5 (P : Params) : Obj := (Obj.mk (Value.type "tuple") none (Data.seq (Array.mk ((Value.ref 99) :: [])) 0) (Array.mk []))
noncomputable def ob101_5 (P : Params) : Obj := (Obj.mk (Value.type "tuple") none (Data.seq (Array.mk ((Value.int 128 319) :: (Value.str (Str.ofString "w") 343) :: [])) 0) (Array.mk []))
noncomputable def ob102_5 (P : Params) : Obj := (Obj.mk (Value.type "tuple") none (Data.seq (Array.mk ((Value.ref 101) :: [])) 0) (Array.mk []))
noncomputable def ob103_5 (P : Params) : Obj := (Obj.mk (Value.type "tuple") none (Data.seq (Array.mk ((Value.int 2112 344) :: (Value.str (Str.ofString "s") 345) :: [])) 0) (Array.mk []))
noncomputable def ob104_5 (P : Params) : Obj := (Obj.mk (Value.type "tuple") none (Data.seq (Array.mk ((Value.int 2048 311) :: (Value.str (Str.ofString "S") 346) :: [])) 0) (Array.mk []))
noncomputable def ob105_5 (P : Params) : Obj := (Obj.mk (Value.type "tuple") none (Data.seq (Array.mk ((Value.int 64 321) :: (Value.str (Str.ofString "x") 347) :: [])) 0) (Array.mk []))
noncomputable def ob106_5 (P : Params) : Obj := (Obj.mk (Value.type "tuple") none (Data.seq (Array.mk ((Value.ref 103) :: (Value.ref 104) :: (Value.ref 105) :: [])) 0) (Array.mk []))
noncomputable def ob107_5 (P : Params) : Obj := (Obj.mk (Value.type "tuple") none (Data.seq (Array.mk ((Value.int 32 323) :: (Value.str (Str.ofString "r") 348) :: [])) 0) (Array.mk []))
noncomputable def ob108_5 (P : Params) : Obj := (Obj.mk (Value.type "tuple") none (Data.seq (Array.mk ((Value.ref 107) :: [])) 0) (Array.mk []))
noncomputable def ob109_5 (P : Params) : Obj := (Obj.mk (Value.type "tuple") none (Data.seq (Array.mk ((Value.int 16 325) :: (Value.str (Str.ofString "w") 349) :: [])) 0) (Array.mk []))
noncomputable def ob110_5 (P : Params) : Obj := (Obj.mk (Value.type "tuple") none (Data.seq (Array.mk ((Value.ref 109) :: [])) 0) (Array.mk []))
noncomputable def ob111_5 (P : Params) : Obj := (Obj.mk (Value.type "tuple") none (Data.seq (Array.mk ((Value.int 1032 350) :: (Value.str (Str.ofString "s") 351) :: [])) 0) (Array.mk []))
noncomputable def ob112_5 (P : Params) : Obj := (Obj.mk (Value.type "tuple") none (Data.seq (Array.mk ((Value.int 1024 313) :: (Value.str (Str.ofString "S") 352) :: [])) 0) (Array.mk []))
noncomputable def ob113_5 (P : Params) : Obj := (Obj.mk (Value.type "tuple") none (Data.seq (Array.mk ((Value.int 8 327) :: (Value.str (Str.ofString "x") 353) :: [])) 0) (Array.mk []))
noncomputable def ob114_5 (P : Params) : Obj := (Obj.mk (Value.type "tuple") none (Data.seq (Array.mk ((Value.ref 111) :: (Value.ref 112) :: (Value.ref 113) :: [])) 0) (Array.mk []))
noncomputable def ob115_5 (P : Params) : Obj := (Obj.mk (Value.type "tuple") none (Data.seq (Array.mk ((Value.int 4 329) :: (Value.str (Str.ofString "r") 354) :: [])) 0) (Array.mk []))
noncomputable def ob116_5 (P : Params) : Obj := (Obj.mk (Value.type "tuple") none (Data.seq (Array.mk ((Value.ref 115) :: [])) 0) (Array.mk []))
noncomputable def ob117_5 (P : Params) : Obj := (Obj.mk (Value.type "tuple") none (Data.seq (Array.mk ((Value.int 2 331) :: (Value.str (Str.ofString "w") 355) :: [])) 0) (Array.mk []))
noncomputable def ob118_5 (P : Params) : Obj := (Obj.mk (Value.type "tuple") none (Data.seq (Array.mk ((Value.ref 117) :: [])) 0) (Array.mk []))
noncomputable def ob119_5 (P : Params) : Obj := (Obj.mk (Value.type "tuple") none (Data.seq (Array.mk ((Value.int 513 356) :: (Value.str (Str.ofString "t") 357) :: [])) 0) (Array.mk []))
noncomputable def ob120_5 (P : Params) : Obj := (Obj.mk (Value.type "tuple") none (Data.seq (Array.mk ((Value.int 512 315) :: (Value.str (Str.ofString "T") 358) :: [])) 0) (Array.mk []))
noncomputable def ob121_5 (P : Params) : Obj := (Obj.mk (Value.type "tuple") none (Data.seq (Array.mk ((Value.int 1 333) :: (Value.str (Str.ofString "x") 359) :: [])) 0) (Array.mk []))
noncomputable def ob122_5 (P : Params) : Obj := (Obj.mk (Value.type "tuple") none (Data.seq (Array.mk ((Value.ref 119) :: (Value.ref 120) :: (Value.ref 121) :: [])) 0) (Array.mk []))
noncomputable def ob123_5 (P : Params) : Obj := (Obj.mk (Value.type "tuple") none (Data.seq (Array.mk ((Value.ref 98) :: (Value.ref 100) :: (Value.ref 102) :: (Value.ref 106) :: (Value.ref 108) :: (Value.ref 110) :: (Value.ref 114) :: (Value.ref 116) :: (Value.ref 118) :: (Value.ref 122) :: [])) 0) (Array.mk []))
noncomputable def hT5 (P : Params) : BT := (.node (boot_o_0 P) (.node (boot_o_1 P) (.node (ob3_5 P) (.node (boot_o_7 P) (.node (ob15_1 P) (.node (ob31_2 P) (.node (ob63_3 P) .nil .nil) (.node (ob95_5 P) .nil .nil)) (.node (ob47_3 P) (.node (ob79_3 P) .nil .nil) (.node (ob111_5 P) .nil .nil))) (.node (ob23_1 P) (.node (ob39_2 P) (.node (ob71_3 P) .nil .nil) (.node (ob103_5 P) .nil .nil)) (.node (ob55_3 P) (.node (ob87_3 P) .nil .nil) (.node (ob119_5 P) .nil .nil)))) (.node (ob11_a P) (.node (ob19_1 P) (.node (ob35_2 P) (.node (ob67_3 P) .nil .nil) (.node (ob99_5 P) .nil .nil)) (.node (ob51_3 P) (.node (ob83_3 P) .nil .nil) (.node (ob115_5 P) .nil .nil))) (.node (ob27_1 P) (.node (ob43_2 P) (.node (ob75_3 P) .nil .nil) (.node (ob107_5 P) .nil .nil)) (.node (ob59_3 P) (.node (ob91_5 P) .nil .nil) (.node (ob123_5 P) .nil .nil))))) (.node (boot_o_5 P) (.node (boot_o_9 P) (.node (ob17_1 P) (.node (ob33_1 P) (.node (ob65_3 P) .nil .nil) (.node (ob97_5 P) .nil .nil)) (.node (ob49_3 P) (.node (ob81_3 P) .nil .nil) (.node (ob113_5 P) .nil .nil))) (.node (ob25_1 P) (.node (ob41_2 P) (.node (ob73_3 P) .nil .nil) (.node (ob105_5 P) .nil .nil)) (.node (ob57_3 P) (.node (ob89_3 P) .nil .nil) (.node (ob121_5 P) .nil .nil)))) (.node (ob13_a P) (.node (ob21_1 P) (.node (ob37_2 P) (.node (ob69_3 P) .nil .nil) (.node (ob101_5 P) .nil .nil)) (.node (ob53_3 P) (.node (ob85_3 P) .nil .nil) (.node (ob117_5 P) .nil .nil))) (.node (ob29_1 P) (.node (ob45_2 P) (.node (ob77_3 P) .nil .nil) (.node (ob109_5 P) .nil .nil)) (.node (ob61_3 P) (.node (ob93_5 P) .nil .nil) .nil))))) (.node (ob2_1 P) (.node (boot_o_4 P) (.node (boot_o_8 P) (.node (ob16_1 P) (.node (ob32_1 P) (.node (ob64_3 P) .nil .nil) (.node (ob96_5 P) .nil .nil)) (.node (ob48_3 P) (.node (ob80_3 P) .nil .nil) (.node (ob112_5 P) .nil .nil))) (.node (ob24_1 P) (.node (ob40_2 P) (.node (ob72_3 P) .nil .nil) (.node (ob104_5 P) .nil .nil)) (.node (ob56_3 P) (.node (ob88_3 P) .nil .nil) (.node (ob120_5 P) .nil .nil)))) (.node (ob12_3 P) (.node (ob20_1 P) (.node (ob36_2 P) (.node (ob68_3 P) .nil .nil) (.node (ob100_5 P) .nil .nil)) (.node (ob52_3 P) (.node (ob84_3 P) .nil .nil) (.node (ob116_5 P) .nil .nil))) (.node (ob28_1 P) (.node (ob44_2 P) (.node (ob76_3 P) .nil .nil) (.node (ob108_5 P) .nil .nil)) (.node (ob60_3 P) (.node (ob92_5 P) .nil .nil) .nil)))) (.node (boot_o_6 P) (.node (boot_o_10 P) (.node (ob18_1 P) (.node (ob34_1 P) (.node (ob66_3 P) .nil .nil) (.node (ob98_5 P) .nil .nil)) (.node (ob50_3 P) (.node (ob82_3 P) .nil .nil) (.node (ob114_5 P) .nil .nil))) (.node (ob26_1 P) (.node (ob42_2 P) (.node (ob74_3 P) .nil .nil) (.node (ob106_5 P) .nil .nil)) (.node (ob58_3 P) (.node (ob90_3 P) .nil .nil) (.node (ob122_5 P) .nil .nil)))) (.node (ob14_a P) (.node (ob22_1 P) (.node (ob38_2 P) (.node (ob70_3 P) .nil .nil) (.node (ob102_5 P) .nil .nil)) (.node (ob54_3 P) (.node (ob86_3 P) .nil .nil) (.node (ob118_5 P) .nil .nil))) (.node (ob30_1 P) (.node (ob46_2 P) (.node (ob78_3 P) .nil .nil) (.node (ob110_5 P) .nil .nil)) (.node (ob62_3 P) (.node (ob94_5 P) .nil .nil) .nil))))))
noncomputable def ob3_6 (P : Params) : Obj := (Obj.mk (Value.type "dict") none (Data.dict (Array.mk ((DictEntry.mk (PyData.keyHash P (Str.ofString "__name__")) (Value.str (Str.ofString "__name__") 165) (Value.str (Str.ofString "law_op0037_01") 373)) :: (DictEntry.mk (PyData.keyHash P (Str.ofString "__doc__")) (Value.str (Str.ofString "__doc__") 166) Value.none) :: (DictEntry.mk (PyData.keyHash P (Str.ofString "__package__")) (Value.str (Str.ofString "__package__") 167) Value.none) :: (DictEntry.mk (PyData.keyHash P (Str.ofString "__loader__")) (Value.str (Str.ofString "__loader__") 168) (Value.builtin "__main__.__loader__#opaque")) :: (DictEntry.mk (PyData.keyHash P (Str.ofString "__spec__")) (Value.str (Str.ofString "__spec__") 169) Value.none) :: (DictEntry.mk (PyData.keyHash P (Str.ofString "__annotations__")) (Value.str (Str.ofString "__annotations__") 170) (Value.ref 6)) :: (DictEntry.mk (PyData.keyHash P (Str.ofString "__builtins__")) (Value.str (Str.ofString "__builtins__") 171) (Value.ref 4)) :: (DictEntry.mk (PyData.keyHash P (Str.ofString "__file__")) (Value.str (Str.ofString "__file__") 173) (Value.str (Str.ofString "/claim/cut.py") 172)) :: (DictEntry.mk (PyData.keyHash P (Str.ofString "__cached__")) (Value.str (Str.ofString "__cached__") 174) Value.none) :: (DictEntry.mk (PyData.keyHash P (Str.ofString "_wall")) (Value.str (Str.ofString "_wall") 193) (Value.ref 21)) :: (DictEntry.mk (PyData.keyHash P (Str.ofString "Error")) (Value.str (Str.ofString "Error") 215) (Value.ref 31)) :: (DictEntry.mk (PyData.keyHash P (Str.ofString "error_reply")) (Value.str (Str.ofString "error_reply") 231) (Value.ref 44)) :: (DictEntry.mk (PyData.keyHash P (Str.ofString "parse257")) (Value.str (Str.ofString "parse257") 242) (Value.ref 53)) :: (DictEntry.mk (PyData.keyHash P (Str.ofString "_buffer")) (Value.str (Str.ofString "_buffer") 252) (Value.ref 60)) :: (DictEntry.mk (PyData.keyHash P (Str.ofString "_truth")) (Value.str (Str.ofString "_truth") 260) (Value.ref 67)) :: (DictEntry.mk (PyData.keyHash P (Str.ofString "_B64")) (Value.str (Str.ofString "_B64") 262) (Value.bytes (Array.mk (65 :: 66 :: 67 :: 68 :: 69 :: 70 :: 71 :: 72 :: 73 :: 74 :: 75 :: 76 :: 77 :: 78 :: 79 :: 80 :: 81 :: 82 :: 83 :: 84 :: 85 :: 86 :: 87 :: 88 :: 89 :: 90 :: 97 :: 98 :: 99 :: 100 :: 101 :: 102 :: 103 :: 104 :: 105 :: 106 :: 107 :: 108 :: 109 :: 110 :: 111 :: 112 :: 113 :: 114 :: 115 :: 116 :: 117 :: 118 :: 119 :: 120 :: 121 :: 122 :: 48 :: 49 :: 50 :: 51 :: 52 :: 53 :: 54 :: 55 :: 56 :: 57 :: 43 :: 47 :: [])) 261)) :: (DictEntry.mk (PyData.keyHash P (Str.ofString "b2a_base64")) (Value.str (Str.ofString "b2a_base64") 276) (Value.ref 75)) :: (DictEntry.mk (PyData.keyHash P (Str.ofString "b64encode")) (Value.str (Str.ofString "b64encode") 287) (Value.ref 83)) :: (DictEntry.mk (PyData.keyHash P (Str.ofString "S_IFMT")) (Value.str (Str.ofString "S_IFMT") 296) (Value.ref 90)) :: (DictEntry.mk (PyData.keyHash P (Str.ofString "S_IFDIR")) (Value.str (Str.ofString "S_IFDIR") 298) (Value.int 16384 297)) :: (DictEntry.mk (PyData.keyHash P (Str.ofString "S_IFCHR")) (Value.str (Str.ofString "S_IFCHR") 300) (Value.int 8192 299)) :: (DictEntry.mk (PyData.keyHash P (Str.ofString "S_IFBLK")) (Value.str (Str.ofString "S_IFBLK") 302) (Value.int 24576 301)) :: (DictEntry.mk (PyData.keyHash P (Str.ofString "S_IFREG")) (Value.str (Str.ofString "S_IFREG") 304) (Value.int 32768 303)) :: (DictEntry.mk (PyData.keyHash P (Str.ofString "S_IFIFO")) (Value.str (Str.ofString "S_IFIFO") 306) (Value.int 4096 305)) :: (DictEntry.mk (PyData.keyHash P (Str.ofString "S_IFLNK")) (Value.str (Str.ofString "S_IFLNK") 308) (Value.int 40960 307)) :: (DictEntry.mk (PyData.keyHash P (Str.ofString "S_IFSOCK")) (Value.str (Str.ofString "S_IFSOCK") 310) (Value.int 49152 309)) :: (DictEntry.mk (PyData.keyHash P (Str.ofString "S_ISUID")) (Value.str (Str.ofString "S_ISUID") 312) (Value.int 2048 311)) :: (DictEntry.mk (PyData.keyHash P (Str.ofString "S_ISGID")) (Value.str (Str.ofString "S_ISGID") 314) (Value.int 1024 313)) :: (DictEntry.mk (PyData.keyHash P (Str.ofString "S_ISVTX")) (Value.str (Str.ofString "S_ISVTX") 316) (Value.int 512 315)) :: (DictEntry.mk (PyData.keyHash P (Str.ofString "S_IRUSR")) (Value.str (Str.ofString "S_IRUSR") 318) (Value.int 256 317)) :: (DictEntry.mk (PyData.keyHash P (Str.ofString "S_IWUSR")) (Value.str (Str.ofString "S_IWUSR") 320) (Value.int 128 319)) :: (DictEntry.mk (PyData.keyHash P (Str.ofString "S_IXUSR")) (Value.str (Str.ofString "S_IXUSR") 322) (Value.int 64 321)) :: (DictEntry.mk (PyData.keyHash P (Str.ofString "S_IRGRP")) (Value.str (Str.ofString "S_IRGRP") 324) (Value.int 32 323)) :: (DictEntry.mk (PyData.keyHash P (Str.ofString "S_IWGRP")) (Value.str (Str.ofString "S_IWGRP") 326) (Value.int 16 325)) :: (DictEntry.mk (PyData.keyHash P (Str.ofString "S_IXGRP")) (Value.str (Str.ofString "S_IXGRP") 328) (Value.int 8 327)) :: (DictEntry.mk (PyData.keyHash P (Str.ofString "S_IROTH")) (Value.str (Str.ofString "S_IROTH") 330) (Value.int 4 329)) :: (DictEntry.mk (PyData.keyHash P (Str.ofString "S_IWOTH")) (Value.str (Str.ofString "S_IWOTH") 332) (Value.int 2 331)) :: (DictEntry.mk (PyData.keyHash P (Str.ofString "S_IXOTH")) (Value.str (Str.ofString "S_IXOTH") 334) (Value.int 1 333)) :: (DictEntry.mk (PyData.keyHash P (Str.ofString "_filemode_table")) (Value.str (Str.ofString "_filemode_table") 360) (Value.ref 123)) :: (DictEntry.mk (PyData.keyHash P (Str.ofString "filemode")) (Value.str (Str.ofString "filemode") 372) (Value.ref 130)) :: (DictEntry.mk (PyData.keyHash P (Str.ofString "_law_places")) (Value.str (Str.ofString "_law_places") 380) (Value.ref 137)) :: (DictEntry.mk (PyData.keyHash P (Str.ofString "_law_word")) (Value.str (Str.ofString "_law_word") 386) (Value.ref 142)) :: (DictEntry.mk (PyData.keyHash P (Str.ofString "_law_weight")) (Value.str (Str.ofString "_law_weight") 393) (Value.ref 149)) :: (DictEntry.mk (PyData.keyHash P (Str.ofString "_law_turned")) (Value.str (Str.ofString "_law_turned") 401) (Value.ref 156)) :: [])) 44) (Array.mk []))
noncomputable def ob12_6 (P : Params) : Obj := (Obj.mk Value.none none (Data.fields (Array.mk ((Value.int 1 0) :: (Value.int 0 0) :: (Value.ref 20) :: (Value.int 5 0) :: (Value.int 0 0) :: (Value.ref 27) :: (Value.int 7 0) :: (Value.int 0 0) :: (Value.ref 40) :: (Value.int 9 0) :: (Value.int 0 0) :: (Value.ref 52) :: (Value.int 27 0) :: (Value.int 0 0) :: (Value.ref 59) :: (Value.int 34 0) :: (Value.int 0 0) :: (Value.ref 66) :: (Value.int 40 0) :: (Value.int 0 0) :: (Value.ref 74) :: (Value.int 63 0) :: (Value.int 0 0) :: (Value.ref 82) :: (Value.int 70 0) :: (Value.int 0 0) :: (Value.ref 89) :: (Value.int 92 0) :: (Value.int 0 0) :: (Value.ref 129) :: (Value.int 110 0) :: (Value.int 0 0) :: (Value.ref 136) :: (Value.int 112 0) :: (Value.int 0 0) :: (Value.ref 141) :: (Value.int 119 0) :: (Value.int 0 0) :: (Value.ref 148) :: (Value.int 121 0) :: (Value.int 0 0) :: (Value.ref 155) :: []))) (Array.mk []))
noncomputable def ob124_6 (P : Params) : Obj := (Obj.mk (Value.type "tuple") none (Data.seq (Array.mk []) 0) (Array.mk []))
noncomputable def ob125_6 (P : Params) : Obj := (Obj.mk Value.none none (Data.fields (Array.mk [])) (Array.mk []))
noncomputable def ob126_6 (P : Params) : Obj := (Obj.mk (Value.type "tuple") none (Data.seq (Array.mk ((Value.str (Str.ofString "mode") 364) :: (Value.str (Str.ofString "perm") 365) :: (Value.str (Str.ofString "index") 366) :: (Value.str (Str.ofString "table") 367) :: (Value.str (Str.ofString "bit") 368) :: (Value.str (Str.ofString "char") 369) :: [])) 0) (Array.mk []))
noncomputable def ob127_6 (P : Params) : Obj := (Obj.mk (Value.type "tuple") none (Data.seq (Array.mk []) 0) (Array.mk []))
noncomputable def ob128_6 (P : Params) : Obj := (Obj.mk Value.none none (Data.func (FuncData.mk (Str.ofString "filemode") (Str.ofString "filemode") (fnA 34) (FuncBody.stmts (fnB 34)) (fnS 34) 0 [] Value.none Value.none Value.none Value.none none Value.none Value.none 0)) (Array.mk []))
noncomputable def ob129_6 (P : Params) : Obj := (Obj.mk (Value.type "code") none (Data.fields (Array.mk ((Value.str (Str.ofString "filemode") 361) :: (Value.str (Str.ofString "filemode") 362) :: (Value.str (Str.ofString "/claim/cut.py") 363) :: (Value.int 92 0) :: (Value.int 1 0) :: (Value.int 0 0) :: (Value.int 0 0) :: (Value.int 3 0) :: (Value.ref 124) :: (Value.bool Bool.true) :: (Value.int 181 0) :: (Value.ref 125) :: Value.none :: (Value.ref 126) :: (Value.ref 127) :: (Value.ref 128) :: (Value.int 370 0) :: (Value.int 92 0) :: (Value.str (Str.ofString "/claim/cut.py") 371) :: []))) (Array.mk []))
noncomputable def ob130_6 (P : Params) : Obj := (Obj.mk (Value.type "function") none (Data.func (FuncData.mk (Str.ofString "filemode") (Str.ofString "filemode") (fnA 34) (FuncBody.stmts (fnB 34)) (fnS 34) 3 [] Value.none Value.none Value.none (Value.str (Str.ofString "cpy313.stat") 288) none (Value.ref 129) Value.none 0)) (Array.mk []))
noncomputable def ob131_6 (P : Params) : Obj := (Obj.mk (Value.type "tuple") none (Data.seq (Array.mk []) 0) (Array.mk []))
noncomputable def ob132_6 (P : Params) : Obj := (Obj.mk Value.none none (Data.fields (Array.mk [])) (Array.mk []))
noncomputable def ob133_6 (P : Params) : Obj := (Obj.mk (Value.type "tuple") none (Data.seq (Array.mk []) 0) (Array.mk []))
noncomputable def ob134_6 (P : Params) : Obj := (Obj.mk (Value.type "tuple") none (Data.seq (Array.mk []) 0) (Array.mk []))
noncomputable def ob135_6 (P : Params) : Obj := (Obj.mk Value.none none (Data.func (FuncData.mk (Str.ofString "_law_places") (Str.ofString "_law_places") (fnA 36) (FuncBody.stmts (fnB 36)) (fnS 36) 0 [] Value.none Value.none Value.none Value.none none Value.none Value.none 0)) (Array.mk []))
noncomputable def ob136_6 (P : Params) : Obj := (Obj.mk (Value.type "code") none (Data.fields (Array.mk ((Value.str (Str.ofString "_law_places") 375) :: (Value.str (Str.ofString "_law_places") 376) :: (Value.str (Str.ofString "/claim/cut.py") 377) :: (Value.int 110 0) :: (Value.int 0 0) :: (Value.int 0 0) :: (Value.int 0 0) :: (Value.int 3 0) :: (Value.ref 131) :: (Value.bool Bool.true) :: (Value.int 181 0) :: (Value.ref 132) :: Value.none :: (Value.ref 133) :: (Value.ref 134) :: (Value.ref 135) :: (Value.int 378 0) :: (Value.int 110 0) :: (Value.str (Str.ofString "/claim/cut.py") 379) :: []))) (Array.mk []))
noncomputable def ob137_6 (P : Params) : Obj := (Obj.mk (Value.type "function") none (Data.func (FuncData.mk (Str.ofString "_law_places") (Str.ofString "_law_places") (fnA 36) (FuncBody.stmts (fnB 36)) (fnS 36) 3 [] Value.none Value.none Value.none (Value.str (Str.ofString "law_op0037_01") 373) none (Value.ref 136) Value.none 0)) (Array.mk []))
noncomputable def ob138_6 (P : Params) : Obj := (Obj.mk (Value.type "tuple") none (Data.seq (Array.mk []) 0) (Array.mk []))
noncomputable def ob139_6 (P : Params) : Obj := (Obj.mk Value.none none (Data.fields (Array.mk [])) (Array.mk []))
noncomputable def ob140_6 (P : Params) : Obj := (Obj.mk Value.none none (Data.func (FuncData.mk (Str.ofString "_law_word") (Str.ofString "_law_word") (fnA 37) (FuncBody.stmts (fnB 37)) (fnS 37) 0 [] Value.none Value.none Value.none Value.none none Value.none Value.none 0)) (Array.mk []))
noncomputable def ob141_6 (P : Params) : Obj := (Obj.mk (Value.type "code") none (Data.fields (Array.mk ((Value.str (Str.ofString "_law_word") 381) :: (Value.str (Str.ofString "_law_word") 382) :: (Value.str (Str.ofString "/claim/cut.py") 383) :: (Value.int 112 0) :: (Value.int 1 0) :: (Value.int 0 0) :: (Value.int 0 0) :: (Value.int 3 0) :: (Value.ref 138) :: (Value.bool Bool.true) :: (Value.int 181 0) :: (Value.ref 139) :: Value.none :: Value.none :: Value.none :: (Value.ref 140) :: (Value.int 384 0) :: (Value.int 112 0) :: (Value.str (Str.ofString "/claim/cut.py") 385) :: []))) (Array.mk []))
noncomputable def ob142_6 (P : Params) : Obj := (Obj.mk (Value.type "function") none (Data.func (FuncData.mk (Str.ofString "_law_word") (Str.ofString "_law_word") (fnA 37) (FuncBody.stmts (fnB 37)) (fnS 37) 3 [] Value.none Value.none Value.none (Value.str (Str.ofString "law_op0037_01") 373) none (Value.ref 141) Value.none 0)) (Array.mk []))
noncomputable def ob143_6 (P : Params) : Obj := (Obj.mk (Value.type "tuple") none (Data.seq (Array.mk []) 0) (Array.mk []))
noncomputable def ob144_6 (P : Params) : Obj := (Obj.mk Value.none none (Data.fields (Array.mk [])) (Array.mk []))
noncomputable def ob145_6 (P : Params) : Obj := (Obj.mk (Value.type "tuple") none (Data.seq (Array.mk ((Value.str (Str.ofString "place") 390) :: [])) 0) (Array.mk []))
noncomputable def ob146_6 (P : Params) : Obj := (Obj.mk (Value.type "tuple") none (Data.seq (Array.mk []) 0) (Array.mk []))
noncomputable def ob147_6 (P : Params) : Obj := (Obj.mk Value.none none (Data.func (FuncData.mk (Str.ofString "_law_weight") (Str.ofString "_law_weight") (fnA 38) (FuncBody.stmts (fnB 38)) (fnS 38) 0 [] Value.none Value.none Value.none Value.none none Value.none Value.none 0)) (Array.mk []))
noncomputable def ob148_6 (P : Params) : Obj := (Obj.mk (Value.type "code") none (Data.fields (Array.mk ((Value.str (Str.ofString "_law_weight") 387) :: (Value.str (Str.ofString "_law_weight") 388) :: (Value.str (Str.ofString "/claim/cut.py") 389) :: (Value.int 119 0) :: (Value.int 1 0) :: (Value.int 0 0) :: (Value.int 0 0) :: (Value.int 3 0) :: (Value.ref 143) :: (Value.bool Bool.true) :: (Value.int 181 0) :: (Value.ref 144) :: Value.none :: (Value.ref 145) :: (Value.ref 146) :: (Value.ref 147) :: (Value.int 391 0) :: (Value.int 119 0) :: (Value.str (Str.ofString "/claim/cut.py") 392) :: []))) (Array.mk []))
noncomputable def ob149_6 (P : Params) : Obj := (Obj.mk (Value.type "function") none (Data.func (FuncData.mk (Str.ofString "_law_weight") (Str.ofString "_law_weight") (fnA 38) (FuncBody.stmts (fnB 38)) (fnS 38) 3 [] Value.none Value.none Value.none (Value.str (Str.ofString "law_op0037_01") 373) none (Value.ref 148) Value.none 0)) (Array.mk []))
noncomputable def ob150_6 (P : Params) : Obj := (Obj.mk (Value.type "tuple") none (Data.seq (Array.mk []) 0) (Array.mk []))
noncomputable def ob151_6 (P : Params) : Obj := (Obj.mk Value.none none (Data.fields (Array.mk [])) (Array.mk []))
noncomputable def ob152_6 (P : Params) : Obj := (Obj.mk (Value.type "tuple") none (Data.seq (Array.mk ((Value.str (Str.ofString "mode") 397) :: (Value.str (Str.ofString "place") 398) :: [])) 0) (Array.mk []))
noncomputable def ob153_6 (P : Params) : Obj := (Obj.mk (Value.type "tuple") none (Data.seq (Array.mk []) 0) (Array.mk []))
noncomputable def ob154_6 (P : Params) : Obj := (Obj.mk Value.none none (Data.func (FuncData.mk (Str.ofString "_law_turned") (Str.ofString "_law_turned") (fnA 39) (FuncBody.stmts (fnB 39)) (fnS 39) 0 [] Value.none Value.none Value.none Value.none none Value.none Value.none 0)) (Array.mk []))
noncomputable def ob155_6 (P : Params) : Obj := (Obj.mk (Value.type "code") none (Data.fields (Array.mk ((Value.str (Str.ofString "_law_turned") 394) :: (Value.str (Str.ofString "_law_turned") 395) :: (Value.str (Str.ofString "/claim/cut.py") 396) :: (Value.int 121 0) :: (Value.int 2 0) :: (Value.int 0 0) :: (Value.int 0 0) :: (Value.int 3 0) :: (Value.ref 150) :: (Value.bool Bool.true) :: (Value.int 181 0) :: (Value.ref 151) :: Value.none :: (Value.ref 152) :: (Value.ref 153) :: (Value.ref 154) :: (Value.int 399 0) :: (Value.int 121 0) :: (Value.str (Str.ofString "/claim/cut.py") 400) :: []))) (Array.mk []))
noncomputable def ob156_6 (P : Params) : Obj := (Obj.mk (Value.type "function") none (Data.func (FuncData.mk (Str.ofString "_law_turned") (Str.ofString "_law_turned") (fnA 39) (FuncBody.stmts (fnB 39)) (fnS 39) 3 [] Value.none Value.none Value.none (Value.str (Str.ofString "law_op0037_01") 373) none (Value.ref 155) Value.none 0)) (Array.mk []))
noncomputable def hT6 (P : Params) : BT := (.node (boot_o_0 P) (.node (boot_o_1 P) (.node (ob3_6 P) (.node (boot_o_7 P) (.node (ob15_1 P) (.node (ob31_2 P) (.node (ob63_3 P) (.node (ob127_6 P) .nil .nil) .nil) (.node (ob95_5 P) .nil .nil)) (.node (ob47_3 P) (.node (ob79_3 P) (.node (ob143_6 P) .nil .nil) .nil) (.node (ob111_5 P) .nil .nil))) (.node (ob23_1 P) (.node (ob39_2 P) (.node (ob71_3 P) (.node (ob135_6 P) .nil .nil) .nil) (.node (ob103_5 P) .nil .nil)) (.node (ob55_3 P) (.node (ob87_3 P) (.node (ob151_6 P) .nil .nil) .nil) (.node (ob119_5 P) .nil .nil)))) (.node (ob11_a P) (.node (ob19_1 P) (.node (ob35_2 P) (.node (ob67_3 P) (.node (ob131_6 P) .nil .nil) .nil) (.node (ob99_5 P) .nil .nil)) (.node (ob51_3 P) (.node (ob83_3 P) (.node (ob147_6 P) .nil .nil) .nil) (.node (ob115_5 P) .nil .nil))) (.node (ob27_1 P) (.node (ob43_2 P) (.node (ob75_3 P) (.node (ob139_6 P) .nil .nil) .nil) (.node (ob107_5 P) .nil .nil)) (.node (ob59_3 P) (.node (ob91_5 P) (.node (ob155_6 P) .nil .nil) .nil) (.node (ob123_5 P) .nil .nil))))) (.node (boot_o_5 P) (.node (boot_o_9 P) (.node (ob17_1 P) (.node (ob33_1 P) (.node (ob65_3 P) (.node (ob129_6 P) .nil .nil) .nil) (.node (ob97_5 P) .nil .nil)) (.node (ob49_3 P) (.node (ob81_3 P) (.node (ob145_6 P) .nil .nil) .nil) (.node (ob113_5 P) .nil .nil))) (.node (ob25_1 P) (.node (ob41_2 P) (.node (ob73_3 P) (.node (ob137_6 P) .nil .nil) .nil) (.node (ob105_5 P) .nil .nil)) (.node (ob57_3 P) (.node (ob89_3 P) (.node (ob153_6 P) .nil .nil) .nil) (.node (ob121_5 P) .nil .nil)))) (.node (ob13_a P) (.node (ob21_1 P) (.node (ob37_2 P) (.node (ob69_3 P) (.node (ob133_6 P) .nil .nil) .nil) (.node (ob101_5 P) .nil .nil)) (.node (ob53_3 P) (.node (ob85_3 P) (.node (ob149_6 P) .nil .nil) .nil) (.node (ob117_5 P) .nil .nil))) (.node (ob29_1 P) (.node (ob45_2 P) (.node (ob77_3 P) (.node (ob141_6 P) .nil .nil) .nil) (.node (ob109_5 P) .nil .nil)) (.node (ob61_3 P) (.node (ob93_5 P) .nil .nil) (.node (ob125_6 P) .nil .nil)))))) (.node (ob2_1 P) (.node (boot_o_4 P) (.node (boot_o_8 P) (.node (ob16_1 P) (.node (ob32_1 P) (.node (ob64_3 P) (.node (ob128_6 P) .nil .nil) .nil) (.node (ob96_5 P) .nil .nil)) (.node (ob48_3 P) (.node (ob80_3 P) (.node (ob144_6 P) .nil .nil) .nil) (.node (ob112_5 P) .nil .nil))) (.node (ob24_1 P) (.node (ob40_2 P) (.node (ob72_3 P) (.node (ob136_6 P) .nil .nil) .nil) (.node (ob104_5 P) .nil .nil)) (.node (ob56_3 P) (.node (ob88_3 P) (.node (ob152_6 P) .nil .nil) .nil) (.node (ob120_5 P) .nil .nil)))) (.node (ob12_6 P) (.node (ob20_1 P) (.node (ob36_2 P) (.node (ob68_3 P) (.node (ob132_6 P) .nil .nil) .nil) (.node (ob100_5 P) .nil .nil)) (.node (ob52_3 P) (.node (ob84_3 P) (.node (ob148_6 P) .nil .nil) .nil) (.node (ob116_5 P) .nil .nil))) (.node (ob28_1 P) (.node (ob44_2 P) (.node (ob76_3 P) (.node (ob140_6 P) .nil .nil) .nil) (.node (ob108_5 P) .nil .nil)) (.node (ob60_3 P) (.node (ob92_5 P) (.node (ob156_6 P) .nil .nil) .nil) (.node (ob124_6 P) .nil .nil))))) (.node (boot_o_6 P) (.node (boot_o_10 P) (.node (ob18_1 P) (.node (ob34_1 P) (.node (ob66_3 P) (.node (ob130_6 P) .nil .nil) .nil) (.node (ob98_5 P) .nil .nil)) (.node (ob50_3 P) (.node (ob82_3 P) (.node (ob146_6 P) .nil .nil) .nil) (.node (ob114_5 P) .nil .nil))) (.node (ob26_1 P) (.node (ob42_2 P) (.node (ob74_3 P) (.node (ob138_6 P) .nil .nil) .nil) (.node (ob106_5 P) .nil .nil)) (.node (ob58_3 P) (.node (ob90_3 P) (.node (ob154_6 P) .nil .nil) .nil) (.node (ob122_5 P) .nil .nil)))) (.node (ob14_a P) (.node (ob22_1 P) (.node (ob38_2 P) (.node (ob70_3 P) (.node (ob134_6 P) .nil .nil) .nil) (.node (ob102_5 P) .nil .nil)) (.node (ob54_3 P) (.node (ob86_3 P) (.node (ob150_6 P) .nil .nil) .nil) (.node (ob118_5 P) .nil .nil))) (.node (ob30_1 P) (.node (ob46_2 P) (.node (ob78_3 P) (.node (ob142_6 P) .nil .nil) .nil) (.node (ob110_5 P) .nil .nil)) (.node (ob62_3 P) (.node (ob94_5 P) .nil .nil) (.node (ob126_6 P) .nil .nil)))))))
noncomputable def ob3_7 (P : Params) : Obj := (Obj.mk (Value.type "dict") none (Data.dict (Array.mk ((DictEntry.mk (PyData.keyHash P (Str.ofString "__name__")) (Value.str (Str.ofString "__name__") 165) (Value.str (Str.ofString "law_op0037_01") 373)) :: (DictEntry.mk (PyData.keyHash P (Str.ofString "__doc__")) (Value.str (Str.ofString "__doc__") 166) Value.none) :: (DictEntry.mk (PyData.keyHash P (Str.ofString "__package__")) (Value.str (Str.ofString "__package__") 167) Value.none) :: (DictEntry.mk (PyData.keyHash P (Str.ofString "__loader__")) (Value.str (Str.ofString "__loader__") 168) (Value.builtin "__main__.__loader__#opaque")) :: (DictEntry.mk (PyData.keyHash P (Str.ofString "__spec__")) (Value.str (Str.ofString "__spec__") 169) Value.none) :: (DictEntry.mk (PyData.keyHash P (Str.ofString "__annotations__")) (Value.str (Str.ofString "__annotations__") 170) (Value.ref 6)) :: (DictEntry.mk (PyData.keyHash P (Str.ofString "__builtins__")) (Value.str (Str.ofString "__builtins__") 171) (Value.ref 4)) :: (DictEntry.mk (PyData.keyHash P (Str.ofString "__file__")) (Value.str (Str.ofString "__file__") 173) (Value.str (Str.ofString "/claim/cut.py") 172)) :: (DictEntry.mk (PyData.keyHash P (Str.ofString "__cached__")) (Value.str (Str.ofString "__cached__") 174) Value.none) :: (DictEntry.mk (PyData.keyHash P (Str.ofString "_wall")) (Value.str (Str.ofString "_wall") 193) (Value.ref 21)) :: (DictEntry.mk (PyData.keyHash P (Str.ofString "Error")) (Value.str (Str.ofString "Error") 215) (Value.ref 31)) :: (DictEntry.mk (PyData.keyHash P (Str.ofString "error_reply")) (Value.str (Str.ofString "error_reply") 231) (Value.ref 44)) :: (DictEntry.mk (PyData.keyHash P (Str.ofString "parse257")) (Value.str (Str.ofString "parse257") 242) (Value.ref 53)) :: (DictEntry.mk (PyData.keyHash P (Str.ofString "_buffer")) (Value.str (Str.ofString "_buffer") 252) (Value.ref 60)) :: (DictEntry.mk (PyData.keyHash P (Str.ofString "_truth")) (Value.str (Str.ofString "_truth") 260) (Value.ref 67)) :: (DictEntry.mk (PyData.keyHash P (Str.ofString "_B64")) (Value.str (Str.ofString "_B64") 262) (Value.bytes (Array.mk (65 :: 66 :: 67 :: 68 :: 69 :: 70 :: 71 :: 72 :: 73 :: 74 :: 75 :: 76 :: 77 :: 78 :: 79 :: 80 :: 81 :: 82 :: 83 :: 84 :: 85 :: 86 :: 87 :: 88 :: 89 :: 90 :: 97 :: 98 :: 99 :: 100 :: 101 :: 102 :: 103 :: 104 :: 105 :: 106 :: 107 :: 108 :: 109 :: 110 :: 111 :: 112 :: 113 :: 114 :: 115 :: 116 :: 117 :: 118 :: 119 :: 120 :: 121 :: 122 :: 48 :: 49 :: 50 :: 51 :: 52 :: 53 :: 54 :: 55 :: 56 :: 57 :: 43 :: 47 :: [])) 261)) :: (DictEntry.mk (PyData.keyHash P (Str.ofString "b2a_base64")) (Value.str (Str.ofString "b2a_base64") 276) (Value.ref 75)) :: (DictEntry.mk (PyData.keyHash P (Str.ofString "b64encode")) (Value.str (Str.ofString "b64encode") 287) (Value.ref 83)) :: (DictEntry.mk (PyData.keyHash P (Str.ofString "S_IFMT")) (Value.str (Str.ofString "S_IFMT") 296) (Value.ref 90)) :: (DictEntry.mk (PyData.keyHash P (Str.ofString "S_IFDIR")) (Value.str (Str.ofString "S_IFDIR") 298) (Value.int 16384 297)) :: (DictEntry.mk (PyData.keyHash P (Str.ofString "S_IFCHR")) (Value.str (Str.ofString "S_IFCHR") 300) (Value.int 8192 299)) :: (DictEntry.mk (PyData.keyHash P (Str.ofString "S_IFBLK")) (Value.str (Str.ofString "S_IFBLK") 302) (Value.int 24576 301)) :: (DictEntry.mk (PyData.keyHash P (Str.ofString "S_IFREG")) (Value.str (Str.ofString "S_IFREG") 304) (Value.int 32768 303)) :: (DictEntry.mk (PyData.keyHash P (Str.ofString "S_IFIFO")) (Value.str (Str.ofString "S_IFIFO") 306) (Value.int 4096 305)) :: (DictEntry.mk (PyData.keyHash P (Str.ofString "S_IFLNK")) (Value.str (Str.ofString "S_IFLNK") 308) (Value.int 40960 307)) :: (DictEntry.mk (PyData.keyHash P (Str.ofString "S_IFSOCK")) (Value.str (Str.ofString "S_IFSOCK") 310) (Value.int 49152 309)) :: (DictEntry.mk (PyData.keyHash P (Str.ofString "S_ISUID")) (Value.str (Str.ofString "S_ISUID") 312) (Value.int 2048 311)) :: (DictEntry.mk (PyData.keyHash P (Str.ofString "S_ISGID")) (Value.str (Str.ofString "S_ISGID") 314) (Value.int 1024 313)) :: (DictEntry.mk (PyData.keyHash P (Str.ofString "S_ISVTX")) (Value.str (Str.ofString "S_ISVTX") 316) (Value.int 512 315)) :: (DictEntry.mk (PyData.keyHash P (Str.ofString "S_IRUSR")) (Value.str (Str.ofString "S_IRUSR") 318) (Value.int 256 317)) :: (DictEntry.mk (PyData.keyHash P (Str.ofString "S_IWUSR")) (Value.str (Str.ofString "S_IWUSR") 320) (Value.int 128 319)) :: (DictEntry.mk (PyData.keyHash P (Str.ofString "S_IXUSR")) (Value.str (Str.ofString "S_IXUSR") 322) (Value.int 64 321)) :: (DictEntry.mk (PyData.keyHash P (Str.ofString "S_IRGRP")) (Value.str (Str.ofString "S_IRGRP") 324) (Value.int 32 323)) :: (DictEntry.mk (PyData.keyHash P (Str.ofString "S_IWGRP")) (Value.str (Str.ofString "S_IWGRP") 326) (Value.int 16 325)) :: (DictEntry.mk (PyData.keyHash P (Str.ofString "S_IXGRP")) (Value.str (Str.ofString "S_IXGRP") 328) (Value.int 8 327)) :: (DictEntry.mk (PyData.keyHash P (Str.ofString "S_IROTH")) (Value.str (Str.ofString "S_IROTH") 330) (Value.int 4 329)) :: (DictEntry.mk (PyData.keyHash P (Str.ofString "S_IWOTH")) (Value.str (Str.ofString "S_IWOTH") 332) (Value.int 2 331)) :: (DictEntry.mk (PyData.keyHash P (Str.ofString "S_IXOTH")) (Value.str (Str.ofString "S_IXOTH") 334) (Value.int 1 333)) :: (DictEntry.mk (PyData.keyHash P (Str.ofString "_filemode_table")) (Value.str (Str.ofString "_filemode_table") 360) (Value.ref 123)) :: (DictEntry.mk (PyData.keyHash P (Str.ofString "filemode")) (Value.str (Str.ofString "filemode") 372) (Value.ref 130)) :: (DictEntry.mk (PyData.keyHash P (Str.ofString "_law_places")) (Value.str (Str.ofString "_law_places") 380) (Value.ref 137)) :: (DictEntry.mk (PyData.keyHash P (Str.ofString "_law_word")) (Value.str (Str.ofString "_law_word") 386) (Value.ref 142)) :: (DictEntry.mk (PyData.keyHash P (Str.ofString "_law_weight")) (Value.str (Str.ofString "_law_weight") 393) (Value.ref 149)) :: (DictEntry.mk (PyData.keyHash P (Str.ofString "_law_turned")) (Value.str (Str.ofString "_law_turned") 401) (Value.ref 156)) :: (DictEntry.mk (PyData.keyHash P (Str.ofString "_law_rights")) (Value.str (Str.ofString "_law_rights") 414) (Value.ref 163)) :: (DictEntry.mk (PyData.keyHash P (Str.ofString "_law_told")) (Value.str (Str.ofString "_law_told") 422) (Value.ref 170)) :: (DictEntry.mk (PyData.keyHash P (Str.ofString "_law_odd")) (Value.str (Str.ofString "_law_odd") 428) (Value.ref 175)) :: (DictEntry.mk (PyData.keyHash P (Str.ofString "_law_heard")) (Value.str (Str.ofString "_law_heard") 434) (Value.ref 180)) :: (DictEntry.mk (PyData.keyHash P (Str.ofString "_law_written")) (Value.str (Str.ofString "_law_written") 440) (Value.ref 185)) :: (DictEntry.mk (PyData.keyHash P (Str.ofString "law")) (Value.str (Str.ofString "law") 446) (Value.ref 190)) :: [])) 50) (Array.mk []))
noncomputable def ob12_7 (P : Params) : Obj := (Obj.mk Value.none none (Data.fields (Array.mk ((Value.int 1 0) :: (Value.int 0 0) :: (Value.ref 20) :: (Value.int 5 0) :: (Value.int 0 0) :: (Value.ref 27) :: (Value.int 7 0) :: (Value.int 0 0) :: (Value.ref 40) :: (Value.int 9 0) :: (Value.int 0 0) :: (Value.ref 52) :: (Value.int 27 0) :: (Value.int 0 0) :: (Value.ref 59) :: (Value.int 34 0) :: (Value.int 0 0) :: (Value.ref 66) :: (Value.int 40 0) :: (Value.int 0 0) :: (Value.ref 74) :: (Value.int 63 0) :: (Value.int 0 0) :: (Value.ref 82) :: (Value.int 70 0) :: (Value.int 0 0) :: (Value.ref 89) :: (Value.int 92 0) :: (Value.int 0 0) :: (Value.ref 129) :: (Value.int 110 0) :: (Value.int 0 0) :: (Value.ref 136) :: (Value.int 112 0) :: (Value.int 0 0) :: (Value.ref 141) :: (Value.int 119 0) :: (Value.int 0 0) :: (Value.ref 148) :: (Value.int 121 0) :: (Value.int 0 0) :: (Value.ref 155) :: (Value.int 123 0) :: (Value.int 0 0) :: (Value.ref 162) :: (Value.int 135 0) :: (Value.int 0 0) :: (Value.ref 169) :: (Value.int 140 0) :: (Value.int 0 0) :: (Value.ref 174) :: (Value.int 155 0) :: (Value.int 0 0) :: (Value.ref 179) :: (Value.int 169 0) :: (Value.int 0 0) :: (Value.ref 184) :: (Value.int 177 0) :: (Value.int 0 0) :: (Value.ref 189) :: []))) (Array.mk []))
noncomputable def ob157_7 (P : Params) : Obj := (Obj.mk (Value.type "tuple") none (Data.seq (Array.mk []) 0) (Array.mk []))
noncomputable def ob158_7 (P : Params) : Obj := (Obj.mk Value.none none (Data.fields (Array.mk [])) (Array.mk []))
noncomputable def ob159_7 (P : Params) : Obj := (Obj.mk (Value.type "tuple") none (Data.seq (Array.mk ((Value.str (Str.ofString "mode") 405) :: (Value.str (Str.ofString "listing") 406) :: (Value.str (Str.ofString "above") 407) :: (Value.str (Str.ofString "plain") 408) :: (Value.str (Str.ofString "k") 409) :: (Value.str (Str.ofString "ends") 410) :: (Value.str (Str.ofString "figures") 411) :: [])) 0) (Array.mk []))
noncomputable def ob160_7 (P : Params) : Obj := (Obj.mk (Value.type "tuple") none (Data.seq (Array.mk []) 0) (Array.mk []))
noncomputable def ob161_7 (P : Params) : Obj := (Obj.mk Value.none none (Data.func (FuncData.mk (Str.ofString "_law_rights") (Str.ofString "_law_rights") (fnA 40) (FuncBody.stmts (fnB 40)) (fnS 40) 0 [] Value.none Value.none Value.none Value.none none Value.none Value.none 0)) (Array.mk []))
noncomputable def ob162_7 (P : Params) : Obj := (Obj.mk (Value.type "code") none (Data.fields (Array.mk ((Value.str (Str.ofString "_law_rights") 402) :: (Value.str (Str.ofString "_law_rights") 403) :: (Value.str (Str.ofString "/claim/cut.py") 404) :: (Value.int 123 0) :: (Value.int 1 0) :: (Value.int 0 0) :: (Value.int 0 0) :: (Value.int 3 0) :: (Value.ref 157) :: (Value.bool Bool.true) :: (Value.int 181 0) :: (Value.ref 158) :: Value.none :: (Value.ref 159) :: (Value.ref 160) :: (Value.ref 161) :: (Value.int 412 0) :: (Value.int 123 0) :: (Value.str (Str.ofString "/claim/cut.py") 413) :: []))) (Array.mk []))
noncomputable def ob163_7 (P : Params) : Obj := (Obj.mk (Value.type "function") none (Data.func (FuncData.mk (Str.ofString "_law_rights") (Str.ofString "_law_rights") (fnA 40) (FuncBody.stmts (fnB 40)) (fnS 40) 3 [] Value.none Value.none Value.none (Value.str (Str.ofString "law_op0037_01") 373) none (Value.ref 162) Value.none 0)) (Array.mk []))
noncomputable def ob164_7 (P : Params) : Obj := (Obj.mk (Value.type "tuple") none (Data.seq (Array.mk []) 0) (Array.mk []))
noncomputable def ob165_7 (P : Params) : Obj := (Obj.mk Value.none none (Data.fields (Array.mk [])) (Array.mk []))
noncomputable def ob166_7 (P : Params) : Obj := (Obj.mk (Value.type "tuple") none (Data.seq (Array.mk ((Value.str (Str.ofString "reply") 418) :: (Value.str (Str.ofString "error") 419) :: [])) 0) (Array.mk []))
noncomputable def ob167_7 (P : Params) : Obj := (Obj.mk (Value.type "tuple") none (Data.seq (Array.mk []) 0) (Array.mk []))
noncomputable def ob168_7 (P : Params) : Obj := (Obj.mk Value.none none (Data.func (FuncData.mk (Str.ofString "_law_told") (Str.ofString "_law_told") (fnA 41) (FuncBody.stmts (fnB 41)) (fnS 41) 0 [] Value.none Value.none Value.none Value.none none Value.none Value.none 0)) (Array.mk []))
noncomputable def ob169_7 (P : Params) : Obj := (Obj.mk (Value.type "code") none (Data.fields (Array.mk ((Value.str (Str.ofString "_law_told") 415) :: (Value.str (Str.ofString "_law_told") 416) :: (Value.str (Str.ofString "/claim/cut.py") 417) :: (Value.int 135 0) :: (Value.int 1 0) :: (Value.int 0 0) :: (Value.int 0 0) :: (Value.int 3 0) :: (Value.ref 164) :: (Value.bool Bool.true) :: (Value.int 181 0) :: (Value.ref 165) :: Value.none :: (Value.ref 166) :: (Value.ref 167) :: (Value.ref 168) :: (Value.int 420 0) :: (Value.int 135 0) :: (Value.str (Str.ofString "/claim/cut.py") 421) :: []))) (Array.mk []))
noncomputable def ob170_7 (P : Params) : Obj := (Obj.mk (Value.type "function") none (Data.func (FuncData.mk (Str.ofString "_law_told") (Str.ofString "_law_told") (fnA 41) (FuncBody.stmts (fnB 41)) (fnS 41) 3 [] Value.none Value.none Value.none (Value.str (Str.ofString "law_op0037_01") 373) none (Value.ref 169) Value.none 0)) (Array.mk []))
noncomputable def ob171_7 (P : Params) : Obj := (Obj.mk (Value.type "tuple") none (Data.seq (Array.mk []) 0) (Array.mk []))
noncomputable def ob172_7 (P : Params) : Obj := (Obj.mk Value.none none (Data.fields (Array.mk [])) (Array.mk []))
noncomputable def ob173_7 (P : Params) : Obj := (Obj.mk Value.none none (Data.func (FuncData.mk (Str.ofString "_law_odd") (Str.ofString "_law_odd") (fnA 42) (FuncBody.stmts (fnB 42)) (fnS 42) 0 [] Value.none Value.none Value.none Value.none none Value.none Value.none 0)) (Array.mk []))
noncomputable def ob174_7 (P : Params) : Obj := (Obj.mk (Value.type "code") none (Data.fields (Array.mk ((Value.str (Str.ofString "_law_odd") 423) :: (Value.str (Str.ofString "_law_odd") 424) :: (Value.str (Str.ofString "/claim/cut.py") 425) :: (Value.int 140 0) :: (Value.int 2 0) :: (Value.int 0 0) :: (Value.int 0 0) :: (Value.int 3 0) :: (Value.ref 171) :: (Value.bool Bool.true) :: (Value.int 181 0) :: (Value.ref 172) :: Value.none :: Value.none :: Value.none :: (Value.ref 173) :: (Value.int 426 0) :: (Value.int 140 0) :: (Value.str (Str.ofString "/claim/cut.py") 427) :: []))) (Array.mk []))
noncomputable def ob175_7 (P : Params) : Obj := (Obj.mk (Value.type "function") none (Data.func (FuncData.mk (Str.ofString "_law_odd") (Str.ofString "_law_odd") (fnA 42) (FuncBody.stmts (fnB 42)) (fnS 42) 3 [] Value.none Value.none Value.none (Value.str (Str.ofString "law_op0037_01") 373) none (Value.ref 174) Value.none 0)) (Array.mk []))
noncomputable def ob176_7 (P : Params) : Obj := (Obj.mk (Value.type "tuple") none (Data.seq (Array.mk []) 0) (Array.mk []))
noncomputable def ob177_7 (P : Params) : Obj := (Obj.mk Value.none none (Data.fields (Array.mk [])) (Array.mk []))
noncomputable def ob178_7 (P : Params) : Obj := (Obj.mk Value.none none (Data.func (FuncData.mk (Str.ofString "_law_heard") (Str.ofString "_law_heard") (fnA 43) (FuncBody.stmts (fnB 43)) (fnS 43) 0 [] Value.none Value.none Value.none Value.none none Value.none Value.none 0)) (Array.mk []))
noncomputable def ob179_7 (P : Params) : Obj := (Obj.mk (Value.type "code") none (Data.fields (Array.mk ((Value.str (Str.ofString "_law_heard") 429) :: (Value.str (Str.ofString "_law_heard") 430) :: (Value.str (Str.ofString "/claim/cut.py") 431) :: (Value.int 155 0) :: (Value.int 1 0) :: (Value.int 0 0) :: (Value.int 0 0) :: (Value.int 3 0) :: (Value.ref 176) :: (Value.bool Bool.true) :: (Value.int 181 0) :: (Value.ref 177) :: Value.none :: Value.none :: Value.none :: (Value.ref 178) :: (Value.int 432 0) :: (Value.int 155 0) :: (Value.str (Str.ofString "/claim/cut.py") 433) :: []))) (Array.mk []))
noncomputable def ob180_7 (P : Params) : Obj := (Obj.mk (Value.type "function") none (Data.func (FuncData.mk (Str.ofString "_law_heard") (Str.ofString "_law_heard") (fnA 43) (FuncBody.stmts (fnB 43)) (fnS 43) 3 [] Value.none Value.none Value.none (Value.str (Str.ofString "law_op0037_01") 373) none (Value.ref 179) Value.none 0)) (Array.mk []))
noncomputable def ob181_7 (P : Params) : Obj := (Obj.mk (Value.type "tuple") none (Data.seq (Array.mk []) 0) (Array.mk []))
noncomputable def ob182_7 (P : Params) : Obj := (Obj.mk Value.none none (Data.fields (Array.mk [])) (Array.mk []))
noncomputable def ob183_7 (P : Params) : Obj := (Obj.mk Value.none none (Data.func (FuncData.mk (Str.ofString "_law_written") (Str.ofString "_law_written") (fnA 44) (FuncBody.stmts (fnB 44)) (fnS 44) 0 [] Value.none Value.none Value.none Value.none none Value.none Value.none 0)) (Array.mk []))
noncomputable def ob184_7 (P : Params) : Obj := (Obj.mk (Value.type "code") none (Data.fields (Array.mk ((Value.str (Str.ofString "_law_written") 435) :: (Value.str (Str.ofString "_law_written") 436) :: (Value.str (Str.ofString "/claim/cut.py") 437) :: (Value.int 169 0) :: (Value.int 1 0) :: (Value.int 0 0) :: (Value.int 0 0) :: (Value.int 3 0) :: (Value.ref 181) :: (Value.bool Bool.true) :: (Value.int 181 0) :: (Value.ref 182) :: Value.none :: Value.none :: Value.none :: (Value.ref 183) :: (Value.int 438 0) :: (Value.int 169 0) :: (Value.str (Str.ofString "/claim/cut.py") 439) :: []))) (Array.mk []))
noncomputable def ob185_7 (P : Params) : Obj := (Obj.mk (Value.type "function") none (Data.func (FuncData.mk (Str.ofString "_law_written") (Str.ofString "_law_written") (fnA 44) (FuncBody.stmts (fnB 44)) (fnS 44) 3 [] Value.none Value.none Value.none (Value.str (Str.ofString "law_op0037_01") 373) none (Value.ref 184) Value.none 0)) (Array.mk []))
noncomputable def ob186_7 (P : Params) : Obj := (Obj.mk (Value.type "tuple") none (Data.seq (Array.mk []) 0) (Array.mk []))
noncomputable def ob187_7 (P : Params) : Obj := (Obj.mk Value.none none (Data.fields (Array.mk [])) (Array.mk []))
noncomputable def ob188_7 (P : Params) : Obj := (Obj.mk Value.none none (Data.func (FuncData.mk (Str.ofString "law") (Str.ofString "law") (fnA 45) (FuncBody.stmts (fnB 45)) (fnS 45) 0 [] Value.none Value.none Value.none Value.none none Value.none Value.none 0)) (Array.mk []))
noncomputable def ob189_7 (P : Params) : Obj := (Obj.mk (Value.type "code") none (Data.fields (Array.mk ((Value.str (Str.ofString "law") 441) :: (Value.str (Str.ofString "law") 442) :: (Value.str (Str.ofString "/claim/cut.py") 443) :: (Value.int 177 0) :: (Value.int 1 0) :: (Value.int 0 0) :: (Value.int 0 0) :: (Value.int 3 0) :: (Value.ref 186) :: (Value.bool Bool.true) :: (Value.int 181 0) :: (Value.ref 187) :: Value.none :: Value.none :: Value.none :: (Value.ref 188) :: (Value.int 444 0) :: (Value.int 177 0) :: (Value.str (Str.ofString "/claim/cut.py") 445) :: []))) (Array.mk []))
noncomputable def ob190_7 (P : Params) : Obj := (Obj.mk (Value.type "function") none (Data.func (FuncData.mk (Str.ofString "law") (Str.ofString "law") (fnA 45) (FuncBody.stmts (fnB 45)) (fnS 45) 3 [] Value.none Value.none Value.none (Value.str (Str.ofString "law_op0037_01") 373) none (Value.ref 189) Value.none 0)) (Array.mk []))
noncomputable def hT7 (P : Params) : BT := (.node (boot_o_0 P) (.node (boot_o_1 P) (.node (ob3_7 P) (.node (boot_o_7 P) (.node (ob15_1 P) (.node (ob31_2 P) (.node (ob63_3 P) (.node (ob127_6 P) .nil .nil) .nil) (.node (ob95_5 P) (.node (ob159_7 P) .nil .nil) .nil)) (.node (ob47_3 P) (.node (ob79_3 P) (.node (ob143_6 P) .nil .nil) .nil) (.node (ob111_5 P) (.node (ob175_7 P) .nil .nil) .nil))) (.node (ob23_1 P) (.node (ob39_2 P) (.node (ob71_3 P) (.node (ob135_6 P) .nil .nil) .nil) (.node (ob103_5 P) (.node (ob167_7 P) .nil .nil) .nil)) (.node (ob55_3 P) (.node (ob87_3 P) (.node (ob151_6 P) .nil .nil) .nil) (.node (ob119_5 P) (.node (ob183_7 P) .nil .nil) .nil)))) (.node (ob11_a P) (.node (ob19_1 P) (.node (ob35_2 P) (.node (ob67_3 P) (.node (ob131_6 P) .nil .nil) .nil) (.node (ob99_5 P) (.node (ob163_7 P) .nil .nil) .nil)) (.node (ob51_3 P) (.node (ob83_3 P) (.node (ob147_6 P) .nil .nil) .nil) (.node (ob115_5 P) (.node (ob179_7 P) .nil .nil) .nil))) (.node (ob27_1 P) (.node (ob43_2 P) (.node (ob75_3 P) (.node (ob139_6 P) .nil .nil) .nil) (.node (ob107_5 P) (.node (ob171_7 P) .nil .nil) .nil)) (.node (ob59_3 P) (.node (ob91_5 P) (.node (ob155_6 P) .nil .nil) .nil) (.node (ob123_5 P) (.node (ob187_7 P) .nil .nil) .nil))))) (.node (boot_o_5 P) (.node (boot_o_9 P) (.node (ob17_1 P) (.node (ob33_1 P) (.node (ob65_3 P) (.node (ob129_6 P) .nil .nil) .nil) (.node (ob97_5 P) (.node (ob161_7 P) .nil .nil) .nil)) (.node (ob49_3 P) (.node (ob81_3 P) (.node (ob145_6 P) .nil .nil) .nil) (.node (ob113_5 P) (.node (ob177_7 P) .nil .nil) .nil))) (.node (ob25_1 P) (.node (ob41_2 P) (.node (ob73_3 P) (.node (ob137_6 P) .nil .nil) .nil) (.node (ob105_5 P) (.node (ob169_7 P) .nil .nil) .nil)) (.node (ob57_3 P) (.node (ob89_3 P) (.node (ob153_6 P) .nil .nil) .nil) (.node (ob121_5 P) (.node (ob185_7 P) .nil .nil) .nil)))) (.node (ob13_a P) (.node (ob21_1 P) (.node (ob37_2 P) (.node (ob69_3 P) (.node (ob133_6 P) .nil .nil) .nil) (.node (ob101_5 P) (.node (ob165_7 P) .nil .nil) .nil)) (.node (ob53_3 P) (.node (ob85_3 P) (.node (ob149_6 P) .nil .nil) .nil) (.node (ob117_5 P) (.node (ob181_7 P) .nil .nil) .nil))) (.node (ob29_1 P) (.node (ob45_2 P) (.node (ob77_3 P) (.node (ob141_6 P) .nil .nil) .nil) (.node (ob109_5 P) (.node (ob173_7 P) .nil .nil) .nil)) (.node (ob61_3 P) (.node (ob93_5 P) (.node (ob157_7 P) .nil .nil) .nil) (.node (ob125_6 P) (.node (ob189_7 P) .nil .nil) .nil)))))) (.node (ob2_1 P) (.node (boot_o_4 P) (.node (boot_o_8 P) (.node (ob16_1 P) (.node (ob32_1 P) (.node (ob64_3 P) (.node (ob128_6 P) .nil .nil) .nil) (.node (ob96_5 P) (.node (ob160_7 P) .nil .nil) .nil)) (.node (ob48_3 P) (.node (ob80_3 P) (.node (ob144_6 P) .nil .nil) .nil) (.node (ob112_5 P) (.node (ob176_7 P) .nil .nil) .nil))) (.node (ob24_1 P) (.node (ob40_2 P) (.node (ob72_3 P) (.node (ob136_6 P) .nil .nil) .nil) (.node (ob104_5 P) (.node (ob168_7 P) .nil .nil) .nil)) (.node (ob56_3 P) (.node (ob88_3 P) (.node (ob152_6 P) .nil .nil) .nil) (.node (ob120_5 P) (.node (ob184_7 P) .nil .nil) .nil)))) (.node (ob12_7 P) (.node (ob20_1 P) (.node (ob36_2 P) (.node (ob68_3 P) (.node (ob132_6 P) .nil .nil) .nil) (.node (ob100_5 P) (.node (ob164_7 P) .nil .nil) .nil)) (.node (ob52_3 P) (.node (ob84_3 P) (.node (ob148_6 P) .nil .nil) .nil) (.node (ob116_5 P) (.node (ob180_7 P) .nil .nil) .nil))) (.node (ob28_1 P) (.node (ob44_2 P) (.node (ob76_3 P) (.node (ob140_6 P) .nil .nil) .nil) (.node (ob108_5 P) (.node (ob172_7 P) .nil .nil) .nil)) (.node (ob60_3 P) (.node (ob92_5 P) (.node (ob156_6 P) .nil .nil) .nil) (.node (ob124_6 P) (.node (ob188_7 P) .nil .nil) .nil))))) (.node (boot_o_6 P) (.node (boot_o_10 P) (.node (ob18_1 P) (.node (ob34_1 P) (.node (ob66_3 P) (.node (ob130_6 P) .nil .nil) .nil) (.node (ob98_5 P) (.node (ob162_7 P) .nil .nil) .nil)) (.node (ob50_3 P) (.node (ob82_3 P) (.node (ob146_6 P) .nil .nil) .nil) (.node (ob114_5 P) (.node (ob178_7 P) .nil .nil) .nil))) (.node (ob26_1 P) (.node (ob42_2 P) (.node (ob74_3 P) (.node (ob138_6 P) .nil .nil) .nil) (.node (ob106_5 P) (.node (ob170_7 P) .nil .nil) .nil)) (.node (ob58_3 P) (.node (ob90_3 P) (.node (ob154_6 P) .nil .nil) .nil) (.node (ob122_5 P) (.node (ob186_7 P) .nil .nil) .nil)))) (.node (ob14_a P) (.node (ob22_1 P) (.node (ob38_2 P) (.node (ob70_3 P) (.node (ob134_6 P) .nil .nil) .nil) (.node (ob102_5 P) (.node (ob166_7 P) .nil .nil) .nil)) (.node (ob54_3 P) (.node (ob86_3 P) (.node (ob150_6 P) .nil .nil) .nil) (.node (ob118_5 P) (.node (ob182_7 P) .nil .nil) .nil))) (.node (ob30_1 P) (.node (ob46_2 P) (.node (ob78_3 P) (.node (ob142_6 P) .nil .nil) .nil) (.node (ob110_5 P) (.node (ob174_7 P) .nil .nil) .nil)) (.node (ob62_3 P) (.node (ob94_5 P) (.node (ob158_7 P) .nil .nil) .nil) (.node (ob126_6 P) (.node (ob190_7 P) .nil .nil) .nil)))))))
noncomputable def hHf (P : Params) : Heap := ⟨⟨boot_o_0 P :: boot_o_1 P :: ob2_1 P :: ob3_7 P :: boot_o_4 P :: boot_o_5 P :: boot_o_6 P :: boot_o_7 P :: boot_o_8 P :: boot_o_9 P :: boot_o_10 P :: ob11_a P :: ob12_7 P :: ob13_a P :: ob14_a P :: ob15_1 P :: ob16_1 P :: ob17_1 P :: ob18_1 P :: ob19_1 P :: ob20_1 P :: ob21_1 P :: ob22_1 P :: ob23_1 P :: ob24_1 P :: ob25_1 P :: ob26_1 P :: ob27_1 P :: ob28_1 P :: ob29_1 P :: ob30_1 P :: ob31_2 P :: ob32_1 P :: ob33_1 P :: ob34_1 P :: ob35_2 P :: ob36_2 P :: ob37_2 P :: ob38_2 P :: ob39_2 P :: ob40_2 P :: ob41_2 P :: ob42_2 P :: ob43_2 P :: ob44_2 P :: ob45_2 P :: ob46_2 P :: ob47_3 P :: ob48_3 P :: ob49_3 P :: ob50_3 P :: ob51_3 P :: ob52_3 P :: ob53_3 P :: ob54_3 P :: ob55_3 P :: ob56_3 P :: ob57_3 P :: ob58_3 P :: ob59_3 P :: ob60_3 P :: ob61_3 P :: ob62_3 P :: ob63_3 P :: ob64_3 P :: ob65_3 P :: ob66_3 P :: ob67_3 P :: ob68_3 P :: ob69_3 P :: ob70_3 P :: ob71_3 P :: ob72_3 P :: ob73_3 P :: ob74_3 P :: ob75_3 P :: ob76_3 P :: ob77_3 P :: ob78_3 P :: ob79_3 P :: ob80_3 P :: ob81_3 P :: ob82_3 P :: ob83_3 P :: ob84_3 P :: ob85_3 P :: ob86_3 P :: ob87_3 P :: ob88_3 P :: ob89_3 P :: ob90_3 P :: ob91_5 P :: ob92_5 P :: ob93_5 P :: ob94_5 P :: ob95_5 P :: ob96_5 P :: ob97_5 P :: ob98_5 P :: ob99_5 P :: ob100_5 P :: ob101_5 P :: ob102_5 P :: ob103_5 P :: ob104_5 P :: ob105_5 P :: ob106_5 P :: ob107_5 P :: ob108_5 P :: ob109_5 P :: ob110_5 P :: ob111_5 P :: ob112_5 P :: ob113_5 P :: ob114_5 P :: ob115_5 P :: ob116_5 P :: ob117_5 P :: ob118_5 P :: ob119_5 P :: ob120_5 P :: ob121_5 P :: ob122_5 P :: ob123_5 P :: ob124_6 P :: ob125_6 P :: ob126_6 P :: ob127_6 P :: ob128_6 P :: ob129_6 P :: ob130_6 P :: ob131_6 P :: ob132_6 P :: ob133_6 P :: ob134_6 P :: ob135_6 P :: ob136_6 P :: ob137_6 P :: ob138_6 P :: ob139_6 P :: ob140_6 P :: ob141_6 P :: ob142_6 P :: ob143_6 P :: ob144_6 P :: ob145_6 P :: ob146_6 P :: ob147_6 P :: ob148_6 P :: ob149_6 P :: ob150_6 P :: ob151_6 P :: ob152_6 P :: ob153_6 P :: ob154_6 P :: ob155_6 P :: ob156_6 P :: ob157_7 P :: ob158_7 P :: ob159_7 P :: ob160_7 P :: ob161_7 P :: ob162_7 P :: ob163_7 P :: ob164_7 P :: ob165_7 P :: ob166_7 P :: ob167_7 P :: ob168_7 P :: ob169_7 P :: ob170_7 P :: ob171_7 P :: ob172_7 P :: ob173_7 P :: ob174_7 P :: ob175_7 P :: ob176_7 P :: ob177_7 P :: ob178_7 P :: ob179_7 P :: ob180_7 P :: ob181_7 P :: ob182_7 P :: ob183_7 P :: ob184_7 P :: ob185_7 P :: ob186_7 P :: ob187_7 P :: ob188_7 P :: ob189_7 P :: ob190_7 P :: []⟩, hLife⟩

noncomputable abbrev hPr : Program := PySem.Challenge.rw_op0037_01.row.prog
theorem piece_take {w : World} {q : Pos} {n N k : Nat} {s s' r : Shared} {l : List Stmt} {c : Code} {pos p' : Pos} (h : segRun treeTable hPr w 11 hAnn 1 n s (piecesOf (l.take k) hEnv c pos [topFrame q]) = some (.next, s', c, p'))
    (x : topRun treeTable hPr w 11 hAnn N s' (restOf (l.drop k) hEnv c p' [topFrame q]) = some r) : topRun treeTable hPr w 11 hAnn (n + N) s (restOf l hEnv c pos [topFrame q]) = some r := by
  have := piece_app h x
  rwa [List.take_append_drop] at this
noncomputable def hD0 : List Stmt := hB
noncomputable def hD1 : List Stmt := hD0.drop 3
noncomputable def hD2 : List Stmt := hD1.drop 1
noncomputable def hD3 : List Stmt := hD2.drop 11
noncomputable def hD4 : List Stmt := hD3.drop 18
noncomputable def hD5 : List Stmt := hD4.drop 1
noncomputable def hD6 : List Stmt := hD5.drop 6
noncomputable def hD7 : List Stmt := hD6.drop 6
theorem hp_open : ∀ w : World, (fencedOpening treeTable hPr w 2794).map (fun s => (s.heap, s.gens, s.drawn, s.toks)) = some (boot_heap w.params, Array.mk [], boot_drawn, boot_toks) :=
  boot_open (by kernel_rfl) (by decide) (fun s => by kernel_rfl)
theorem hp_pre : ∀ (w : World) (os : OsState), topGo treeTable hPr w 11 hAnn 12 ⟨boot_heap w.params, Array.mk [], boot_drawn, boot_toks, os⟩ (topStub hPr) = some (⟨hHa w.params, Array.mk [], hDrawn, 187, os⟩, ⟨denote treeTable hC, hC, (Pos.mk 0 0 0 0), [topFrame hQ]⟩) := by
  intro w os; kernel_rfl
theorem hp_block : ∀ (w : World) (os : OsState), segRun treeTable hPr w 11 hAnn 1 1 ⟨hHa w.params, Array.mk [], hDrawn, 187, os⟩ (blockOf hB hEnv hC (Pos.mk 0 0 0 0) [topFrame hQ]) = some (.next, (SharedT.mk (hT0 w.params) 15 hLife (Array.mk []) hDrawn 187 os).abs, hC, (Pos.mk 0 0 0 0)) := by
  intro w os; kernel_rfl
theorem hp_1 : ∀ (w : World) (os : OsState), segRunT treeTable hPr w 11 hAnn 1 235 (SharedT.mk (hT0 w.params) 15 hLife (Array.mk []) hDrawn 187 os) (piecesOf (hD0.take 3) hEnv hC (Pos.mk 0 0 0 0) [topFrame hQ]) = some (.next, (SharedT.mk (hT1 w.params) 35 hLife (Array.mk []) hDrawn 216 os), hC, (Pos.mk 5 0 6 8)) := by
  intro w os; kernel_rfl
theorem hp_2 : ∀ (w : World) (os : OsState), segRunT treeTable hPr w 11 hAnn 1 214 (SharedT.mk (hT1 w.params) 35 hLife (Array.mk []) hDrawn 216 os) (piecesOf (hD1.take 1) hEnv hC (Pos.mk 5 0 6 8) [topFrame hQ]) = some (.next, (SharedT.mk (hT2 w.params) 47 hLife (Array.mk []) hDrawn 232 os), hC, (Pos.mk 7 0 8 8)) := by
  intro w os; kernel_rfl
theorem hp_3 : ∀ (w : World) (os : OsState), segRunT treeTable hPr w 11 hAnn 1 240 (SharedT.mk (hT2 w.params) 47 hLife (Array.mk []) hDrawn 232 os) (piecesOf (hD2.take 11) hEnv hC (Pos.mk 7 0 8 8) [topFrame hQ]) = some (.next, (SharedT.mk (hT3 w.params) 91 hLife (Array.mk []) hDrawn 299 os), hC, (Pos.mk 72 0 72 7)) := by
  intro w os; kernel_rfl
theorem hp_4 : ∀ (w : World) (os : OsState), segRunT treeTable hPr w 11 hAnn 1 163 (SharedT.mk (hT3 w.params) 91 hLife (Array.mk []) hDrawn 299 os) (piecesOf (hD3.take 18) hEnv hC (Pos.mk 72 0 72 7) [topFrame hQ]) = some (.next, (SharedT.mk (hT4 w.params) 91 hLife (Array.mk []) hDrawn 335 os), hC, (Pos.mk 90 0 90 7)) := by
  intro w os; kernel_rfl
theorem hp_5 : ∀ (w : World) (os : OsState), segRunT treeTable hPr w 11 hAnn 1 162 (SharedT.mk (hT4 w.params) 91 hLife (Array.mk []) hDrawn 335 os) (piecesOf (hD4.take 1) hEnv hC (Pos.mk 90 0 90 7) [topFrame hQ]) = some (.next, (SharedT.mk (hT5 w.params) 124 hLife (Array.mk []) hDrawn 361 os), hC, (Pos.mk 91 0 91 15)) := by
  intro w os; kernel_rfl
theorem hp_6 : ∀ (w : World) (os : OsState), segRunT treeTable hPr w 11 hAnn 1 157 (SharedT.mk (hT5 w.params) 124 hLife (Array.mk []) hDrawn 361 os) (piecesOf (hD5.take 6) hEnv hC (Pos.mk 91 0 91 15) [topFrame hQ]) = some (.next, (SharedT.mk (hT6 w.params) 157 hLife (Array.mk []) hDrawn 402 os), hC, (Pos.mk 121 0 122 54)) := by
  intro w os; kernel_rfl
theorem hp_7 : ∀ (w : World) (os : OsState), segRunT treeTable hPr w 11 hAnn 1 170 (SharedT.mk (hT6 w.params) 157 hLife (Array.mk []) hDrawn 402 os) (piecesOf (hD6.take 6) hEnv hC (Pos.mk 121 0 122 54) [topFrame hQ]) = some (.next, (SharedT.mk (hT7 w.params) 191 hLife (Array.mk []) hDrawn 447 os), hC, (Pos.mk 177 0 194 104)) := by
  intro w os; kernel_rfl
theorem hp_fin : ∀ (w : World) (os : OsState), topRun treeTable hPr w 11 hAnn 2 (SharedT.mk (hT7 w.params) 191 hLife (Array.mk []) hDrawn 447 os).abs (restOf hD7 hEnv hC (Pos.mk 177 0 194 104) [topFrame hQ]) = some ⟨hHf w.params, Array.mk [], hDrawn, 447, os⟩ := by
  intro w os; kernel_rfl
theorem hp_run : ∀ (w : World) (os : OsState), topRun treeTable hPr w 11 hAnn (12 + (1 + (235 + (214 + (240 + (163 + (162 + (157 + (170 + 2))))))))) ⟨boot_heap w.params, Array.mk [], boot_drawn, boot_toks, os⟩ (topStub hPr) = some ⟨hHf w.params, Array.mk [], hDrawn, 447, os⟩ := by
  intro w os
  refine go_top (hp_pre w os) (piece_block (hp_block w os) ?_)
  exact piece_take (segRun_of (hp_1 w os)) (piece_take (segRun_of (hp_2 w os)) (piece_take (segRun_of (hp_3 w os)) (piece_take (segRun_of (hp_4 w os)) (piece_take (segRun_of (hp_5 w os)) (piece_take (segRun_of (hp_6 w os)) (piece_take (segRun_of (hp_7 w os)) (hp_fin w os)))))))
theorem hp_size : ∀ w : World, ((boot_heap w.params).isNs mainGlobals && (Array.mk ([] : List GenState)).size == 0, (boot_heap w.params).objs.size, (boot_heap w.params).nsMap mainGlobals "__annotations__") = (true, 11, hAnn) := by
  intro w; kernel_rfl
noncomputable abbrev hLoose : List Str := [Str.ofString "b2a_base64", Str.ofString "b64encode", Str.ofString "_filemode_table"]
noncomputable abbrev hX : Shared → Bool := fun s => xlAt hd.view_39 [] s && recOk (RowW.records PySem.Challenge.rw_op0037_01.row.toRowW) s
theorem hp_look1 : ∀ (w : World) (os : OsState), (staticsOk (importedModules hPr.main.body) (boot_heap w.params) (hHf w.params) && namesBound hPr (hHf w.params) && gensDone (⟨hHf w.params, Array.mk [], hDrawn, 447, os⟩ : Shared) && laidKept (boot_heap w.params) (hHf w.params)) = true := by
  intro w os; kernel_rfl
theorem hp_look2 : ∀ (w : World) (os : OsState), openSeen hd.view_39 hLoose (importedModules hPr.main.body) hX true (⟨hHf w.params, Array.mk [], hDrawn, 447, os⟩ : Shared) = openGood hd.view_39 hLoose := by
  intro w os; kernel_rfl
theorem hp_look3 : ∀ (w : World) (os : OsState), (Hook.obs (kHook hd.heap_39 hdAs hdE)) (⟨hHf w.params, Array.mk [], hDrawn, 447, os⟩ : Shared) = (Hook.val (kHook hd.heap_39 hdAs hdE)) w := by
  intro w os; kernel_rfl
theorem left : LeftO PySem.Challenge.rw_op0037_01.row.prog hd.view_39 [Str.ofString "b2a_base64", Str.ofString "b64encode", Str.ofString "_filemode_table"]
    (fun s => xlAt hd.view_39 [] s && recOk (RowW.records PySem.Challenge.rw_op0037_01.row.toRowW) s) (Hook.obs (kHook hd.heap_39 hdAs hdE)) (Hook.val (kHook hd.heap_39 hdAs hdE)) 2794 :=
  LeftO.of_pieces hp_open hp_size hp_run (by decide) (fun w => funext fun os => looks_pair (hp_look1 w os) (looks_pair (hp_look2 w os) (hp_look3 w os)))
theorem hdFill : hd.heap_39 = hd.heap_39 ∧ PySem.Challenge.rw_op0037_01 = PySem.Challenge.rw_op0037_01 := by
  k_fill
  exact ⟨rfl, rfl⟩
noncomputable abbrev Pg : Program := PySem.Challenge.rw_op0037_01.prog
noncomputable abbrev Lo : List Str := looseW hd.view_39 [Str.ofString "b2a_base64", Str.ofString "b64encode", Str.ofString "_filemode_table"]
noncomputable abbrev fnScope (ns : List (Str × NameKind)) (ig ic : Bool) (mo : List (Str × Const)) : Scope := ⟨.function, ns, ig, ic, mo⟩
noncomputable abbrev Keeps (h h' : Heap) : Prop := ∀ b o, h.get? b = some o → h'.get? b = some o

section
variable {prog : Program} {w : World} {A A₀ : Around} {s : Shared} {K : Frag} {L : Addr} {h₀ base : Heap} {m mg mb : Str → Option Value} {p : Program} {loose : List Str} {mean : ExcName → Option Value}
  {env : Env} {l outer : List Env} {R : Result → Shared → Prop} {name qual : Str} {params : Arguments} {body : List Stmt} {scope : Scope} {dV kV doc pm cdv ct oc : Value} {an od : Option Addr} {osl : Array (Option Value)} {f : Addr} {args : Args} {binds : List (Str × Value)}
theorem below_now (B : Below A₀ base outer h₀) (F : Fr h₀ L s.heap m) (hA : A.frames = some (env :: outer)) (hf : env.frame = some L) (hke : env.scope.kind = .function) : Below A base (env :: outer) s.heap :=
  (groundX (R := fun _ _ => True) B F News.nil hA hf hke).2.1
/-- a def is entered; all that stood is its ground -/
theorem enter0 (B : Below A base l s.heap) (X : K.In s.heap) (T : Top p loose mean mg mb s.heap)
    (ho : K.lookup f = some ⟨oc, od, .func (fnOf name qual params body scope dV kV doc pm an cdv ct), osl⟩) (hcd : codeIn K cdv qual = true) (hroom : A.depth < recursionLimit)
    (hbind : BindsTo s (fnOf name qual params body scope dV kV doc pm an cdv ct) args binds) (hloc : ∀ y ∈ binds, scope.names.lookup y.1 = some .local)
    (h : ∀ L' h₁, Fr s.heap L' h₁ (fun y => binds.reverse.lookup y) → News s.heap L' h₁ [] → Below A base l s.heap → K.In s.heap → Top p loose mean mg mb s.heap →
      wpAny (model prog w) (A.deeper (envOf qual scope L' f cdv)) (execs body (envOf qual scope L' f cdv))
        (fun fl s' => R (.ok (.ret (match fl with | .ret v => v | _ => .none))) s')
        (fun e s' => wpAny (model prog w) (A.deeper (envOf qual scope L' f cdv)) (leaving (envOf qual scope L' f cdv) e) (fun _ s'' => R (.error e) s'') (fun e' s'' => R (.error e') s'') s')
        { s with heap := h₁, toks := s.toks + binds.length })
    (hco : scope.isCoroutine = false) (hgen : scope.isGenerator = false) (hk : scope.kind = .function)
    (hcell : ∀ x ∈ scope.names, x.2 ≠ .cell) : codeAny (model prog w) A (.call (.ref f) args) R s := by
  refine codeAny_call_def (fd := fnX name qual params body scope [] dV kV doc pm an cdv ct) (body := body) (binds := binds) hroom (X _ _ ho) rfl T.nolimit (codeRec_of X hcd) rfl hbind hcell hloc (fun h₁ hns hk₁ => ?_) hco hgen hk
  exact wpAny_mono (h s.heap.objs.size h₁ ⟨hns, hk₁, Nat.le_refl _⟩ News.nil B X T) (fun fl s' hl => hl) fun _ _ y => y
theorem enterC (B : Below A base l s.heap) (X : K.In s.heap) (T : Top p loose mean mg mb s.heap)
    (ho : K.lookup f = some ⟨oc, od, .func (fnOf name qual params body scope dV kV doc pm an cdv ct), osl⟩) (hcd : codeIn K cdv qual = true) (hroom : A.depth < recursionLimit)
    (hbind : BindsTo s (fnOf name qual params body scope dV kV doc pm an cdv ct) args binds) (hkind : (binds.all fun y => scope.names.lookup y.1 == some .local || scope.names.lookup y.1 == some .cell) = true)
    (hnd : ((cellsFrom 0 scope.names []).map (·.1)).Nodup)
    (h : ∀ L' h₁ tk cells, Fr s.heap L' h₁ (bindL (envOfC qual scope L' f cdv).kindOf binds fun _ => none) → News s.heap L' h₁ (cells ++ []) →
      CellsAre (bindC (envOfC qual scope L' f cdv).kindOf binds fun _ => none) (cellsFrom (L' + 1) scope.names []) cells → Below A base l s.heap → K.In s.heap → Top p loose mean mg mb s.heap →
      wpAny (model prog w) (A.deeper (envOfC qual scope L' f cdv)) (execs body (envOfC qual scope L' f cdv))
        (fun fl s' => R (.ok (.ret (match fl with | .ret v => v | _ => .none))) s')
        (fun e s' => wpAny (model prog w) (A.deeper (envOfC qual scope L' f cdv)) (leaving (envOfC qual scope L' f cdv) e) (fun _ s'' => R (.error e) s'') (fun e' s'' => R (.error e') s'') s')
        { s with heap := h₁, toks := tk })
    (hco : scope.isCoroutine = false) (hgen : scope.isGenerator = false) (hk : scope.kind = .function) : codeAny (model prog w) A (.call (.ref f) args) R s := by
  refine codeAny_call_function hroom (X _ _ ho) rfl hco hgen rfl (codeRec_of X hcd) (hbind _ _ _ _ ?_)
  refine wpAny_newFunctionEnv_cells hk (kindsX hkind _) fun env' he s' x => ?_
  subst he
  refine ⟨T.nolimit.keeps x.toInCall.keep, codeAny_func ?_⟩
  obtain ⟨h₁, tk, rfl, _⟩ := x.done
  have hk₁ := x.toInCall.keep
  obtain ⟨cells, NC, Y⟩ := Cl.news (h₀ := s.heap) (Nat.le_refl _) fun n c hm => ⟨x.cell n c (lookup_of_mem_nodup (cellsFrom_names scope.names 0 (s.heap.objs.size + 1) [] [] rfl ▸ hnd) hm), x.above n c hm⟩
  refine wpAny_mono (h s.heap.objs.size h₁ tk cells ⟨x.toInCall.ns, hk₁, Nat.le_refl _⟩ (fun p hp => ?_) Y B X T) (fun fl s' hl => hl) fun _ _ y => y
  rw [List.append_nil] at hp
  exact ⟨(NC p hp).1, (NC p hp).2.1, (NC p hp).2.2⟩
end

noncomputable abbrev aTop (dp un : Nat) (gd : Option (List Code)) (l : List Env) : Around := { handled := none, depth := dp, frames := some l, guards := gd, units := un }
/-- the claim shape: a call of the def at f on vs from any frame ends with a value that res tells; the heap is kept -/
noncomputable abbrev Claim (rm : Nat) (w : World) (f : Addr) (vs : List Value) (pre : Heap → Prop) (res : Heap → Value → Heap → Prop) : Prop :=
  ∀ (mean : ExcName → Option Value) (mg mb : Str → Option Value) (dp un : Nat) (gd : Option (List Code)) (l : List Env) (base : Heap) (s : Shared) (Q E : Value → Shared → Prop),
    Below (aTop dp un gd l) base l s.heap → (hd.heap_39 w.params).In s.heap → Top hd.view_39 Lo mean mg mb s.heap →
    dp + rm < recursionLimit → un + 10 * rm < cLine → pre s.heap →
    (∀ v h' tk', Keeps s.heap h' → res s.heap v h' → Q v { s with heap := h', toks := tk' }) →
      wpAny (model Pg w) (aTop dp un gd l) (call (.ref f) vs) Q E s
/-- as Claim, with keywords -/
noncomputable abbrev ClaimK (rm : Nat) (w : World) (f : Addr) (vs : List Value) (kw : List (Str × Value)) (pre : Heap → Prop) (res : Heap → Value → Heap → Prop) : Prop :=
  ∀ (mean : ExcName → Option Value) (mg mb : Str → Option Value) (dp un : Nat) (gd : Option (List Code)) (l : List Env) (base : Heap) (s : Shared) (Q E : Value → Shared → Prop),
    Below (aTop dp un gd l) base l s.heap → (hd.heap_39 w.params).In s.heap → Top hd.view_39 Lo mean mg mb s.heap →
    dp + rm < recursionLimit → un + 10 * rm < cLine → pre s.heap →
    (∀ v h' tk', Keeps s.heap h' → res s.heap v h' → Q v { s with heap := h', toks := tk' }) →
      wpAny (model Pg w) (aTop dp un gd l) (call (.ref f) vs kw) Q E s
/-- kept, but for the slots of the frames -/
structure Turn (fs : List Addr) (h h' : Heap) : Prop where
  other : ∀ b o, h.get? b = some o → b ∉ fs → h'.get? b = some o
  frame : ∀ b o, h.get? b = some o → b ∈ fs → ∃ sl, h'.get? b = some { o with slots := sl }
theorem Turn.of_keeps {fs : List Addr} {h h' : Heap} (k : Keeps h h') : Turn fs h h' := ⟨fun b o e _ => k b o e, fun b o e _ => ⟨o.slots, k b o e⟩⟩
theorem Turn.of_kts {fs : List Addr} {g g' h' : Heap} (t : KtsTurn fs g g') (k : Keeps g' h') : Turn fs g h' := ⟨fun b o e n => k b o (t.other b o e n), fun b o e n => let ⟨sl, q⟩ := t.frame b o e n; ⟨sl, k _ _ q⟩⟩
/-- as Claim, for a def that catches: the frames' slots may turn -/
noncomputable abbrev ClaimT (rm : Nat) (w : World) (f : Addr) (vs : List Value) (pre : Heap → Prop) (res : Heap → Value → Heap → Prop) : Prop :=
  ∀ (mean : ExcName → Option Value) (mg mb : Str → Option Value) (dp un : Nat) (gd : Option (List Code)) (l : List Env) (base : Heap) (s : Shared) (Q E : Value → Shared → Prop),
    Below (aTop dp un gd l) base l s.heap → (hd.heap_39 w.params).In s.heap → Top hd.view_39 Lo mean mg mb s.heap →
    dp + rm < recursionLimit → un + 10 * rm < cLine → pre s.heap →
    (hd.heap_39 w.params).In base → Top hd.view_39 Lo mean mg mb base → KtsDicts (l.filterMap (·.frame)) s.heap →
    (∀ v h' tk', Turn (l.filterMap (·.frame)) s.heap h' → res s.heap v h' → Q v { s with heap := h', toks := tk' }) →
      wpAny (model Pg w) (aTop dp un gd l) (call (.ref f) vs) Q E s
noncomputable abbrev Quiet : Heap → Prop := fun _ => True
/-- an int comes back -/
noncomputable abbrev RInt (x : Int) : Heap → Value → Heap → Prop := fun _ v _ => ∃ u, v = .int x u
noncomputable abbrev RStr (x : Str) : Heap → Value → Heap → Prop := fun _ v _ => ∃ u, v = .str x u
noncomputable abbrev RBytes (x : Array UInt8) : Heap → Value → Heap → Prop := fun _ v _ => ∃ u, v = .bytes x u
/-- a new list of ints comes back -/
noncomputable abbrev RList (ns : List Int) : Heap → Value → Heap → Prop := fun h v h' => ∃ a vs n, v = .ref a ∧ h.get? a = none ∧ h'.get? a = some (W.listOf (List.toArray vs) n) ∧ IntsAre vs ns
section
variable {rm : Nat} {w : World} {f : Addr} {vs : List Value} {pre : Heap → Prop} {mean : ExcName → Option Value} {mg mb : Str → Option Value} {dp un : Nat} {gd : Option (List Code)} {l : List Env} {base h₀ : Heap} {L : Addr} {m : Str → Option Value} {news : List (Addr × Obj)} {s : Shared} {Q E : Value → Shared → Prop}
theorem use_int {x : Int} (C : Claim rm w f vs pre (RInt x)) (F : Fr h₀ L s.heap m) (X : (hd.heap_39 w.params).In h₀) (N : News h₀ L s.heap news) (T : Top hd.view_39 Lo mean mg mb h₀) (B : Below (aTop dp un gd l) base l s.heap) (hd : dp + rm < recursionLimit) (hu : un + 10 * rm < cLine) (hp : pre s.heap)
    (k : ∀ t h' tk', Fr h₀ L h' m → News h₀ L h' news → Q (.int x t) { s with heap := h', toks := tk' }) : wpAny (model Pg w) (aTop dp un gd l) (call (.ref f) vs) Q E s := by
  refine C _ _ _ _ _ _ _ _ _ _ _ B (X.keeps F.keep) (T.keeps F.keep) hd hu hp fun v h' tk' hk hr => ?_
  obtain ⟨u, rfl⟩ := hr
  exact k u h' tk' (F.keeps hk) (N.grown hk)
theorem use_str {x : Str} (C : Claim rm w f vs pre (RStr x)) (F : Fr h₀ L s.heap m) (X : (hd.heap_39 w.params).In h₀) (N : News h₀ L s.heap news) (T : Top hd.view_39 Lo mean mg mb h₀) (B : Below (aTop dp un gd l) base l s.heap) (hd : dp + rm < recursionLimit) (hu : un + 10 * rm < cLine) (hp : pre s.heap)
    (k : ∀ t h' tk', Fr h₀ L h' m → News h₀ L h' news → Q (.str x t) { s with heap := h', toks := tk' }) : wpAny (model Pg w) (aTop dp un gd l) (call (.ref f) vs) Q E s := by
  refine C _ _ _ _ _ _ _ _ _ _ _ B (X.keeps F.keep) (T.keeps F.keep) hd hu hp fun v h' tk' hk hr => ?_
  obtain ⟨u, rfl⟩ := hr
  exact k u h' tk' (F.keeps hk) (N.grown hk)
theorem use_bytes {x : Array UInt8} (C : Claim rm w f vs pre (RBytes x)) (F : Fr h₀ L s.heap m) (X : (hd.heap_39 w.params).In h₀) (N : News h₀ L s.heap news) (T : Top hd.view_39 Lo mean mg mb h₀) (B : Below (aTop dp un gd l) base l s.heap) (hd : dp + rm < recursionLimit) (hu : un + 10 * rm < cLine) (hp : pre s.heap)
    (k : ∀ t h' tk', Fr h₀ L h' m → News h₀ L h' news → Q (.bytes x t) { s with heap := h', toks := tk' }) : wpAny (model Pg w) (aTop dp un gd l) (call (.ref f) vs) Q E s := by
  refine C _ _ _ _ _ _ _ _ _ _ _ B (X.keeps F.keep) (T.keeps F.keep) hd hu hp fun v h' tk' hk hr => ?_
  obtain ⟨u, rfl⟩ := hr
  exact k u h' tk' (F.keeps hk) (N.grown hk)
theorem use_bytesK {x : Array UInt8} {kw : List (Str × Value)} (C : ClaimK rm w f vs kw pre (RBytes x)) (F : Fr h₀ L s.heap m) (X : (hd.heap_39 w.params).In h₀) (N : News h₀ L s.heap news) (T : Top hd.view_39 Lo mean mg mb h₀) (B : Below (aTop dp un gd l) base l s.heap) (hd : dp + rm < recursionLimit) (hu : un + 10 * rm < cLine) (hp : pre s.heap)
    (k : ∀ t h' tk', Fr h₀ L h' m → News h₀ L h' news → Q (.bytes x t) { s with heap := h', toks := tk' }) : wpAny (model Pg w) (aTop dp un gd l) (call (.ref f) vs kw) Q E s := by
  refine C _ _ _ _ _ _ _ _ _ _ _ B (X.keeps F.keep) (T.keeps F.keep) hd hu hp fun v h' tk' hk hr => ?_
  obtain ⟨u, rfl⟩ := hr
  exact k u h' tk' (F.keeps hk) (N.grown hk)
theorem news_new {h h' : Heap} {b : Addr} {o : Obj} (F : Fr h₀ L h m) (N : News h₀ L h news) (hk : Keeps h h') (hb : h.get? b = none) (ho : h'.get? b = some o) : News h₀ L h' ((b, o) :: news) := by
  intro p hp
  rcases List.mem_cons.mp hp with rfl | hp
  · refine ⟨ho, fun e => ?_, ?_⟩
    · obtain ⟨oL, _, _, hL, _⟩ := F.ns
      have : h.get? b = some oL := by rw [show b = L from e]; exact hL
      rw [hb] at this; cases this
    · cases q : h₀.get? b with
      | none => rfl
      | some o' => have := F.keep b o' q; rw [hb] at this; cases this
  · exact (N.grown hk) p hp
theorem news_ne {h : Heap} {b : Addr} (N : News h₀ L h news) (hb : h.get? b = none) : ∀ p ∈ news, p.1 ≠ b := fun p hp e => by
  have := (N p hp).1
  rw [e, hb] at this; cases this
noncomputable def AllNe (d : Nat) : List (Addr × Obj) → Prop
  | [] => True
  | p :: r => @Ne Nat p.1 d ∧ AllNe d r
theorem allNe_of {d : Addr} : ∀ {l : List (Addr × Obj)}, (∀ p ∈ l, p.1 ≠ d) → AllNe d l
  | [], _ => trivial
  | p :: _, h => ⟨h p (.head _), allNe_of fun q hq => h q (.tail _ hq)⟩
theorem use_list {xs : List Int} (C : Claim rm w f vs pre (RList xs)) (F : Fr h₀ L s.heap m) (X : (hd.heap_39 w.params).In h₀) (N : News h₀ L s.heap news) (T : Top hd.view_39 Lo mean mg mb h₀) (B : Below (aTop dp un gd l) base l s.heap) (hd : dp + rm < recursionLimit) (hu : un + 10 * rm < cLine) (hp : pre s.heap)
    (k : ∀ b us n h' tk', Fr h₀ L h' m → News h₀ L h' ((b, W.listOf (List.toArray us) n) :: news) → AllNe b news → h'.IsList b us.toArray → IntsAre us xs → Q (.ref b) { s with heap := h', toks := tk' }) : wpAny (model Pg w) (aTop dp un gd l) (call (.ref f) vs) Q E s := by
  refine C _ _ _ _ _ _ _ _ _ _ _ B (X.keeps F.keep) (T.keeps F.keep) hd hu hp fun v h' tk' hk hr => ?_
  obtain ⟨b, us, n, rfl, hb, ho, hi⟩ := hr
  exact k b us n h' tk' (F.keeps hk) (news_new F N hk hb ho) (allNe_of (news_ne N hb)) ⟨_, ho, rfl, n, rfl⟩ hi
end
local macro_rules | `(tactic| k_room) => `(tactic| ktr_room)
local macro_rules | `(tactic| k_units) => `(tactic| ktr_units)
local macro_rules | `(tactic| cell_enter) => `(tactic| first
  | (refine' enter0 ?k1 ?k3 ?k5 ?k6 ?k7 ?k8 ?k9 ?kB ?_ ?c2 ?c3 ?c4 ?c5; (case k1 => k_asm); (case k3 => k_asm); (case k5 => k_asm); (case k6 => k_is); (case k7 => k_is); (case k8 => ktr_room); (case k9 => first | exact BindsTo.of_eq rfl | exact binds_K (by k_asm) rfl (by k_is) rfl rfl rfl); (case c5 => decide); (case kB => exact locs rfl); (case c2 => exact rfl); (case c3 => exact rfl); (case c4 => exact rfl); k_whole; intro L' h' F' N' B' X' T'; (try dsimp only); (try k_fold))
  | (refine' enterC ?k1 ?k3 ?k5 ?k6 ?k7 ?k8 ?k9 ?kB ?kD ?_ ?c2 ?c3 ?c4; (case k1 => k_asm); (case k3 => k_asm); (case k5 => k_asm); (case k6 => k_is); (case k7 => k_is); (case k8 => ktr_room); (case k9 => first | exact BindsTo.of_eq rfl | exact binds_K (by k_asm) rfl (by k_is) rfl rfl rfl); (case kB => exact rfl); (case kD => decide +kernel); (case c2 => exact rfl); (case c3 => exact rfl); (case c4 => exact rfl); k_whole; intro L' h' tk' cells' F' N' Y' B' X' T'; k_cells Y'; (try simp only [List.cons_append, List.nil_append] at N'); (try dsimp only); (try k_fold)))


local macro_rules | `(tactic| walk_at "none C1 0") => `(tactic| fail)
section
noncomputable def turnedL (n p : Int) : Int := if p = 0 then n else Builtin.bitXor n (2 ^ (12 - p).toNat)
theorem turned_call (w : World) (n p : Int) (t t' : Tok) (_h0 : 0 ≤ n) (_h1 : n < 65536) (_h2 : 0 ≤ p) (_h3 : p < 13) : Claim 10 w 156 [.int n t, .int p t'] Quiet (RInt (turnedL n p)) := by
  unfold Claim
  k_with_none
  w_top off
  intro mean mg mb dp un gd l base s Q E B X T hdp hun hpre hret
  refine wpAny_call ?_
  k_dflt cell_enter
  clear B X T hpre
  k_steps
  · exact hret _ _ _ (Fr.keep (by k_asm)) ⟨_, by rw [turnedL, if_neg (by assumption)]⟩
  · exact hret _ _ _ (Fr.keep (by k_asm)) ⟨_, by rw [turnedL, if_pos (by assumption)]⟩
noncomputable abbrev placesL : List Int := [3, 5, 6, 7, 9, 10, 11, 12]
theorem mem_of_any {p : Int} {l : List Int} (h : (l.any fun x => x == p) = true) : p ∈ l := by
  obtain ⟨x, hx, e⟩ := List.any_eq_true.mp h
  exact (beq_iff_eq.mp e) ▸ hx
theorem not_mem_of_any {p : Int} {l : List Int} (h : (l.any fun x => x == p) = false) : ¬ p ∈ l := fun hm => by
  have := List.any_eq_false.mp h p hm
  exact this (beq_iff_eq.mpr rfl)
noncomputable def weightL (p : Int) : Int := if p ∈ placesL then 2 ^ (placesL.idxOf p) else 0
theorem index_ints {prog : Program} {w : World} {A : Around} {E : Value → Shared → Prop} {s : Shared} {l : Addr} {vs : List Value} {ns : List Int} {k : Int} {t : Tok} {Q : Value → Shared → Prop} (hl : s.heap.IsList l vs.toArray) (hi : IntsAre vs ns)
    (hlay : PyData.layable0 (.list (ns.map .int)) = true) (hk : k ∈ ns) (h : ∀ j : Int, 0 ≤ j → j < ns.length → j.toNat = ns.idxOf k → Q (.int j s.toks) { s with toks := s.toks + 1 }) :
    wpAny (model prog w) A (call (.builtin "list.index") [.ref l, .int k t]) Q E s :=
  index_list_ints hl hi hlay hk (h _ (Int.natCast_nonneg _) (Int.ofNat_lt.mpr (List.idxOf_lt_length_iff.mpr hk)) (Int.toNat_natCast _))
local macro_rules | `(tactic| walk_at "call builtin:list.index") => `(tactic| (k_here; refine' index_ints ?i1 ?i2 ?i3 ?i4 ?_; (case i1 => is_list); (case i2 => l_ints); (case i3 => decide); (case i4 => exact mem_of_any (by assumption)); k_whole; intro j9 hj0 hj1 hj2; simp only [List.length_cons, List.length_nil] at hj1))
theorem weight_call (w : World) (p : Int) (t : Tok) (_h2 : 0 ≤ p) (_h3 : p < 13) : Claim 10 w 149 [.int p t] Quiet (RInt (weightL p)) := by
  unfold Claim
  k_with_none
  w_top off
  intro mean mg mb dp un gd l base s Q E B X T hdp hun hpre hret
  refine wpAny_call ?_
  k_dflt cell_enter
  clear B X T hpre
  k_steps
  · rename (Int.toNat _ = _) => hj2
    exact hret _ _ _ (Fr.keep (by k_asm)) ⟨_, by rw [weightL, if_pos (mem_of_any (by assumption)), ← hj2]⟩
  · exact hret _ _ _ (Fr.keep (by k_asm)) ⟨_, by rw [weightL, if_neg (not_mem_of_any (by assumption))]⟩
end

local macro_rules | `(tactic| walk_at "none C2 0") => `(tactic| fail)
local macro_rules | `(tactic| walk_at "none C2 1") => `(tactic| fail)
section
/-- what parse257 makes of the signs behind the first quote -/
noncomputable def unq : List Nat → List Nat
  | [] => []
  | c :: rest => if c = 34 then (match rest with | [] => [] | d :: rest' => if d = 34 then 34 :: unq rest' else []) else c :: unq rest
theorem unq_plain {c : Nat} {rest : List Nat} (hn : ¬ c = 34) : unq (c :: rest) = c :: unq rest := by cases rest <;> simp [unq, hn]
noncomputable def parseL (r : Str) : Str := if (Txt.slice r (some 3) (some 5) != Str.ofString " \"") = true then Str.ofString "" else ⟨(unq (r.cps.toList.drop 5)).toArray⟩
theorem quote_is : Str.ofString "\"" = ⟨#[34]⟩ := by decide +kernel
theorem item_at {r : Str} {i : Int} (h0 : 0 ≤ i) (h1 : i < r.length) : ∃ c, r.cps.toList.drop i.toNat = c :: r.cps.toList.drop (i.toNat + 1) ∧ Txt.item r i = ⟨#[c]⟩ := by
  have hl : i.toNat < r.cps.toList.length := by
    have : r.length = r.cps.toList.length := by show r.cps.size = _; simp
    omega
  refine ⟨r.cps.toList[i.toNat], List.drop_eq_getElem_cons hl, ?_⟩
  have hi : seqIndex? i r.length = some i.toNat := by
    unfold seqIndex?
    simp only [if_neg (Int.not_lt.mpr h0), decide_eq_true h0, decide_eq_true h1, Bool.and_self, if_true]
  unfold Txt.item Txt.charAt
  rw [hi]
  have hs : i.toNat < r.cps.size := by simpa using hl
  simp [hs]
theorem one_eq {a b : Nat} : ((⟨#[a]⟩ : Str) == ⟨#[b]⟩) = true ↔ a = b := by
  rw [beq_iff_eq]
  constructor
  · intro h; injection h with h; injection h with h; injection h
  · rintro rfl; rfl
theorem append_list (a b : Str) : (a ++ b).cps.toList = a.cps.toList ++ b.cps.toList := by
  rw [Str.cps_append]; simp
section
variable {r d : Str} {i : Int} {tot : List Nat}
theorem way_exit (h : d.cps.toList ++ unq (r.cps.toList.drop i.toNat) = tot) (h0 : 5 ≤ i) (h1 : ¬ i < (r.length : Int)) : d = ⟨tot.toArray⟩ := by
  have e : r.cps.toList.drop i.toNat = [] := List.drop_eq_nil_of_le (by
    have : r.length = r.cps.toList.length := by show r.cps.size = _; simp
    omega)
  rw [e, unq, List.append_nil] at h
  rw [← h]
theorem way_break1 (h : d.cps.toList ++ unq (r.cps.toList.drop i.toNat) = tot) (h0 : 5 ≤ i) (h1 : i < (r.length : Int)) (hq : (Txt.item r i == Str.ofString "\"") = true) (h2 : (r.length : Int) ≤ i + 1) : d = ⟨tot.toArray⟩ := by
  obtain ⟨c, e, ei⟩ := item_at (by omega) h1
  rw [ei, quote_is, one_eq] at hq
  have e2 : r.cps.toList.drop (i.toNat + 1) = [] := List.drop_eq_nil_of_le (by
    have : r.length = r.cps.toList.length := by show r.cps.size = _; simp
    omega)
  rw [e, e2, unq, if_pos hq, List.append_nil] at h
  rw [← h]
theorem way_break2 (h : d.cps.toList ++ unq (r.cps.toList.drop i.toNat) = tot) (h0 : 5 ≤ i) (h1 : i < (r.length : Int)) (hq : (Txt.item r i == Str.ofString "\"") = true) (h2 : ¬ (r.length : Int) ≤ i + 1) (hq2 : (Txt.item r (i + 1) != Str.ofString "\"") = true) : d = ⟨tot.toArray⟩ := by
  obtain ⟨c, e, ei⟩ := item_at (by omega) h1
  obtain ⟨c', e', ei'⟩ := item_at (r := r) (i := i + 1) (by omega) (by omega)
  rw [ei, quote_is, one_eq] at hq
  have hn : ¬ c' = 34 := by
    rw [ei', quote_is, bne, Bool.not_eq_true', ← Bool.not_eq_true, one_eq] at hq2
    exact hq2
  have et : (i + 1).toNat = i.toNat + 1 := by omega
  rw [et] at e'
  rw [e, e', unq, if_pos hq] at h
  simp only [if_neg hn, List.append_nil] at h
  rw [← h]
theorem way_quote (h : d.cps.toList ++ unq (r.cps.toList.drop i.toNat) = tot) (h0 : 5 ≤ i) (h1 : i < (r.length : Int)) (hq : (Txt.item r i == Str.ofString "\"") = true) (h2 : ¬ (r.length : Int) ≤ i + 1) (hq2 : (Txt.item r (i + 1) != Str.ofString "\"") = false) :
    (d ++ Txt.item r i).cps.toList ++ unq (r.cps.toList.drop (i + 1 + 1).toNat) = tot := by
  obtain ⟨c, e, ei⟩ := item_at (by omega) h1
  obtain ⟨c', e', ei'⟩ := item_at (r := r) (i := i + 1) (by omega) (by omega)
  rw [ei, quote_is, one_eq] at hq
  have hn : c' = 34 := by
    rw [ei', quote_is, bne, Bool.not_eq_false', one_eq] at hq2
    exact hq2
  have et : (i + 1).toNat = i.toNat + 1 := by omega
  have et2 : (i + 1 + 1).toNat = i.toNat + 1 + 1 := by omega
  rw [et] at e'
  rw [e, e', unq, if_pos hq] at h
  simp only [if_pos hn] at h
  rw [et2, append_list, ei, ← h, hq, List.append_assoc]
  rfl
theorem way_plain (h : d.cps.toList ++ unq (r.cps.toList.drop i.toNat) = tot) (h0 : 5 ≤ i) (h1 : i < (r.length : Int)) (hq : (Txt.item r i == Str.ofString "\"") = false) :
    (d ++ Txt.item r i).cps.toList ++ unq (r.cps.toList.drop (i + 1).toNat) = tot := by
  obtain ⟨c, e, ei⟩ := item_at (by omega) h1
  have hn : ¬ c = 34 := by
    rw [ei, quote_is, ← Bool.not_eq_true, one_eq] at hq
    exact hq
  have et : (i + 1).toNat = i.toNat + 1 := by omega
  rw [e, unq_plain hn] at h
  rw [et, append_list, ei, ← h, List.append_assoc]
  rfl
end
theorem parse_call (w : World) (r : Str) (t : Tok) (hr : r.length ≤ 64) (h7 : (Txt.slice r none (some 3) != Str.ofString "257") = false) : Claim 10 w 53 [.str r t] Quiet (RStr (parseL r)) := by
  unfold Claim
  k_with_none
  w_top off
  intro mean mg mb dp un gd l base s Q E B X T hdp hun hpre hret
  refine wpAny_call ?_
  k_dflt cell_enter
  clear B X T hpre
  k_with "exec While Compare cons nil" => k_while (fun _ i d => 5 ≤ i ∧ i.toNat ≤ 100 ∧ d.length ≤ i.toNat ∧ d.cps.toList ++ unq (r.cps.toList.drop i.toNat) = unq (r.cps.toList.drop 5)) (fun _ i d => r.length - i.toNat) "i" "dirname"
  k_with "state" => first
    | exact ⟨by omega, by omega, by simp only [Str.length_append]; omega, way_quote (by assumption) (by assumption) (by assumption) (by assumption) (by assumption) (by assumption)⟩
    | exact ⟨by omega, by omega, by simp only [Str.length_append]; omega, way_plain (by assumption) (by assumption) (by assumption) (by assumption)⟩
  k_steps
  · exact hret _ _ _ (Fr.keep (by k_asm)) ⟨_, by rw [parseL, if_pos (by assumption)]⟩
  · exact hret _ _ _ (Fr.keep (by k_asm)) ⟨_, by rw [parseL, if_neg (by rw [Bool.not_eq_true]; assumption), ← way_break1 (by assumption) (by assumption) (by assumption) (by assumption) (by assumption)]⟩
  · exact hret _ _ _ (Fr.keep (by k_asm)) ⟨_, by rw [parseL, if_neg (by rw [Bool.not_eq_true]; assumption), ← way_break2 (by assumption) (by assumption) (by assumption) (by assumption) (by assumption) (by assumption)]⟩
  · exact hret _ _ _ (Fr.keep (by k_asm)) ⟨_, by rw [parseL, if_neg (by rw [Bool.not_eq_true]; assumption), ← way_exit (by assumption) (by assumption) (by omega)]⟩
end

section
section
variable {prog : Program} {w : World} {A : Around} {E : Value → Shared → Prop} {s : Shared} {K : Frag} {e C t0 : Addr} {o : Obj} {vs : Array Value} {m : Str} {tk : Tok}
theorem own_type (ho : s.heap.get? e = some o) (hc : o.cls = .ref C) : Looks (model prog w) s.heap (typeOf (.ref e)) (.ref C) := by
  have := (Looks.ld (M := model prog w) (part := none) ho).andThen (f := fun o => pure o.cls) (b := .ref C) (by rw [hc]; exact .now)
  exact this
theorem own_str (X : K.In s.heap) (ho : s.heap.get? e = some o) (hc : o.cls = .ref C) (hd : o.data = .fields vs) (h0 : vs[0]? = some (.ref t0)) (ht : s.heap.TupAt t0 [.str m tk])
    (hs : findIn K (.ref C) "__str__" = some (some (.builtin "BaseException.__str__"))) (hb : subIn K (.ref C) (.type "BaseException") = some true) (hu : A.units < cLine) {Q : Value → Shared → Prop} (hq : Q (.str m tk) s) :
    wpAny (model prog w) A (Builtin.Str.strOf (.ref e)) Q E s := by
  have hty := own_type (prog := prog) (w := w) ho hc
  have entry : ∀ {A' : Around} {Q' : Fin → Shared → Prop} {E' : Value → Shared → Prop}, Q' (.done (.ret (.str m tk))) s → wpAny (model prog w) A' (Builtin.«BaseException.__str__» ⟨[.ref e], []⟩) Q' E' s := by
    intro A' Q' E' hq'
    have hargs : ∀ {Q'' : Value × List Value → Shared → Prop}, Q'' (.ref t0, [.str m tk]) s → wpAny (model prog w) A' (Builtin.BaseException.bexcArgs (.ref e)) Q'' E' s := by
      intro Q'' h''
      obtain ⟨ot, k, hto, _, htd⟩ := ht
      unfold Builtin.BaseException.bexcArgs
      exact wpAny_bind (wpAny_field ho hd h0 (wpAny_bind (wpAny_seqItems hto htd (wpAny_pure h''))))
    unfold Builtin.«BaseException.__str__»
    repeat (first | with_reducible refine hargs ?_ | wp_step)
    exact hq'
  have chk : ∀ {A' : Around} {Q' : Unit → Shared → Prop} {E' : Value → Shared → Prop}, Q' () s → wpAny (model prog w) A' (checkBuiltinCall "BaseException.__str__" ⟨[.ref e], []⟩) Q' E' s := by
    intro A' Q' E' hq'
    have hsplit : splitId "BaseException.__str__" = some ("BaseException", "__str__") := by decide +kernel
    have hk : builtinKind "BaseException.__str__" = some .slot := by decide +kernel
    simp only [checkBuiltinCall, hk, hsplit]
    have hin : Looks (model prog w) s.heap (isInstance (.ref e) (.type "BaseException")) true := hty.andThen (f := fun t => isSubtype t (.type "BaseException")) (looks_subIn X hb)
    refine wpAny_bind (hin.here ?_)
    simp only [Bool.not_true, Bool.false_eq_true, if_false]
    have ha := PySem.F.args_bexc_str (.ref e)
    cases hsig : Manifest.signature? "BaseException.__str__" with
    | none => exact wpAny_pure hq'
    | some sig =>
      simp only [argsOk, hsig] at ha
      have h2 : Bind.checkArgs "BaseException.__str__" sig ⟨[.ref e], []⟩ = pure () := ha
      show wpAny _ _ (Bind.checkArgs "BaseException.__str__" sig ⟨[.ref e], []⟩) _ _ _
      rw [h2]; exact wpAny_pure hq'
  unfold Builtin.Str.strOf
  simp only [Builtin.Str.isExactStr, Bool.false_eq_true, if_false]
  refine wpAny_bind (wpAny_cRoomFor hu ?_)
  refine wpAny_bind ?_
  simp only [callSpecial?]
  refine wpAny_bind ((hty.andThen (looks_findIn X hs)).here ?_)
  simp only [PySem.F.excStr_Exception.str.bind]
  refine wpAny_holding (wpAny_bind (wpAny_pure (wpAny_bind (wpAny_call (codeAny_call_builtin PySem.F.excStr_Exception.str.plain PySem.F.entry_bexc_str (chk (entry ?_)))))))
  exact wpAny_pure (wpAny_bind (wpAny_pure (wpAny_pure hq)))
theorem str_own_exc (X : K.In s.heap) (ho : s.heap.get? e = some o) (hc : o.cls = .ref C) (hd : o.data = .fields vs) (h0 : vs[0]? = some (.ref t0)) (ht : s.heap.TupAt t0 [.str m tk])
    (hs : findIn K (.ref C) "__str__" = some (some (.builtin "BaseException.__str__"))) (hb : subIn K (.ref C) (.type "BaseException") = some true) (hu : A.units + 2 < cLine) {Q : Value → Shared → Prop} (hq : Q (.str m tk) s) :
    wpAny (model prog w) A (call (.type "str") [.ref e]) Q E s :=
  callType_new PySem.F.called_str (by decide) (PySem.F.typeCall_str_1 _) (PySem.F.newCall_str_1 _) (fun obj => PySem.F.args_object_init_2 obj _) PySem.F.entry_str_new
    (meets_str_new (S := fun A' R s' => A'.units + 1 < cLine ∧ s'.heap = s.heap ∧ R (.ok (.ret (.str m tk))) s')
      fun _ _ A' _ s' hq => own_str (A := A'.in1) (s := s') (by rw [hq.2.1]; exact X) (by rw [hq.2.1]; exact ho) hc hd h0 (by rw [hq.2.1]; exact ht) hs hb hq.1 hq.2.2)
    ⟨(show A.units + 1 + 1 < cLine from hu), rfl, typeIs_str _ _ _, hq⟩
theorem str_got {h₀ : Heap} {L : Addr} {ml : Str → Option Value} {news : List (Addr × Obj)} (G : Got news e t0 (.ref C) [.str m tk]) (N : News h₀ L s.heap news) (F : Fr h₀ L s.heap ml) (X : K.In h₀)
    (hs : findIn K (.ref C) "__str__" = some (some (.builtin "BaseException.__str__"))) (hb : subIn K (.ref C) (.type "BaseException") = some true) (hu : A.units + 2 < cLine) {Q : Value → Shared → Prop} (hq : Q (.str m tk) s) :
    wpAny (model prog w) A (call (.type "str") [.ref e]) Q E s := by
  obtain ⟨oe, ot, ws, nt, h1, h2, h3, h4, h5, h6, h7⟩ := G
  exact str_own_exc (X.keeps F.keep) (N _ h1).1 h3 h4 h5 ⟨ot, nt, (N _ h2).1, h6, h7⟩ hs hb hu hq
end
end

section
/-- a goal that the walk leaves alone -/
noncomputable def Hold (p : Prop) : Prop := p
theorem hold {p : Prop} (h : Hold p) : p := h
theorem held {p : Prop} (h : p) : Hold p := h
local macro_rules | `(tactic| walk_at "call type:str") => `(tactic| (refine hold ?_))
section
local macro_rules | `(tactic| walk_at "call ref") => `(tactic| (refine hold ?_))
theorem told_ok (w : World) (r : Str) (t : Tok) (hr : r.length ≤ 64) (h7 : (Txt.slice r none (some 3) != Str.ofString "257") = false) : ClaimT 20 w 170 [.str r t] Quiet (RStr (parseL r)) := by
  unfold ClaimT
  k_with_none
  w_top off
  intro mean mg mb dp un gd l base s Q E B X T hdp hun hpre XB TB D hret
  refine wpAny_call ?_
  k_dflt cell_enter
  clear B X T hpre
  k_steps
  refine held ?_
  k_dflt (refine' use_str (parse_call _ _ _ ?q1 ?q2) ?k1 ?k2 ?k3 ?k4 ?k5 ?k6 ?k7 ?k8 ?_; (case q1 => assumption); (case q2 => assumption); (case k1 => k_asm); (case k2 => k_asm); (case k3 => k_asm); (case k4 => k_asm); (case k5 => exact below_now (by k_asm) (by k_asm) rfl rfl rfl); (case k6 => ktr_room); (case k7 => ktr_units); (case k8 => trivial))
  intro t9 h9 tk9 F9 N9
  (try dsimp only)
  (try k_fold)
  k_steps
  exact hret _ _ _ (.of_keeps (Fr.keep (by k_asm))) ⟨_, rfl⟩
end
/-- the pair ('refused', r), new -/
noncomputable abbrev RTold (r : Str) : Heap → Value → Heap → Prop := fun h v h' => ∃ a t1 t2 n, v = .ref a ∧ h.get? a = none ∧ h'.get? a = some { cls := .type "tuple", data := .seq #[.str (Str.ofString "refused") t1, .str r t2] n }
theorem turn_none {fs : List Addr} {g g' : Heap} {b : Addr} (T : KtsTurn fs g g') (h : g'.get? b = none) : g.get? b = none := by
  cases q : g.get? b with
  | none => rfl
  | some o => obtain ⟨sl, hs⟩ := T.up q; rw [h] at hs; cases hs
theorem told_no (w : World) (r : Str) (t : Tok) (hr : r.length ≤ 64) (h7 : (Txt.slice r none (some 3) != Str.ofString "257") = true) : ClaimT 20 w 170 [.str r t] Quiet (RTold r) := by
  unfold ClaimT
  k_with_none
  w_top off
  intro mean mg mb dp un gd l base s Q E B X T hdp hun hpre XB TB D hret
  refine wpAny_call ?_
  k_dflt cell_enter
  clear B X T hpre
  k_steps
  refine held ?_
  rename Got _ _ _ _ _ => gX
  k_dflt (refine' str_got gX ?k1 ?k2 ?k3 ?k4 ?k5 ?k6 ?_; (case k1 => k_asm); (case k2 => k_asm); (case k3 => k_asm); (case k4 => k_is); (case k5 => k_is); (case k6 => k_units); k_whole)
  k_steps
  rename KtsTurn _ _ _ => tX
  rename News _ _ _ [(_, _)] => nX
  exact hret _ _ _ (.of_kts tX (Fr.keep (by k_asm))) ⟨_, _, _, _, rfl, turn_none tX (nX _ (.head _)).2.2, (nX _ (.head _)).1⟩
end

local macro_rules | `(tactic| walk_at "none C4 0") => `(tactic| fail)
local macro_rules | `(tactic| walk_at "none C4 1") => `(tactic| fail)
section
local macro_rules | `(tactic| walk_at "call type:type") => `(tactic| (k_here; first
  | ((with_reducible show wpAny _ _ (call (Value.type "type") [Value.bytes _ _]) _ _ _); refine call_type_of (Tx := "bytes") (typeIs_bytes _ _ _) (by decide) ?_)
  | ((with_reducible show wpAny _ _ (call (Value.type "type") [Value.bool _]) _ _ _); refine call_type_of (Tx := "bool") (typeIs_bool _ _) (by decide) ?_)))
theorem buffer_call (w : World) (b : Array UInt8) (t : Tok) (hb : b.size ≤ 16) : Claim 10 w 60 [.bytes b t] Quiet (RBytes b) := by
  unfold Claim
  k_with_none
  w_top off
  intro mean mg mb dp un gd l base s Q E B X T hdp hun hpre hret
  refine wpAny_call ?_
  k_dflt cell_enter
  clear B X T hpre
  k_steps
  exact hret _ _ _ (Fr.keep (by k_asm)) ⟨_, rfl⟩
theorem truth_call (w : World) : Claim 10 w 67 [.bool false] Quiet (fun _ v _ => v = .bool false) := by
  unfold Claim
  k_with_none
  w_top off
  intro mean mg mb dp un gd l base s Q E B X T hdp hun hpre hret
  refine wpAny_call ?_
  k_dflt cell_enter
  clear B X T hpre
  k_steps
  exact hret _ _ _ (Fr.keep (by k_asm)) rfl
section
variable {rm : Nat} {w : World} {f : Addr} {vs : List Value} {pre : Heap → Prop} {mean : ExcName → Option Value} {mg mb : Str → Option Value} {dp un : Nat} {gd : Option (List Code)} {l : List Env} {base h₀ : Heap} {L : Addr} {m : Str → Option Value} {news : List (Addr × Obj)} {s : Shared} {Q E : Value → Shared → Prop}
theorem use_val {x : Value} (C : Claim rm w f vs pre (fun _ v _ => v = x)) (F : Fr h₀ L s.heap m) (X : (hd.heap_39 w.params).In h₀) (N : News h₀ L s.heap news) (T : Top hd.view_39 Lo mean mg mb h₀) (B : Below (aTop dp un gd l) base l s.heap) (hd : dp + rm < recursionLimit) (hu : un + 10 * rm < cLine) (hp : pre s.heap)
    (k : ∀ h' tk', Fr h₀ L h' m → News h₀ L h' news → Q x { s with heap := h', toks := tk' }) : wpAny (model Pg w) (aTop dp un gd l) (call (.ref f) vs) Q E s := by
  refine C _ _ _ _ _ _ _ _ _ _ _ B (X.keeps F.keep) (T.keeps F.keep) hd hu hp fun v h' tk' hk hr => ?_
  subst hr
  exact k h' tk' (F.keeps hk) (N.grown hk)
end
end

section
/-- the table of signs -/
noncomputable def b64tab : List UInt8 := [65, 66, 67, 68, 69, 70, 71, 72, 73, 74, 75, 76, 77, 78, 79, 80, 81, 82, 83, 84, 85, 86, 87, 88, 89, 90, 97, 98, 99, 100, 101, 102, 103, 104, 105, 106, 107, 108, 109, 110, 111, 112, 113, 114, 115, 116, 117, 118, 119, 120, 121, 122, 48, 49, 50, 51, 52, 53, 54, 55, 56, 57, 43, 47]
noncomputable def T64 (j : Int) : Int := ((b64tab.getD j.toNat 0).toNat : Int)
/-- the signs written when all of pre is read -/
noncomputable def outL : List Int → List Int
  | a :: b :: c :: r => T64 (a / 4) :: T64 (a % 4 * 16 + b / 16) :: T64 (b % 16 * 4 + c / 64) :: T64 (c % 64) :: outL r
  | [a, b] => [T64 (a / 4), T64 (a % 4 * 16 + b / 16)]
  | [a] => [T64 (a / 4)]
  | [] => []
theorem outL_snoc (n : Int) : ∀ pre : List Int, outL (pre ++ [n]) = outL pre ++ (if pre.length % 3 = 0 then [T64 (n / 4)] else if pre.length % 3 = 1 then [T64 (pre.getLastD 0 % 4 * 16 + n / 16)] else [T64 (pre.getLastD 0 % 16 * 4 + n / 64), T64 (n % 64)])
  | [] => rfl
  | [a] => rfl
  | [a, b] => rfl
  | a :: b :: c :: r => by
    have ih := outL_snoc n r
    have hm : (a :: b :: c :: r).length % 3 = r.length % 3 := by simp only [List.length_cons]; omega
    rw [hm]
    show outL (a :: b :: c :: (r ++ [n])) = _
    rw [outL, outL, ih]
    cases r with
    | nil => rfl
    | cons x r' => rfl
theorem and_zero {l n : Nat} (hn : n < 256) : (l * 256) &&& n = 0 := by
  apply Nat.eq_of_testBit_eq
  intro j
  rw [Nat.testBit_and, Nat.zero_testBit, Nat.mul_comm, show (256 : Nat) = 2 ^ 8 from rfl, Nat.testBit_two_pow_mul]
  by_cases hj : 8 ≤ j
  · have : n.testBit j = false := Nat.testBit_lt_two_pow (Nat.lt_of_lt_of_le hn (by rw [show (256 : Nat) = 2 ^ 8 from rfl]; exact Nat.pow_le_pow_right (by decide) hj))
    rw [this, Bool.and_false]
  · simp [hj]
theorem shl_or {x n : Int} (hx : 0 ≤ x) (hn0 : 0 ≤ n) (hn1 : n < 256) : Builtin.bitOr (x * 2 ^ Int.toNat 8) n = x * 256 + n := by
  have e : Builtin.bitXor (x * 2 ^ Int.toNat 8) n = Builtin.bitOr (x * 2 ^ Int.toNat 8) n - Builtin.bitAnd (x * 2 ^ Int.toNat 8) n := rfl
  have e2 := bitXor_and (x * 2 ^ Int.toNat 8) n
  have h8 : (2 : Int) ^ Int.toNat 8 = 256 := rfl
  have e3 : Builtin.bitAnd (x * 2 ^ Int.toNat 8) n = 0 := by
    rw [h8]
    unfold Builtin.bitAnd
    have a : 0 ≤ x * 256 := by omega
    simp only [decide_eq_true a, decide_eq_true hn0]
    have : (x * 256).toNat = x.toNat * 256 := by omega
    rw [this, and_zero (by omega)]; rfl
  rw [e3] at e e2
  have q : Builtin.bitOr (x * 2 ^ Int.toNat 8) n = x * 2 ^ Int.toNat 8 + n := by omega
  rw [q, h8]
theorem lc_step {x n : Int} (hx : 0 ≤ x) (hn0 : 0 ≤ n) (hn1 : n < 256) : Builtin.bitAnd (Builtin.bitOr (x * 2 ^ Int.toNat 8) n) 65535 = x % 256 * 256 + n := by
  rw [shl_or hx hn0 hn1, bitAnd_m16]; omega
theorem idx_of (x : Int) : 0 ≤ Builtin.bitAnd x 63 ∧ Builtin.bitAnd x 63 < 64 := by
  have := bitAnd_range x (y := 63) (by decide)
  omega
structure B64Inv (pre out : List Int) (lb lc : Int) : Prop where
  bits : lb = 0 ∨ lb = 2 ∨ lb = 4
  lo : 0 ≤ lc
  hi : lc < 65536
  val : out = outL pre
  left : lb = 2 * ((pre.length % 3 : Nat) : Int)
  last : lc % 256 = pre.getLastD 0
theorem b64_start : B64Inv [] [] 0 0 := ⟨.inl rfl, by decide, by decide, rfl, rfl, rfl⟩
theorem len3 (pre : List Int) (n : Int) : (pre ++ [n]).length = pre.length + 1 := by simp
section
variable {pre out : List Int} {lc n : Int}
theorem b64_turn0 (h : B64Inv pre out 0 lc) (h0 : 0 ≤ n) (h1 : n < 256) : B64Inv (pre ++ [n]) (out ++ [T64 (Builtin.bitAnd ((Builtin.bitAnd (Builtin.bitOr (lc * 2 ^ Int.toNat 8) n) 65535).fdiv (2 ^ (0 + 8 - 6 : Int).toNat)) 63)]) (0 + 8 - 6) (Builtin.bitAnd (Builtin.bitOr (lc * 2 ^ Int.toNat 8) n) 65535) := by
  have e := lc_step h.lo h0 h1
  have hl := h.left
  have hm : pre.length % 3 = 0 := by omega
  refine ⟨by decide, by rw [e]; clear e h; omega, by rw [e]; clear e h; omega, ?_, ?_, ?_⟩
  · rw [outL_snoc, if_pos hm, h.val, e, bitAnd_m6, show ((2 : Int) ^ (0 + 8 - 6 : Int).toNat) = 4 from rfl, Int.fdiv_eq_ediv_of_nonneg _ (by decide)]
    clear e h
    congr 3
    omega
  · clear e h; rw [len3]; omega
  · rw [e, List.getLastD_concat]; clear e h; omega
theorem b64_turn2 (h : B64Inv pre out 2 lc) (h0 : 0 ≤ n) (h1 : n < 256) : B64Inv (pre ++ [n]) (out ++ [T64 (Builtin.bitAnd ((Builtin.bitAnd (Builtin.bitOr (lc * 2 ^ Int.toNat 8) n) 65535).fdiv (2 ^ (2 + 8 - 6 : Int).toNat)) 63)]) (2 + 8 - 6) (Builtin.bitAnd (Builtin.bitOr (lc * 2 ^ Int.toNat 8) n) 65535) := by
  have e := lc_step h.lo h0 h1
  have hl := h.left
  have hm : pre.length % 3 = 1 := by omega
  refine ⟨by decide, by rw [e]; clear e h; omega, by rw [e]; clear e h; omega, ?_, ?_, ?_⟩
  · rw [outL_snoc, if_neg (by omega), if_pos hm, h.val, e, ← h.last, bitAnd_m6, show ((2 : Int) ^ (2 + 8 - 6 : Int).toNat) = 16 from rfl, Int.fdiv_eq_ediv_of_nonneg _ (by decide)]
    clear e h
    congr 3
    omega
  · clear e h; rw [len3]; omega
  · rw [e, List.getLastD_concat]; clear e h; omega
theorem b64_turn4 (h : B64Inv pre out 4 lc) (h0 : 0 ≤ n) (h1 : n < 256) : B64Inv (pre ++ [n]) (out ++ [T64 (Builtin.bitAnd ((Builtin.bitAnd (Builtin.bitOr (lc * 2 ^ Int.toNat 8) n) 65535).fdiv (2 ^ (4 + 8 - 6 : Int).toNat)) 63)] ++ [T64 (Builtin.bitAnd ((Builtin.bitAnd (Builtin.bitOr (lc * 2 ^ Int.toNat 8) n) 65535).fdiv (2 ^ (4 + 8 - 6 - 6 : Int).toNat)) 63)]) (4 + 8 - 6 - 6) (Builtin.bitAnd (Builtin.bitOr (lc * 2 ^ Int.toNat 8) n) 65535) := by
  have e := lc_step h.lo h0 h1
  have hl := h.left
  have hm : pre.length % 3 = 2 := by omega
  refine ⟨by decide, by rw [e]; clear e h; omega, by rw [e]; clear e h; omega, ?_, ?_, ?_⟩
  · rw [outL_snoc, if_neg (by omega), if_neg (by omega), h.val, e, ← h.last, bitAnd_m6, bitAnd_m6, show ((2 : Int) ^ (4 + 8 - 6 : Int).toNat) = 64 from rfl, show ((2 : Int) ^ (4 + 8 - 6 - 6 : Int).toNat) = 1 from rfl, Int.fdiv_eq_ediv_of_nonneg _ (by decide), Int.fdiv_eq_ediv_of_nonneg _ (by decide), List.append_assoc]
    congr 1
    simp only [List.cons_append, List.nil_append]
    clear e h
    congr 2
    · omega
    · rw [Int.ediv_one, show (lc % 256 * 256 + n) % 64 = n % 64 from by omega]
  · clear e h; rw [len3]; omega
  · rw [e, List.getLastD_concat]; clear e h; omega
end
theorem outL_length : ∀ pre : List Int, (outL pre).length ≤ 2 * pre.length
  | [] => Nat.le_refl _
  | [_] => by simp [outL]
  | [_, _] => by simp [outL]
  | _ :: _ :: _ :: r => by have := outL_length r; simp only [outL, List.length_cons]; omega
theorem b64_len {pre out post ks : List Int} {vs : List Value} {lb lc n : Int} (hf : IntsAre vs out) (hi : B64Inv pre out lb lc) (he : ks = pre ++ n :: post) (hk : ks.length ≤ 16) : vs.length ≤ 32 := by
  have h1 := hf.length
  have h2 := outL_length pre
  have h3 := congrArg List.length he
  rw [List.length_append, List.length_cons] at h3
  rw [h1, hi.val]; omega
theorem b64_lenD {out ks : List Int} {vs : List Value} {lb lc : Int} (hf : IntsAre vs out) (hi : B64Inv ks out lb lc) (hk : ks.length ≤ 16) : vs.length ≤ 32 := by
  have h1 := hf.length
  have h2 := outL_length ks
  rw [h1, hi.val]; omega
theorem T64_range (j : Int) : 0 ≤ T64 j ∧ T64 j < 256 := by
  unfold T64
  have := (b64tab.getD j.toNat 0).toNat_lt
  omega
theorem outL_range : ∀ (pre : List Int), ∀ n ∈ outL pre, 0 ≤ n ∧ n < 256
  | [], n, h => by cases h
  | [a], n, h => by
    simp only [outL, List.mem_cons, List.not_mem_nil, or_false] at h
    subst h; exact T64_range _
  | [a, b], n, h => by
    simp only [outL, List.mem_cons, List.not_mem_nil, or_false] at h
    rcases h with rfl | rfl <;> exact T64_range _
  | a :: b :: c :: r, n, h => by
    simp only [outL, List.mem_cons] at h
    rcases h with rfl | rfl | rfl | rfl | h
    · exact T64_range _
    · exact T64_range _
    · exact T64_range _
    · exact T64_range _
    · exact outL_range r n h
/-- all that b2a_base64 writes -/
noncomputable def encL (pre : List Int) : List Int :=
  outL pre ++ (if pre.length % 3 = 0 then [] else if pre.length % 3 = 1 then [T64 (pre.getLastD 0 % 4 * 16), 61, 61] else [T64 (pre.getLastD 0 % 16 * 4), 61])
theorem encL_range (pre : List Int) : ∀ n ∈ encL pre, 0 ≤ n ∧ n < 256 := by
  intro n h
  rcases List.mem_append.mp h with h | h
  · exact outL_range pre n h
  · split at h
    · cases h
    · split at h
      · simp only [List.mem_cons, List.not_mem_nil, or_false] at h
        rcases h with rfl | rfl | rfl
        · exact T64_range _
        · decide
        · decide
      · simp only [List.mem_cons, List.not_mem_nil, or_false] at h
        rcases h with rfl | rfl
        · exact T64_range _
        · decide
section
variable {pre out : List Int} {lc : Int}
theorem enc0 (h : B64Inv pre out 0 lc) : out = encL pre := by
  have hl := h.left
  have hm : pre.length % 3 = 0 := by omega
  rw [encL, if_pos hm, List.append_nil, h.val]
theorem enc2 (h : B64Inv pre out 2 lc) : out ++ [T64 (Builtin.bitAnd lc 3 * 2 ^ Int.toNat 4)] ++ [61] ++ [61] = encL pre := by
  have hl := h.left
  have hm : pre.length % 3 = 1 := by omega
  rw [encL, if_neg (by omega), if_pos hm, h.val, ← h.last, bitAnd_m2, show ((2 : Int) ^ Int.toNat 4) = 16 from rfl, show lc % 256 % 4 = lc % 4 from by omega]
  simp
theorem enc4 (h : B64Inv pre out 4 lc) : out ++ [T64 (Builtin.bitAnd lc 15 * 2 ^ Int.toNat 2)] ++ [61] = encL pre := by
  have hl := h.left
  have hm : pre.length % 3 = 2 := by omega
  rw [encL, if_neg (by omega), if_neg (by omega), h.val, ← h.last, bitAnd_m4, show ((2 : Int) ^ Int.toNat 2) = 4 from rfl, show lc % 256 % 16 = lc % 16 from by omega]
  simp
end
theorem idx3 (x : Int) : 0 ≤ Builtin.bitAnd x 3 * 2 ^ Int.toNat 4 ∧ Builtin.bitAnd x 3 * 2 ^ Int.toNat 4 < 64 := by
  have := bitAnd_range x (y := 3) (by decide)
  have e : ((2 : Int) ^ Int.toNat 4) = 16 := rfl
  rw [e]; omega
theorem idx15 (x : Int) : 0 ≤ Builtin.bitAnd x 15 * 2 ^ Int.toNat 2 ∧ Builtin.bitAnd x 15 * 2 ^ Int.toNat 2 < 64 := by
  have := bitAnd_range x (y := 15) (by decide)
  have e : ((2 : Int) ^ Int.toNat 2) = 4 := rfl
  rw [e]; omega
end

section
section
variable {prog : Program} {w : World} {A : Around} {E : Value → Shared → Prop} {s : Shared} {env : Env} {h₀ : Heap} {x : Str} {body : List Stmt} {Q : Flow → Shared → Prop}
noncomputable abbrev B64S : Type := List Value × Nat × List Int × Int × Tok × Int × Tok
noncomputable abbrev b64Led (lo : Addr) (c : B64S) : List (Addr × Obj) := [(lo, W.listOf c.1.toArray c.2.1)]
noncomputable abbrev b64Ps (c : B64S) : List (Str × Value) := [(Str.ofString "leftbits", .int c.2.2.2.1 c.2.2.2.2.1), (Str.ofString "leftchar", .int c.2.2.2.2.2.1 c.2.2.2.2.2.2)]
noncomputable abbrev b64J (lo : Addr) (x : Str) (m₀ : Str → Option Value) (pre : List Int) : (Str → Option Value) → List (Addr × Obj) → Prop :=
  KstS (b64Led lo) b64Ps (fun c => IntsAre c.1 c.2.2.1) x [] m₀ (fun pre c => B64Inv pre c.2.2.1 c.2.2.2.1 c.2.2.2.2.2.1) pre
theorem b2a_loop {b : Array UInt8} {tb : Tok} {m₀ : Str → Option Value} {lo : Addr} {t1 t2 : Tok} (hh : A.handled = none) (F : Fr h₀ env.locals s.heap m₀) (N : News h₀ env.locals s.heap [(lo, W.listOf #[] 0)])
    (h1 : m₀ (Str.ofString "leftbits") = some (.int 0 t1)) (h2 : m₀ (Str.ofString "leftchar") = some (.int 0 t2))
    (turn : ∀ (vs : List Value) (k : Nat) (out : List Int) (lb : Int) (u1 : Tok) (lc : Int) (u2 : Tok) (pre post : List Int) (n : Int) t h tk own, KBw.bInts b = pre ++ n :: post → 0 ≤ n → n < 256 → OwnOff own [lo] → IntsAre vs out → B64Inv pre out lb lc →
      Fr h₀ env.locals h (fun y => if y = x then some (.int n t) else if y = Str.ofString "leftbits" then some (.int lb u1) else if y = Str.ofString "leftchar" then some (.int lc u2) else m₀ y) → News h₀ env.locals h ((lo, W.listOf vs.toArray k) :: own) →
      wpAny (model prog w) A (execs body env) (InvPostN h₀ env.locals (b64J lo x m₀ (pre ++ [n])) own [lo] { s with heap := h, toks := tk } Q) E { s with heap := h, toks := tk })
    (done : ∀ (vs : List Value) (k : Nat) (out : List Int) (lb : Int) (u1 : Tok) (lc : Int) (u2 : Tok) (u : Option Value) h tk, IntsAre vs out → B64Inv (KBw.bInts b) out lb lc →
      Fr h₀ env.locals h (fun y => if y = x then u else if y = Str.ofString "leftbits" then some (.int lb u1) else if y = Str.ofString "leftchar" then some (.int lc u2) else m₀ y) → News h₀ env.locals h [(lo, W.listOf vs.toArray k)] → Q .next { s with heap := h, toks := tk }) :
    wpAny (model prog w) A (pyIter (.bytes b tb)) (fun it s₂ => LoopAtV prog w A h₀ env x body Q E it s₂) E s := by
  refine KStb.kst_bytes (σ := B64S) (b64Led lo) b64Ps (fun c => IntsAre c.1 c.2.2.1) [] (fun pre c => B64Inv pre c.2.2.1 c.2.2.2.1 c.2.2.2.2.2.1) ([], 0, [], 0, t1, 0, t2) rfl rfl hh F N .nil ?_ b64_start ?_ ?_
  · intro p hp
    rcases List.mem_cons.mp hp with rfl | hp
    · exact h1
    · rcases List.mem_cons.mp hp with rfl | hp
      · exact h2
      · cases hp
  · rintro ⟨vs, k, out, lb, u1, lc, u2⟩ pre post n t u h tk own he _ hn0 hn1 hoff hf hi F₁ N₁
    exact turn vs k out lb u1 lc u2 pre post n t h tk own he hn0 hn1 hoff hf hi F₁ N₁
  · rintro ⟨vs, k, out, lb, u1, lc, u2⟩ u h tk _ hf hi F₁ N₁
    refine done vs k out lb u1 lc u2 (u x) h tk hf hi ?_ N₁
    have e : (fun y => if y = x then u x else if y = Str.ofString "leftbits" then some (Value.int lb u1) else if y = Str.ofString "leftchar" then some (Value.int lc u2) else m₀ y) = fun y => if y = x then u y else kstB (fun z => if List.contains [] z then u z else m₀ z) (b64Ps (vs, k, out, lb, u1, lc, u2)) y := by
      funext y
      by_cases hy : y = x
      · subst hy; simp
      · simp only [if_neg hy]; rfl
    rw [e]; exact F₁
theorem b64_close {L : Addr} {lo : Addr} {h' : Heap} {tk : Nat} {m₀ m' : Str → Option Value} {own : List (Addr × Obj)} {a : Array Value} {k : Nat} {vs' : List Value} {out' pre' : List Int} {lb' lc' : Int} {u1 u2 : Tok} {s₁ : Shared} (F' : Fr h₀ L h' m') (N' : News h₀ L h' ((lo, W.listOf a k) :: own)) (hv : a = vs'.toArray)
    (h1 : m' (Str.ofString "leftbits") = some (.int lb' u1)) (h2 : m' (Str.ofString "leftchar") = some (.int lc' u2)) (hr : ∀ z, z ≠ x → z ≠ Str.ofString "leftbits" → z ≠ Str.ofString "leftchar" → m' z = m₀ z) (hI : IntsAre vs' out') (hp : B64Inv pre' out' lb' lc') :
    InvEndN h₀ L (b64J lo x m₀ pre') own [lo] s₁ { s₁ with heap := h', toks := tk } := by
  subst hv
  refine InvEndN.intro (nx := [(lo, W.listOf vs'.toArray k)]) F' N' ⟨(vs', k, out', lb', u1, lc', u2), rfl, hI, ?_, ?_, hp⟩ rfl (fun p hp => ?_) fun p hp => .tail _ hp
  · intro p hp
    rcases List.mem_cons.mp hp with rfl | hp
    · exact h1
    · rcases List.mem_cons.mp hp with rfl | hp
      · exact h2
      · cases hp
  · intro z hz hps _
    exact hr z hz (hps _ (.head _)) (hps _ (.tail _ (.head _)))
  · rcases List.mem_cons.mp hp with rfl | hp
    · exact .head _
    · cases hp
end
local macro_rules | `(tactic| walk_at "call ref") => `(tactic| (refine hold ?_))
local macro_rules | `(tactic| walk_at "pyIter bytes") => `(tactic| (refine hold ?_))
local macro_rules | `(tactic| walk_at "subscriptTail") => `(tactic| (refine hold ?_))
section
variable {prog : Program} {w : World} {A : Around} {E : Value → Shared → Prop} {s : Shared} {h₀ : Heap} {L : Addr} {m : Str → Option Value} {lo : Addr} {a : Array Value} {k : Nat} {rest : List (Addr × Obj)}
theorem bytes_led {vs : List Value} {ns ns' : List Int} {Q : Value → Shared → Prop} (F : Fr h₀ L s.heap m) (N : News h₀ L s.heap ((lo, W.listOf a k) :: rest)) (ha : a = vs.toArray) (hi : IntsAre vs ns) (e : ns = ns') (hr : ∀ n ∈ ns', 0 ≤ n ∧ n < 256) (hz : vs.length ≤ sizeLine) (hh : A.handled = none)
    (h : ∀ h' t k', Fr h₀ L h' m → News h₀ L h' ((lo, W.listOf a k) :: rest) → Q (.bytes (byteArr ns') t) { s with heap := h', toks := k' }) : wpAny (model prog w) A (call (.type "bytes") [.ref lo]) Q E s := by
  subst e ha
  exact bytes_K F N ⟨_, (N _ (.head _)).1, rfl, k, rfl⟩ hi hr hz hh fun h' t k' F' N' _ => h h' t k' F' N'
end
theorem line_of {n : Nat} (h : n ≤ 100) : n ≤ sizeLine := by rw [sizeLine_eq]; omega
local macro_rules | `(tactic| walk_at "call type:bytes") => `(tactic| (refine hold ?_))
local macro_rules | `(tactic| walk_at "InvEndN") => `(tactic| (refine hold ?_))
theorem b2a_call (w : World) (b : Array UInt8) (t : Tok) (hb : b.size ≤ 16) : ClaimK 20 w 75 [.bytes b t] [(Str.ofString "newline", .bool false)] Quiet (RBytes (byteArr (encL (KBw.bInts b)))) := by
  unfold ClaimK
  k_with_none
  w_top off
  intro mean mg mb dp un gd l base s Q E B X T hdp hun hpre hret
  refine wpAny_call ?_
  k_dflt (refine' enter0 (binds := [(Str.ofString "data", .bytes b t), (Str.ofString "newline", .bool false)]) B X T ?k6 ?k7 ?k8 ?k9 ?kB ?_ ?c2 ?c3 ?c4 ?c5; (case k6 => k_is); (case k7 => k_is); (case k8 => ktr_room); (case k9 => first | exact BindsTo.of_eq rfl | exact binds_K X rfl (by k_is) rfl rfl rfl); (case c5 => decide); (case kB => exact locs rfl); (case c2 => exact rfl); (case c3 => exact rfl); (case c4 => exact rfl); k_whole; intro L' h' F' N' B' X' T'; (try dsimp only); (try k_fold))
  clear B X T hpre
  k_with "pyIter bytes" => fail "none"
  k_steps
  refine held ?_
  k_dflt (refine' use_bytes (buffer_call _ _ _ ?q1) ?k1 ?k2 ?k3 ?k4 ?k5 ?k6 ?k7 ?k8 ?_; (case q1 => assumption); (case k1 => k_asm); (case k2 => k_asm); (case k3 => k_asm); (case k4 => k_asm); (case k5 => exact below_now (by k_asm) (by k_asm) rfl rfl rfl); (case k6 => ktr_room); (case k7 => ktr_units); (case k8 => trivial))
  intro t79 h79 tk79 F79 N79
  (try dsimp only)
  (try k_fold)
  k_steps
  refine held ?_
  k_dflt (refine' use_val (truth_call _) ?k1 ?k2 ?k3 ?k4 ?k5 ?k6 ?k7 ?k8 ?_; (case k1 => k_asm); (case k2 => k_asm); (case k3 => k_asm); (case k4 => k_asm); (case k5 => exact below_now (by k_asm) (by k_asm) rfl rfl rfl); (case k6 => ktr_room); (case k7 => ktr_units); (case k8 => trivial))
  intro h69 tk69 F69 N69
  (try dsimp only)
  (try k_fold)
  k_steps
  refine held ?_
  rename Fr _ _ _ _ => lF
  rename News _ _ _ _ => lN
  refine' b2a_loop rfl lF lN ?h1 ?h2 ?_ ?_
  (case h1 => exact rfl)
  (case h2 => exact rfl)
  · clear lF lN
    intro vs9 k9 out9 lb9 u19 lc9 u29 pre9 post9 n9 t9 h9 tk9 own9 he9 hn09 hn19 hoff9 hf9 hi9 F9 N9
    have hlo9 := hi9.lo
    have hhi9 := hi9.hi
    have hlen9 := b64_len hf9 hi9 he9 (by rw [KBw.ints_length]; assumption)
    rcases hi9.bits with hq9 | hq9 | hq9
    all_goals (subst hq9; (try dsimp only); (try k_fold))
    all_goals k_steps
    all_goals refine held ?_
    all_goals refine subscriptTail_builtin (typeIs_bytes _ _ _) FB.slot_bytes_getitem.lookup (getItem_bytes (l := b64tab) (by decide) (idx_of _).1 (idx_of _).2 ?_)
    all_goals k_steps
    all_goals refine held ?_
    · refine b64_close (by assumption) (by assumption) (List.push_toArray ..) rfl rfl (fun z z1 z2 z3 => ?_) (IntsAre.append (by assumption) (.cons _ _ .nil)) (b64_turn0 hi9 (by assumption) (by assumption))
      simp only [if_neg z1, if_neg z2, if_neg z3]
    · refine b64_close (by assumption) (by assumption) (List.push_toArray ..) rfl rfl (fun z z1 z2 z3 => ?_) (IntsAre.append (by assumption) (.cons _ _ .nil)) (b64_turn2 hi9 (by assumption) (by assumption))
      simp only [if_neg z1, if_neg z2, if_neg z3]
    · refine subscriptTail_builtin (typeIs_bytes _ _ _) FB.slot_bytes_getitem.lookup (getItem_bytes (l := b64tab) (by decide) (idx_of _).1 (idx_of _).2 ?_)
      k_steps
      refine held ?_
      refine b64_close (by assumption) (by assumption) ((congrArg (fun q => Array.push q _) (List.push_toArray ..)).trans (List.push_toArray ..)) rfl rfl (fun z z1 z2 z3 => ?_) (IntsAre.append (IntsAre.append (by assumption) (.cons _ _ .nil)) (.cons _ _ .nil)) (b64_turn4 hi9 (by assumption) (by assumption))
      simp only [if_neg z1, if_neg z2, if_neg z3]
  · intro vs9 k9 out9 lb9 u19 lc9 u29 u9 h9 tk9 hf9 hi9 F9 N9
    have hlo9 := hi9.lo
    have hhi9 := hi9.hi
    have hlen9 := b64_lenD hf9 hi9 (by rw [KBw.ints_length]; assumption)
    have hr31 := (bitAnd_range lc9 (y := 3) (by decide)).1
    have hr32 := (bitAnd_range lc9 (y := 3) (by decide)).2
    have hr51 := (bitAnd_range lc9 (y := 15) (by decide)).1
    have hr52 := (bitAnd_range lc9 (y := 15) (by decide)).2
    rcases hi9.bits with hq9 | hq9 | hq9
    all_goals (subst hq9; (try k_fold))
    all_goals k_steps
    all_goals refine held ?_
    · refine bytes_led (by assumption) (by assumption) rfl (by assumption) (enc0 hi9) (encL_range _) (line_of (by (try simp only [List.length_append, List.length_cons, List.length_nil]); omega)) rfl ?_
      intro h9 t9 k9 F9 N9
      k_steps
      exact hret _ _ _ (Fr.keep (by k_asm)) ⟨_, rfl⟩
    · refine subscriptTail_builtin (typeIs_bytes _ _ _) FB.slot_bytes_getitem.lookup (getItem_bytes (l := b64tab) (by decide) (idx3 _).1 (idx3 _).2 ?_)
      k_steps
      refine held ?_
      refine bytes_led (by assumption) (by assumption) (by simp only [List.push_toArray]; rfl) (IntsAre.append (IntsAre.append (IntsAre.append (by assumption) (.cons _ _ .nil)) (.cons _ _ .nil)) (.cons _ _ .nil)) (enc2 hi9) (encL_range _) (line_of (by (try simp only [List.length_append, List.length_cons, List.length_nil]); omega)) rfl ?_
      intro h9 t9 k9 F9 N9
      k_steps
      exact hret _ _ _ (Fr.keep (by k_asm)) ⟨_, rfl⟩
    · refine subscriptTail_builtin (typeIs_bytes _ _ _) FB.slot_bytes_getitem.lookup (getItem_bytes (l := b64tab) (by decide) (idx15 _).1 (idx15 _).2 ?_)
      k_steps
      refine held ?_
      refine bytes_led (by assumption) (by assumption) (by simp only [List.push_toArray]; rfl) (IntsAre.append (IntsAre.append (by assumption) (.cons _ _ .nil)) (.cons _ _ .nil)) (enc4 hi9) (encL_range _) (line_of (by (try simp only [List.length_append, List.length_cons, List.length_nil]); omega)) rfl ?_
      intro h9 t9 k9 F9 N9
      k_steps
      exact hret _ _ _ (Fr.keep (by k_asm)) ⟨_, rfl⟩
end

section
namespace Tr
open Builtin PySem.W.FB
theorem slot_tr : Slot "bytes" "translate" "bytes.translate" :=
  .of (owner := "bytes") (n := "translate") (by rw [typeLookup_type, builtinLookup_eq_fast]; kernel_rfl) (by decide +kernel) (by decide +kernel) (by decide +kernel)
    (by first | exact .inl (by decide +kernel) | exact .inr (by decide +kernel)) (by rw [isSubtype_type]; kernel_rfl)
theorem type_tr : typeOf (.builtin "bytes.translate") = pure (.type "method_descriptor") := by show builtinType _ = _; rw [builtinType_eq_fast]; kernel_rfl
theorem entry_tr : entryFor table "bytes.translate" = some Builtin.«bytes.translate» := entryFor_of_tree (by kernel_rfl)
theorem args_tr (a b : Value) : argsOk "bytes.translate" ⟨[a, b], []⟩ := by
  unfold argsOk; rw [signature?_of (id := "bytes.translate") (n := ['e', 't', 'a', 'l', 's', 'n', 'a', 'r', 't']) (o := ['s', 'e', 't', 'y', 'b']) (by kernel_rfl) owner_bytes]; kernel_rfl
theorem plain_mk : plainId "bytes.maketrans" = true := by decide +kernel
theorem entry_mk : entryFor table "bytes.maketrans" = some Builtin.«bytes.maketrans» := entryFor_of_tree (by kernel_rfl)
theorem args_mk (a b : Value) : argsOk "bytes.maketrans" ⟨[a, b], []⟩ := by
  unfold argsOk; rw [signature?_of (id := "bytes.maketrans") (n := ['s', 'n', 'a', 'r', 't', 'e', 'k', 'a', 'm']) (o := ['s', 'e', 't', 'y', 'b']) (by kernel_rfl) owner_bytes]; kernel_rfl
theorem check_mk (a b : Value) : checkBuiltinCall "bytes.maketrans" ⟨[a, b], []⟩ = pure () := by kernel_rfl
section
variable {prog : Program} {w : World} {A : Around} {E : Value → Shared → Prop} {s : Shared} {b c tb : Array UInt8} {t u : Tok}
noncomputable def trOf (tb b : Array UInt8) : Array UInt8 := b.map fun c => tb.getD c.toNat c
theorem filter_none (b : Array UInt8) : b.filter (fun x => !(#[] : Array UInt8).contains x) = b := by simp
theorem meets_tr (hs : tb.size = 256) (hb : b.size ≤ sizeLine) : Meets («bytes.translate» ⟨[.bytes b t, .bytes tb u], []⟩) (fun _ R s => ∀ t' k, R (.ok (.ret (.bytes (trOf tb b) t'))) { s with toks := k }) := by
  refine .of_wp fun prog w A R s h => ?_
  have e : «bytes.translate» ⟨[.bytes b t, .bytes tb u], []⟩ = (do
    let tt ← Bytes.bytesLike "bytes.translate" (.bytes tb u)
    if tt.size != 256 then rule "bytes.translate.table-size"; raiseError "ValueError" "translation table must be 256 characters long"
    let out := (b.filter (fun x => !(#[] : Array UInt8).contains x)).map fun c => tt.getD c.toNat c
    if out == b then rule "bytes.translate.unchanged"; ret (← Bytes.Kind.same .bytes (.bytes b t)) else ret (← Bytes.Kind.new .bytes out)) := by rfl
  have hne : (tb.size != 256) = false := by rw [hs]; rfl
  rw [e, KBd.like_eq, pure_bind, hne, filter_none]
  show wpAny _ _ (if (trOf tb b == b) = true then _ else _) _ _ _
  by_cases q : (trOf tb b == b) = true
  · rw [if_pos q]
    have eq : trOf tb b = b := beq_iff_eq.mp q
    refine wpAny_bind (wpAny_rule (wpAny_bind ?_))
    refine wpAny_bind (wpAny_of_eq (show typeOf (.bytes b t) = pure (.type "bytes") from rfl) ?_)
    have := h t s.toks
    rw [eq] at this
    exact wpAny_pure (wpAny_pure ⟨_, rfl, this⟩)
  · rw [if_neg q]
    exact wpAny_bind (wpAny_mkBytes (wpAny_pure ⟨_, rfl, h _ _⟩) (by rw [Array.size_map]; exact hb))
theorem call_tr {Q : Value → Shared → Prop} (hs : tb.size = 256) (hb : b.size ≤ sizeLine) (h : ∀ t' k, Q (.bytes (trOf tb b) t') { s with toks := k }) : wpAny (model prog w) A (call (.builtin "bytes.translate") [.bytes b t, .bytes tb u]) Q E s :=
  call_meets slot_tr (typeIs_bytes _ _ _) entry_tr (args_tr _ _) (meets_tr hs hb) h
noncomputable def mkOf (b c : Array UInt8) : Array UInt8 := (b.toList.zip c.toList).foldl (fun t (f, x) => t.setIfInBounds f.toNat x) ((Array.range 256).map (·.toUInt8))
theorem mk_size (b c : Array UInt8) : (mkOf b c).size = 256 := by
  unfold mkOf
  have : ∀ (l : List (UInt8 × UInt8)) (a : Array UInt8), (l.foldl (fun t (p : UInt8 × UInt8) => t.setIfInBounds p.1.toNat p.2) a).size = a.size := by
    intro l
    induction l with
    | nil => intro a; rfl
    | cons p l ih => intro a; rw [List.foldl_cons, ih, Array.size_setIfInBounds]
  rw [this]; simp
theorem call_mk {Q : Value → Shared → Prop} (hs : b.size = c.size) (h : ∀ t' k, Q (.bytes (mkOf b c) t') { s with toks := k }) : wpAny (model prog w) A (call (.builtin "bytes.maketrans") [.bytes b t, .bytes c u]) Q E s := by
  refine wpAny_call (codeAny_call_builtin plain_mk entry_mk (wpAny_of_eq (check_mk _ _) ?_))
  have e : «bytes.maketrans» ⟨[.bytes b t, .bytes c u], []⟩ = (do
    let frm ← Bytes.bytesLike "bytes.maketrans" (.bytes b t)
    let to ← Bytes.bytesLike "bytes.maketrans" (.bytes c u)
    if frm.size != to.size then rule "bytes.maketrans.sizes"; raiseError "ValueError" "maketrans arguments must have same length"
    ret (← mkBytes ((frm.toList.zip to.toList).foldl (fun t (f, x) => t.setIfInBounds f.toNat x) ((Array.range 256).map (·.toUInt8))))) := by rfl
  have hne : (b.size != c.size) = false := by rw [hs]; simp
  rw [e, KBd.like_eq, pure_bind, KBd.like_eq, pure_bind, hne]
  exact wpAny_bind (wpAny_mkBytes (wpAny_pure (h _ _)) (by have := mk_size b c; unfold mkOf at this; rw [this, sizeLine_eq]; decide))
theorem method_tr {M : Model} {pl : Sem Bool} {Q : Value × List Value → Shared → Prop} (h : Q (.builtin "bytes.translate", [.bytes b t]) s) : wpAny M A (getMethod (.bytes b t) "translate" pl) Q E s := by
  with_reducible exact KBd.method_of (.bytes b t) (typeIs_bytes _ _ _) slot_tr type_tr KBd.noRef h
end
end Tr
end

local macro_rules | `(tactic| walk_at "none C6 0") => `(tactic| fail)
section
local macro_rules | `(tactic| walk_at "call ref") => `(tactic| (refine hold ?_))
local macro_rules | `(tactic| walk_at "getMethod bytes") => `(tactic| (k_here; (with_reducible refine Tr.method_tr ?_)))
local macro_rules | `(tactic| walk_at "getMethod type:bytes") => `(tactic| (refine hold ?_))
local macro_rules | `(tactic| walk_at "call builtin:bytes.maketrans") => `(tactic| (refine hold ?_))
local macro_rules | `(tactic| walk_at "call builtin:bytes.translate") => `(tactic| (refine hold ?_))
theorem encL_length (pre : List Int) : (encL pre).length ≤ 2 * pre.length + 3 := by
  unfold encL
  have := outL_length pre
  rw [List.length_append]
  split
  · simp; omega
  · split <;> simp <;> omega
theorem enc_line {b : Array UInt8} (hb : b.size ≤ 16) : (encL (KBw.bInts b)).length ≤ sizeLine := by
  have := encL_length (KBw.bInts b)
  rw [KBw.ints_length] at this
  rw [sizeLine_eq]; omega
theorem b64_none (w : World) (b : Array UInt8) (t : Tok) (hb : b.size ≤ 16) : Claim 30 w 83 [.bytes b t] Quiet (RBytes (byteArr (encL (KBw.bInts b)))) := by
  unfold Claim
  k_with_none
  w_top off
  intro mean mg mb dp un gd l base s Q E B X T hdp hun hpre hret
  refine wpAny_call ?_
  k_dflt (refine' enter0 (binds := [(Str.ofString "s", .bytes b t), (Str.ofString "altchars", .none)]) B X T ?k6 ?k7 ?k8 ?k9 ?kB ?_ ?c2 ?c3 ?c4 ?c5; (case k6 => k_is); (case k7 => k_is); (case k8 => ktr_room); (case k9 => first | exact BindsTo.of_eq rfl | exact binds_K X rfl (by k_is) rfl rfl rfl); (case c5 => decide); (case kB => exact locs rfl); (case c2 => exact rfl); (case c3 => exact rfl); (case c4 => exact rfl); k_whole; intro L' h' F' N' B' X' T'; (try dsimp only); (try k_fold))
  clear B X T hpre
  k_steps
  refine held ?_
  k_dflt (refine' use_bytesK (b2a_call _ _ _ ?q1) ?k1 ?k2 ?k3 ?k4 ?k5 ?k6 ?k7 ?k8 ?_; (case q1 => assumption); (case k1 => k_asm); (case k2 => k_asm); (case k3 => k_asm); (case k4 => k_asm); (case k5 => exact below_now (by k_asm) (by k_asm) rfl rfl rfl); (case k6 => ktr_room); (case k7 => ktr_units); (case k8 => trivial))
  intro t9 h9 tk9 F9 N9
  (try dsimp only)
  (try k_fold)
  k_steps
  all_goals exact hret _ _ _ (Fr.keep (by k_asm)) ⟨_, rfl⟩
theorem b64_alt (w : World) (b c : Array UInt8) (t t' : Tok) (hb : b.size ≤ 16) (hc : c = #[32, 34]) : Claim 30 w 83 [.bytes b t, .bytes c t'] Quiet (RBytes (Tr.trOf (Tr.mkOf #[43, 47] #[32, 34]) (byteArr (encL (KBw.bInts b))))) := by
  unfold Claim
  k_with_none
  w_top off
  intro mean mg mb dp un gd l base s Q E B X T hdp hun hpre hret
  refine wpAny_call ?_
  k_dflt (refine' enter0 (binds := [(Str.ofString "s", .bytes b t), (Str.ofString "altchars", .bytes c t')]) B X T ?k6 ?k7 ?k8 ?k9 ?kB ?_ ?c2 ?c3 ?c4 ?c5; (case k6 => k_is); (case k7 => k_is); (case k8 => ktr_room); (case k9 => first | exact BindsTo.of_eq rfl | exact binds_K X rfl (by k_is) rfl rfl rfl); (case c5 => decide); (case kB => exact locs rfl); (case c2 => exact rfl); (case c3 => exact rfl); (case c4 => exact rfl); k_whole; intro L' h' F' N' B' X' T'; (try dsimp only); (try k_fold))
  clear B X T hpre
  subst hc
  have hline := enc_line hb
  k_steps
  refine held ?_
  k_dflt (refine' use_bytesK (b2a_call _ _ _ ?q1) ?k1 ?k2 ?k3 ?k4 ?k5 ?k6 ?k7 ?k8 ?_; (case q1 => assumption); (case k1 => k_asm); (case k2 => k_asm); (case k3 => k_asm); (case k4 => k_asm); (case k5 => exact below_now (by k_asm) (by k_asm) rfl rfl rfl); (case k6 => ktr_room); (case k7 => ktr_units); (case k8 => trivial))
  intro t9 h9 tk9 F9 N9
  (try dsimp only)
  (try k_fold)
  k_steps
  refine held ?_
  with_reducible refine' method_type ?F ?X ?m (by decide +kernel) ?e ?h ?_
  (case F => k_asm)
  (case X => k_asm)
  (case m => first | rfl | kernel_rfl)
  (case e => k_dflt k_is)
  (case h => k_handed)
  k_steps
  refine held ?_
  with_reducible refine Tr.call_mk (by first | rfl | decide) ?_
  intro _ _
  k_steps
  refine held ?_
  with_reducible refine Tr.call_tr (Tr.mk_size _ _) (by first | assumption | (rw [byteArr_size]; assumption)) ?_
  intro _ _
  k_steps
  all_goals exact hret _ _ _ (Fr.keep (by k_asm)) ⟨_, rfl⟩
end

section
namespace EnT
section
variable {prog : Program} {w : World} {A : Around} {E : Value → Shared → Prop} {s : Shared}
theorem next_item {it t : Addr} {i : Nat} {items : Array Value} {x : Value} {Q : Value → Shared → Prop} (hit : s.heap.IsTupleIter it t i) (ht : s.heap.IsTuple t items) (hx : items[i]? = some x)
    (hQ : ∀ h', h'.IsTupleIter it t (i + 1) → Heap.SameBut it s.heap h' → Q x { s with heap := h' }) : wpAny (model prog w) A (Builtin.SmallTypes.nextOf (.ref it)) Q E s := by
  obtain ⟨o, ho, hc, hd⟩ := id hit
  obtain ⟨ol, hol, _, nl, hdl⟩ := ht
  unfold Builtin.SmallTypes.nextOf
  refine wpAny_bind (wpAny_callSpecial?_slot (name := Str.ofString "__next__") hit.typeIs F.slot_tuple_iterator_next (wpAny_call_entry F.slot_tuple_iterator_next hit.typeIs F.entry_tuple_iterator_next ?_ (F.args_tuple_iterator_next_1 _)))
  show wpAny _ _ (field (.ref it) 0 >>= _) _ _ s
  refine wpAny_bind (wpAny_field ho hd (x := .ref t) rfl ?_)
  show wpAny _ _ (if (Value.ref t == Value.none) = true then _ else _) _ _ s
  rw [if_neg (show ¬ ((Value.ref t == Value.none) = true) from Bool.false_ne_true)]
  show wpAny _ _ (field (.ref it) 1 >>= _) _ _ s
  refine wpAny_bind (wpAny_field ho hd (x := .int i 0) rfl ?_)
  show wpAny _ _ (seqItems? (.ref t) >>= _) _ _ s
  refine wpAny_bind (wpAny_seqItems hol hdl ?_)
  simp only [Int.toNat_natCast, hx]
  refine wpAny_bind (wpAny_setField ho hd (by simp) (wpAny_pure ⟨x, rfl, wpAny_pure (hQ _ ?_ (Heap.SameBut.update ..))⟩))
  exact ⟨_, Heap.get?_update_self _ ho (Obj.isFreed_of_fields (Obj.data_mapFields hd _)), (Obj.cls_mapFields ..).trans hc, by rw [Obj.data_mapFields hd]; simp [rawInt]⟩
theorem next_end {it t : Addr} {i : Nat} {items : Array Value} {Q : Value → Shared → Prop} (hh : A.handled = none) (hit : s.heap.IsTupleIter it t i) (ht : s.heap.IsTuple t items) (hx : items[i]? = none)
    (hE : ∀ h' e, Heap.ExtBut it s.heap h' → (∃ o, h'.get? e = some o ∧ o.cls = .type "StopIteration") → E (.ref e) { s with heap := h' }) : wpAny (model prog w) A (Builtin.SmallTypes.nextOf (.ref it)) Q E s := by
  obtain ⟨o, ho, hc, hd⟩ := id hit
  obtain ⟨ol, hol, _, nl, hdl⟩ := ht
  unfold Builtin.SmallTypes.nextOf
  refine wpAny_bind (wpAny_callSpecial?_slot (name := Str.ofString "__next__") hit.typeIs F.slot_tuple_iterator_next (wpAny_call_entry F.slot_tuple_iterator_next hit.typeIs F.entry_tuple_iterator_next ?_ (F.args_tuple_iterator_next_1 _)))
  show wpAny _ _ (field (.ref it) 0 >>= _) _ _ s
  refine wpAny_bind (wpAny_field ho hd (x := .ref t) rfl ?_)
  show wpAny _ _ (if (Value.ref t == Value.none) = true then _ else _) _ _ s
  rw [if_neg (show ¬ ((Value.ref t == Value.none) = true) from Bool.false_ne_true)]
  show wpAny _ _ (field (.ref it) 1 >>= _) _ _ s
  refine wpAny_bind (wpAny_field ho hd (x := .int i 0) rfl ?_)
  show wpAny _ _ (seqItems? (.ref t) >>= _) _ _ s
  refine wpAny_bind (wpAny_seqItems hol hdl ?_)
  simp only [Int.toNat_natCast, hx]
  refine wpAny_bind (wpAny_rule (wpAny_bind (wpAny_setField ho hd (by simp) ?_)))
  show wpAny _ _ (newExc (.type "StopIteration") [] >>= _) _ _ _
  refine wpAny_bind ?_
  simp only [newExc, newTuple]
  refine wpAny_bind (wpAny_newObj_type ?_ (by size_fits))
  refine wpAny_bind (m := firstArgMember _ _) (wpAny_of_eq (a := Value.none) (by first | rfl | (simp only [firstArgMember]; rfl)) ?_)
  refine wpAny_newObj_type ?_ (by size_fits)
  simp only [raiseNew]
  refine wpAny_bind (wpAny_handled ?_)
  first | rw [show A.in1.handled = none from hh] | rw [hh]
  refine wpAny_bind (wpAny_pure (wpAny_throw ?_))
  exact hE _ _ (((Heap.SameBut.update ..).extBut.push _).push _) ⟨_, Heap.get?_push_size _ rfl, rfl⟩
end
theorem draws {prog : Program} {w : World} {A : Around} (hh : A.handled = none) (it l : Addr) (hne : l ≠ it) (items : Array Value) :
    Draws prog w A it [it, l] items.size (fun i v => items[i]? = some v) (fun i h => h.IsTupleIter it l i ∧ h.IsTuple l items) where
  live := fun _ _ st => let ⟨o, ho, _⟩ := st.1; ⟨o, ho⟩
  frame := fun _ _ _ st hk => ⟨let ⟨o, ho, r⟩ := st.1; ⟨o, hk it (by simp) o ho, r⟩, let ⟨o, ho, r⟩ := st.2; ⟨o, hk l (by simp) o ho, r⟩⟩
  item := fun i s Q E hi st hQ => by
    refine next_item st.1 st.2 (x := items[i]) (by simp [hi]) fun h' hit' hs' => ?_
    exact hQ _ h' s.toks (by simp [hi]) ⟨hit', st.2.extBut hs'.extBut hne⟩ hs'
  done := fun s Q E st hE => next_end hh st.1 st.2 (by simp) hE
section
open AutoSeq1 (wpAny_loadPart')
theorem enum_new (l : Addr) (items : Array Value) (n : Nat) (dct : Option Addr) (sl : Array (Option Value)) :
    Meets (Builtin.«enumerate.__new__» ⟨[.type "enumerate", .ref l], []⟩) (fun _ R s => s.heap.get? l = some { cls := .type "tuple", dict := dct, data := .seq items n, slots := sl } ∧
      R (.ok (.ret (.ref (s.heap.push { cls := .type "tuple_iterator", data := .fields #[.ref l, .int 0 0] }).objs.size)))
        { s with heap := (s.heap.push { cls := .type "tuple_iterator", data := .fields #[.ref l, .int 0 0] }).push { cls := .type "enumerate", data := .fields #[.none, .bool false, .ref s.heap.objs.size, rawInt 0, .none, .none] } }) :=
  .of_wp fun prog w A R s h => by
    obtain ⟨hp, g, d, tk, os⟩ := s; obtain ⟨hl, h⟩ := h
    have hsub := sub_enumerate
    have hL : Heap.IsTuple (Shared.heap ⟨hp, g, d, tk, os⟩) l items := ⟨_, hl, rfl, n, rfl⟩
    wp_walk using wpAny_loadPart' hl
    refine wpAny_stack_any fun st => wpAny_pure ?_
    split
    · rename_i c _ _ _ _ _
      cases (c == Value.type "enumerate")
      · wp_walk using wpAny_loadPart' hl, wpAny_pyIter_tuple hL
        exact ⟨_, rfl, h⟩
      · wp_walk using wpAny_loadPart' hl, wpAny_pyIter_tuple hL
        exact ⟨_, rfl, h⟩
    · wp_walk using wpAny_loadPart' hl, wpAny_pyIter_tuple hL
      exact ⟨_, rfl, h⟩
end
section
variable {prog : Program} {w : World} {A : Around} {E : Value → Shared → Prop} {s : Shared}
theorem enum_call {l : Addr} {items : Array Value} {Q : Value → Shared → Prop} (hL : s.heap.IsTuple l items)
    (h : ∀ h', IsEnum h' (s.heap.objs.size + 1) s.heap.objs.size 0 .none → h'.IsTupleIter s.heap.objs.size l 0 → h'.objs.size = s.heap.objs.size + 2 → Keeps s.heap h' → Q (.ref (s.heap.objs.size + 1)) { s with heap := h' }) :
    wpAny (model prog w) A (call (.type "enumerate") [.ref l]) Q E s := by
  obtain ⟨⟨c, dct, dt, sl⟩, hl, hc, n, hd⟩ := hL
  replace hc : c = .type "tuple" := hc
  replace hd : dt = .seq items n := hd
  subst hc hd
  refine callType_new F.called_enumerate (by decide) (F.typeCall_enumerate_1 _) (F.newCall_enumerate_1 _) (fun obj => F.args_object_init_2 obj _) F.entry_enumerate_new (enum_new l items n dct sl) ⟨hl, ?_⟩
  have hz : (s.heap.push { cls := .type "tuple_iterator", data := .fields #[.ref l, .int 0 0] }).objs.size = s.heap.objs.size + 1 := Heap.size_push ..
  show _ ∧ _
  rw [hz]
  have he : IsEnum ((s.heap.push { cls := .type "tuple_iterator", data := .fields #[.ref l, .int 0 0] }).push { cls := .type "enumerate", data := .fields #[.none, .bool false, .ref s.heap.objs.size, rawInt 0, .none, .none] }) (s.heap.objs.size + 1) s.heap.objs.size 0 .none := by
    have := Heap.get?_push_size (s.heap.push { cls := .type "tuple_iterator", data := .fields #[.ref l, .int 0 0] }) (o := { cls := .type "enumerate", data := .fields #[.none, .bool false, .ref s.heap.objs.size, rawInt 0, .none, .none] }) rfl
    rw [hz] at this; exact this
  exact ⟨⟨_, he, rfl⟩, h _ he ⟨_, Heap.get?_push_of_some _ (Heap.get?_push_size _ rfl), rfl, rfl⟩ (by rw [Heap.size_push, hz]) fun b o x => Heap.get?_push_of_some _ (Heap.get?_push_of_some _ x)⟩
theorem go_iter {elts : List PySem.Expr} {x1 : Nat} {pos : Pos} {I l : Addr} {v : Value} {i : Nat} {Q : Unit → Shared → Prop} (hit : s.heap.IsTupleIter I l i) (hQ : Q () s) : wpAny (model prog w) A (letOwnedTupleGo (.Tuple elts x1 pos) (.ref I) v) Q E s := by
  obtain ⟨o, ho, hc, hd⟩ := hit
  unfold letOwnedTupleGo
  cases v with
  | ref T =>
    refine wpAny_bind (wpAny_load ho ?_)
    rw [hc, hd]
    show wpAny _ A (if (["enumerate", "zip", "dict_itemiterator", "dict_reverseitemiterator", "odict_iterator", "itertools.zip_longest", "itertools.pairwise"].contains "tuple_iterator" && (#[.ref l, .int i 0] : Array Value)[0]? == some (rawInt T)) = true then _ else _) Q E s
    rw [if_neg (by
      intro h
      rw [show (["enumerate", "zip", "dict_itemiterator", "dict_reverseitemiterator", "odict_iterator", "itertools.zip_longest", "itertools.pairwise"].contains "tuple_iterator") = false from by decide, Bool.false_and] at h
      cases h)]
    exact wpAny_pure hQ
  | _ => exact wpAny_pure hQ
end
end EnT
end

section
namespace Lp
noncomputable abbrev Nay : Value → Shared → Prop := fun _ _ => False
/-- the first entry that answers -/
noncomputable def pick (cond : Int → Bool) (es : List (Addr × Int × Str)) (d : Str) : Str := match es.find? (fun e => cond e.2.1) with
  | some e => e.2.2
  | none => d
/-- a name's value and another's are forgotten -/
noncomputable abbrev two (a b : Str) (u v : Option Value) (m : Str → Option Value) : Str → Option Value := fun z => if z = a then u else if z = b then v else m z
theorem two_of {a b : Str} {m m' : Str → Option Value} (h : ∀ z, z ≠ a → z ≠ b → m' z = m z) : m' = two a b (m' a) (m' b) m := by
  funext z
  by_cases h1 : z = a
  · subst h1; simp [two]
  · by_cases h2 : z = b
    · subst h2; simp [two, h1]
    · simp [two, h1, h2, h z h1 h2]
noncomputable def LastPost (D : Shared → Prop) (f : Flow) (s₃ : Shared) : Prop := f = .next ∧ D s₃
/-- behind a turn: it broke, or nothing but the two names turned -/
noncomputable def PickPost (h₀ : Heap) (L : Addr) (na nb : Str) (m₀ : Str → Option Value) (s : Shared) (led : List (Addr × Obj)) (I : Addr) (oI : Obj) (b : Bool) (D : Shared → Prop) (f : Flow) (s₃ : Shared) : Prop :=
  match f with
  | .brk => b = true ∧ D s₃
  | .ret _ => False
  | _ => b = false ∧ ∃ m₂ h₂ tk₂, s₃ = { s with heap := h₂, toks := tk₂ } ∧ (∀ z, z ≠ na → z ≠ nb → m₂ z = m₀ z) ∧ Fr h₀ L h₂ m₂ ∧ News h₀ L h₂ (led ++ [(I, oI)])
section
variable {prog : Program} {w : World} {A : Around} {s : Shared} {env : Env} {h₀ : Heap} {elts : List PySem.Expr} {x1 : Nat} {pos : Pos} {body orelse : List Stmt} {m₀ : Str → Option Value} {led : List (Addr × Obj)} {tj : Addr} {na nb : Str}
/-- for .. else over a tuple of pairs: the first that answers breaks -/
theorem for_pick {R : Result → Shared → Prop} (cond : Int → Bool) (es : List (Addr × Int × Str)) (d : Str) (Done : Str → Shared → Prop) (hh : A.handled = none) (ht : h₀.IsTuple tj (es.map fun e => Value.ref e.1).toArray)
    (F : Fr h₀ env.locals s.heap m₀) (N : News h₀ env.locals s.heap led)
    (turn : ∀ e ∈ es, ∀ I oI u v h tk, (∀ p ∈ led, p.1 ≠ I) → Fr h₀ env.locals h (two na nb u v m₀) → News h₀ env.locals h (led ++ [(I, oI)]) →
      wpAny (model prog w) A (assign (.Tuple elts x1 pos) env (.ref e.1)) (fun _ s₂ => wpAny (model prog w) A (execs body env) (PickPost h₀ env.locals na nb m₀ s led I oI (cond e.2.1) (Done e.2.2)) Nay s₂) Nay { s with heap := h, toks := tk })
    (last : ∀ u v h tk, Fr h₀ env.locals h (two na nb u v m₀) → News h₀ env.locals h led → wpAny (model prog w) A (execs orelse env) (LastPost (Done d)) Nay { s with heap := h, toks := tk })
    (hR : ∀ s', Done (pick cond es d) s' → R (.ok .next) s') {E : Value → Shared → Prop} :
    wpAny (model prog w) A (pyIter (.ref tj)) (fun it s₂ => codeAny (model prog w) A (.forLoop (.Tuple elts x1 pos) it body orelse env) R s₂) E s := by
  have hls : s.heap.IsTuple tj (es.map fun e => Value.ref e.1).toArray := let ⟨o, ho, r⟩ := ht; ⟨o, F.keep _ _ ho, r⟩
  obtain ⟨ot, hot, _⟩ := id ht
  have htI : tj ≠ s.heap.objs.size := Nat.ne_of_lt (Heap.lt_size (F.keep _ _ hot))
  refine wpAny_pyIter_tuple hls ?_
  have newI : h₀.get? s.heap.objs.size = none := by
    cases q : h₀.get? s.heap.objs.size with
    | none => rfl
    | some o => exact absurd (Heap.lt_size (F.keep _ _ q)) (Nat.lt_irrefl _)
  have LI : env.locals ≠ s.heap.objs.size := Nat.ne_of_lt F.ns.lt
  have ledI : ∀ p ∈ led, p.1 ≠ s.heap.objs.size := fun p hp => Nat.ne_of_lt (Heap.lt_size (N p hp).1)
  let n := es.length
  refine codeAny_forLoop_any (fun k s' => ∃ i u v h tk, s' = { s with heap := h, toks := tk } ∧ k = n + 1 - i ∧ i ≤ n ∧ h.IsTupleIter s.heap.objs.size tj i ∧ Fr h₀ env.locals h (two na nb u v m₀) ∧ News h₀ env.locals h led ∧ (es.take i).find? (fun e => cond e.2.1) = none) ?_ (n + 1)
    ⟨0, m₀ na, m₀ nb, _, s.toks, rfl, rfl, Nat.zero_le _, ⟨_, Heap.get?_push_size _ rfl, rfl, rfl⟩, ?_, fun p hp => ⟨Heap.get?_push_of_some _ (N p hp).1, (N p hp).2⟩, rfl⟩
  · rintro k s' ⟨i, u, v, h, tk, rfl, rfl, hi, hit, F', N', hno⟩
    have htup : h.IsTuple tj (es.map fun e => Value.ref e.1).toArray := let ⟨o, ho, r⟩ := ht; ⟨o, F'.keep _ _ ho, r⟩
    by_cases hlt : i < n
    · have hx : ((es.map fun e => Value.ref e.1).toArray)[i]? = some (.ref (es[i]'hlt).1) := by
        rw [List.getElem?_toArray, List.getElem?_map, List.getElem?_eq_getElem hlt]; rfl
      refine wpAny_pyNext_tuple_item hit htup hx fun h' hit' hs' => ?_
      refine EnT.go_iter hit' ?_
      obtain ⟨oI, hoI, hoc, hod⟩ := id hit'
      have F1 : Fr h₀ env.locals h' (two na nb u v m₀) := ⟨F'.ns.sameBut hs' LI, fun b o e => (hs'.2 b (fun q => by rw [q, newI] at e; cases e)).trans (F'.keep b o e), F'.above⟩
      have N1 : News h₀ env.locals h' (led ++ [(s.heap.objs.size, oI)]) := by
        intro p hp
        rcases List.mem_append.mp hp with hp | hp
        · exact ⟨(hs'.2 _ (ledI p hp)).trans (N' p hp).1, (N' p hp).2⟩
        · cases List.mem_singleton.mp hp
          exact ⟨hoI, LI.symm, newI⟩
      refine wpAny_mono (turn _ (List.getElem_mem hlt) s.heap.objs.size oI u v h' tk ledI F1 N1) (fun _ s₂ h₂ => wpAny_mono h₂ (fun f s₃ h₃ => ?_) fun _ _ x => x.elim) fun _ _ x => x.elim
      have fin : (cond (es[i]'hlt).2.1 = false ∧ ∃ m₂ h₂ tk₂, s₃ = { s with heap := h₂, toks := tk₂ } ∧ (∀ z, z ≠ na → z ≠ nb → m₂ z = m₀ z) ∧ Fr h₀ env.locals h₂ m₂ ∧ News h₀ env.locals h₂ (led ++ [(s.heap.objs.size, oI)])) →
          ∃ m, m < n + 1 - i ∧ ∃ i u v h tk, s₃ = { s with heap := h, toks := tk } ∧ m = n + 1 - i ∧ i ≤ n ∧ h.IsTupleIter s.heap.objs.size tj i ∧ Fr h₀ env.locals h (two na nb u v m₀) ∧ News h₀ env.locals h led ∧ (es.take i).find? (fun e => cond e.2.1) = none := by
        rintro ⟨hc, m₂, h₂', tk₂, rfl, hm, F2, N2⟩
        rw [two_of hm] at F2
        refine ⟨n + 1 - (i + 1), by omega, i + 1, m₂ na, m₂ nb, h₂', tk₂, rfl, rfl, hlt, ⟨oI, (N2 _ (List.mem_append_right _ (.head _))).1, hoc, hod⟩, F2, fun p hp => N2 p (List.mem_append_left _ hp), ?_⟩
        rw [List.take_add_one, List.getElem?_eq_getElem hlt, List.find?_append, hno]
        simp [hc]
      cases f with
      | brk =>
        refine hR s₃ ?_
        have : pick cond es d = (es[i]'hlt).2.2 := by
          have e : es = es.take i ++ es[i]'hlt :: es.drop (i + 1) := by rw [← List.drop_eq_getElem_cons hlt, List.take_append_drop]
          unfold pick
          have : es.find? (fun e => cond e.2.1) = some (es[i]'hlt) := by
            have e' := congrArg (List.find? (fun e => cond e.2.1)) e
            rw [e', List.find?_append, hno, List.find?_cons, h₃.1]; rfl
          rw [this]
        rw [this]; exact h₃.2
      | ret v => exact h₃.elim
      | next => exact fin h₃
      | cont => exact fin h₃
    · have hin : i = n := by omega
      have hx : ((es.map fun e => Value.ref e.1).toArray)[i]? = none := by
        rw [List.getElem?_toArray, List.getElem?_map, List.getElem?_eq_none (by omega)]; rfl
      refine wpAny_pyNext_tuple_end hh hit htup hx fun h' hs' => ?_
      have F1 : Fr h₀ env.locals h' (two na nb u v m₀) := ⟨F'.ns.at' fun o e => hs' _ o LI e, fun b o e => hs' b o (fun q => by rw [q, newI] at e; cases e) (F'.keep b o e), F'.above⟩
      have N1 : News h₀ env.locals h' led := fun p hp => ⟨hs' _ _ (ledI p hp) (N' p hp).1, (N' p hp).2⟩
      refine wpAny_mono (last u v h' tk F1 N1) (fun f s₃ h₃ => ?_) fun _ _ x => x.elim
      obtain ⟨rfl, h₃⟩ := h₃
      refine hR s₃ ?_
      have : pick cond es d = d := by
        unfold pick
        have : es.find? (fun e => cond e.2.1) = none := by
          rw [hin, List.take_of_length_le (Nat.le_refl _)] at hno; exact hno
        rw [this]
      rw [this]; exact h₃
  · have := F.push { cls := .type "tuple_iterator", data := .fields #[.ref tj, .int 0 0] }
    rw [two_of (m := m₀) (m' := m₀) (a := na) (b := nb) fun _ _ _ => rfl] at this
    exact this
end
end Lp
end

section
namespace Lp
theorem eqN {a b : Nat} (h : a = b) : @Eq Nat a b := h
theorem ltN {a b : Nat} (h : a < b) : @LT.lt Nat _ a b := h
/-- behind a turn of the enumeration -/
noncomputable def EnumPost (h₀ : Heap) (L : Addr) (s : Shared) (led₀ own : List (Addr × Obj)) (J : (Str → Option Value) → List (Addr × Obj) → Prop) (f : Flow) (s₃ : Shared) : Prop :=
  match f with
  | .brk => False
  | .ret _ => False
  | _ => ∃ m' led' h' tk', s₃ = { s with heap := h', toks := tk' } ∧ Fr h₀ L h' m' ∧ News h₀ L h' (led' ++ own) ∧ led'.map (·.1) = led₀.map (·.1) ∧ J m' led'
section
variable {prog : Program} {w : World} {A : Around} {s : Shared} {env : Env} {h₀ : Heap} {elts : List PySem.Expr} {x1 : Nat} {pos : Pos} {body : List Stmt} {m₀ : Str → Option Value} {led₀ : List (Addr × Obj)} {tt : Addr} {ts : List Value}
/-- for i, v in enumerate(a tuple of the ground's), by an invariant over locals and ledger -/
theorem for_enum {R : Result → Shared → Prop} (J : Nat → (Str → Option Value) → List (Addr × Obj) → Prop) (hh : A.handled = none) (ht : h₀.IsTuple tt ts.toArray)
    (F : Fr h₀ env.locals s.heap m₀) (N : News h₀ env.locals s.heap led₀) (h0 : J 0 m₀ led₀)
    (turn : ∀ i v, ts[i]? = some v → ∀ m led own h tk T t, J i m led → led.map (·.1) = led₀.map (·.1) → OwnOff own (led₀.map (·.1)) → IsTup h T #[.int i t, v] → Fr h₀ env.locals h m → News h₀ env.locals h (led ++ own) →
      wpAny (model prog w) A (assign (.Tuple elts x1 pos) env (.ref T)) (fun _ s₂ => wpAny (model prog w) A (execs body env) (EnumPost h₀ env.locals s led₀ own (J (i + 1))) Nay s₂) Nay { s with heap := h, toks := tk })
    (done : ∀ m led h tk, J ts.length m led → Fr h₀ env.locals h m → News h₀ env.locals h led → R (.ok .next) { s with heap := h, toks := tk }) {E : Value → Shared → Prop} :
    wpAny (model prog w) A (call (.type "enumerate") [.ref tt]) (fun xv s₁ => wpAny (model prog w) A (pyIter xv) (fun it s₂ => codeAny (model prog w) A (.forLoop (.Tuple elts x1 pos) it body [] env) R s₂) E s₁) E s := by
  have hls : s.heap.IsTuple tt ts.toArray := let ⟨o, ho, r⟩ := ht; ⟨o, F.keep _ _ ho, r⟩
  obtain ⟨ot, hot, _⟩ := id ht
  have hltt : tt < s.heap.objs.size := Heap.lt_size (F.keep _ _ hot)
  refine EnT.enum_call hls fun h₁ he hit hsz hk => ?_
  refine wpAny_pyIter_enum he ?_
  have new : ∀ b, s.heap.objs.size ≤ b → h₀.get? b = none := fun b hb => by
    cases q : h₀.get? b with
    | none => rfl
    | some o => exact absurd (Heap.lt_size (F.keep _ _ q)) (Nat.not_lt.mpr hb)
  have ni := new s.heap.objs.size (Nat.le_refl _)
  have ne := new (s.heap.objs.size + 1) (Nat.le_succ _)
  have hL := F.ns.lt
  have W := WalksT.enumerateD (prog := prog) (w := w) (A := A) (EnT.draws (A := A.in1) (by exact hh) s.heap.objs.size tt (Nat.ne_of_lt hltt) ts.toArray) (s.heap.objs.size + 1) (Nat.succ_ne_self _)
    (fun hm => by
      rcases List.mem_cons.mp hm with q | q
      · have := eqN q; omega
      · have := eqN (List.mem_singleton.mp q); have := ltN hltt; omega) (.head _)
  have wr : ∀ b o, h₀.get? b = some o → b ∉ [s.heap.objs.size + 1, s.heap.objs.size] := fun b o e hm => by
    rcases List.mem_cons.mp hm with q | q
    · rw [q, ne] at e; cases e
    · rw [List.mem_singleton.mp q, ni] at e; cases e
  have Lw : env.locals ∉ [s.heap.objs.size + 1, s.heap.objs.size] := fun hm => by
    have := ltN hL
    rcases List.mem_cons.mp hm with q | q
    · have := eqN q; omega
    · have := eqN (List.mem_singleton.mp q); omega
  have a₀ : ∀ b ∈ led₀.map (·.1), b < s.heap.objs.size := fun b hb => by
    obtain ⟨p, hp, rfl⟩ := List.mem_map.mp hb
    exact Heap.lt_size (N p hp).1
  have ledw : ∀ {led : List (Addr × Obj)}, led.map (·.1) = led₀.map (·.1) → ∀ p ∈ led, p.1 ∉ [s.heap.objs.size + 1, s.heap.objs.size] := fun {led} e p hp hm => by
    have := ltN (a₀ p.1 (e ▸ List.mem_map_of_mem hp))
    rcases List.mem_cons.mp hm with q | q
    · have := eqN q; omega
    · have := eqN (List.mem_singleton.mp q); omega
  let n := ts.length
  have hn : ts.toArray.size = n := by simp [n]
  refine codeAny_forLoop_any (fun k s' => ∃ i m led h tk, s' = { s with heap := h, toks := tk } ∧ k = n + 1 - i ∧ i ≤ n ∧ ((∃ old, IsEnum h (s.heap.objs.size + 1) s.heap.objs.size i old) ∧ h.IsTupleIter s.heap.objs.size tt i ∧ h.IsTuple tt ts.toArray) ∧ Fr h₀ env.locals h m ∧ News h₀ env.locals h led ∧ led.map (·.1) = led₀.map (·.1) ∧ J i m led) ?_ (n + 1)
    ⟨0, m₀, led₀, h₁, s.toks, rfl, rfl, Nat.zero_le _, ⟨⟨_, he⟩, hit, let ⟨o, ho, r⟩ := hls; ⟨o, hk _ _ ho, r⟩⟩, F.keeps hk, N.grown hk, rfl, h0⟩
  rintro k s' ⟨i, m, led, h, tk, rfl, rfl, hi, hst, F', N', ha, hJ⟩
  by_cases hlt : i < n
  · refine W.item i _ _ _ (by rw [hn]; exact hlt) hst fun T vals h2 tk2 hP hTle hT hM hk2 => ?_
    refine W.go _ _ _ i T _ _ _ hM fun h3 hst3 hk3 => ?_
    obtain ⟨t, x, hx, rfl⟩ := hP
    have F3 : Fr h₀ env.locals h3 m := ⟨(F'.ns.at' fun o e => hk2 _ o Lw e).at' fun o e => hk3 _ o Lw e, fun b o e => hk3 b o (wr b o e) (hk2 b o (wr b o e) (F'.keep b o e)), F'.above⟩
    have T3 : IsTup h3 T #[.int i t, x] := let ⟨o, ho, r⟩ := hT; ⟨o, hk3 T o (W.apart i T _ hM) ho, r⟩
    obtain ⟨⟨old, he3⟩, ⟨oi, hoi, hoi'⟩, _⟩ := id hst3
    let own : List (Addr × Obj) := [(s.heap.objs.size + 1, { cls := .type "enumerate", dict := none, data := .fields #[.none, .bool false, .ref s.heap.objs.size, rawInt ((i + 1 : Nat) : Int), .none, old], slots := #[] }), (s.heap.objs.size, oi)]
    have N3 : News h₀ env.locals h3 (led ++ own) := by
      intro p hp
      rcases List.mem_append.mp hp with hp | hp
      · exact ⟨hk3 _ _ (ledw ha p hp) (hk2 _ _ (ledw ha p hp) (N' p hp).1), (N' p hp).2⟩
      · rcases List.mem_cons.mp hp with rfl | hp
        · exact ⟨he3, fun q => by have := eqN q; have := ltN hL; omega, ne⟩
        · cases List.mem_singleton.mp hp
          exact ⟨hoi, fun q => by have := eqN q; have := ltN hL; omega, ni⟩
    have off : OwnOff own (led₀.map (·.1)) := by
      intro p hp b hb e
      have hb' := ltN (a₀ b hb)
      rcases List.mem_cons.mp hp with rfl | hp
      · have := eqN e; omega
      · cases List.mem_singleton.mp hp
        have := eqN e; omega
    refine wpAny_mono (turn i x (by simpa using hx) m led own h3 tk2 T t hJ ha off T3 F3 N3) (fun _ s₂ h₂ => wpAny_mono h₂ (fun f s₃ h₃ => ?_) fun _ _ x => x.elim) fun _ _ x => x.elim
    have fin : (∃ m' led' h' tk', s₃ = { s with heap := h', toks := tk' } ∧ Fr h₀ env.locals h' m' ∧ News h₀ env.locals h' (led' ++ own) ∧ led'.map (·.1) = led₀.map (·.1) ∧ J (i + 1) m' led') →
        ∃ q, q < n + 1 - i ∧ ∃ i m led h tk, s₃ = { s with heap := h, toks := tk } ∧ q = n + 1 - i ∧ i ≤ n ∧ ((∃ old, IsEnum h (s.heap.objs.size + 1) s.heap.objs.size i old) ∧ h.IsTupleIter s.heap.objs.size tt i ∧ h.IsTuple tt ts.toArray) ∧ Fr h₀ env.locals h m ∧ News h₀ env.locals h led ∧ led.map (·.1) = led₀.map (·.1) ∧ J i m led := by
      rintro ⟨m', led', h', tk', rfl, F4, N4, ha4, hJ4⟩
      refine ⟨n + 1 - (i + 1), by omega, i + 1, m', led', h', tk', rfl, rfl, hlt, ⟨⟨old, ?_⟩, ⟨oi, ?_, hoi'⟩, let ⟨o, ho, r⟩ := ht; ⟨o, F4.keep _ _ ho, r⟩⟩, F4, fun p hp => N4 p (List.mem_append_left _ hp), ha4, hJ4⟩
      · exact (N4 _ (List.mem_append_right _ (.head _))).1
      · exact (N4 _ (List.mem_append_right _ (.tail _ (.head _)))).1
    cases f with
    | brk => exact h₃.elim
    | ret v => exact h₃.elim
    | next => exact fin h₃
    | cont => exact fin h₃
  · have hin : i = n := by omega
    subst hin
    refine W.done _ _ _ (by rw [hn]; exact hst) fun h2 tk2 hk2 => ?_
    refine wpAny_execs_nil ?_
    exact done m led h2 tk2 hJ ⟨F'.ns.at' fun o e => hk2 _ o Lw e, fun b o e => hk2 b o (wr b o e) (F'.keep b o e), F'.above⟩ fun p hp => ⟨hk2 _ _ (ledw ha p hp) (N' p hp).1, (N' p hp).2⟩
end
end Lp
end

section
/-- the table of stat.py, with its addresses -/
noncomputable def row0 : List (Addr × Int × Str) := [(91, 40960, Str.ofString "l"), (92, 49152, Str.ofString "s"), (93, 32768, Str.ofString "-"), (94, 24576, Str.ofString "b"), (95, 16384, Str.ofString "d"), (96, 8192, Str.ofString "c"), (97, 4096, Str.ofString "p")]
noncomputable def rowsR : List (Addr × List (Addr × Int × Str)) := [(100, [(99, 256, Str.ofString "r")]), (102, [(101, 128, Str.ofString "w")]), (106, [(103, 2112, Str.ofString "s"), (104, 2048, Str.ofString "S"), (105, 64, Str.ofString "x")]),
  (108, [(107, 32, Str.ofString "r")]), (110, [(109, 16, Str.ofString "w")]), (114, [(111, 1032, Str.ofString "s"), (112, 1024, Str.ofString "S"), (113, 8, Str.ofString "x")]),
  (116, [(115, 4, Str.ofString "r")]), (118, [(117, 2, Str.ofString "w")]), (122, [(119, 513, Str.ofString "t"), (120, 512, Str.ofString "T"), (121, 1, Str.ofString "x")])]
noncomputable def cond0 (n b : Int) : Bool := decide (Builtin.bitAnd n 61440 = b)
noncomputable def cond1 (n b : Int) : Bool := decide (Builtin.bitAnd n b = b)
noncomputable def charsL (n : Int) : List Str := Lp.pick (cond0 n) row0 (Str.ofString "?") :: rowsR.map fun r => Lp.pick (cond1 n) r.2 (Str.ofString "-")
noncomputable abbrev PairsAt (h : Heap) (es : List (Addr × Int × Str)) : Prop := ∀ e ∈ es, ∃ t u, IsTup h e.1 #[.int e.2.1 t, .str e.2.2 u]
theorem pairs_nil {h : Heap} : PairsAt h [] := fun _ hm => nomatch hm
theorem pairs_cons {h : Heap} {a : Addr} {b : Int} {c : Str} {t u : Tok} {n : Nat} {es : List (Addr × Int × Str)} {K : Frag} (X : K.In h) (e : K.lookup a = some { cls := .type "tuple", data := .seq #[.int b t, .str c u] n }) (r : PairsAt h es) : PairsAt h ((a, b, c) :: es) := fun p hp => by
  rcases List.mem_cons.mp hp with rfl | hp
  · exact ⟨t, u, _, X _ _ e, rfl, n, rfl⟩
  · exact r p hp
theorem tup_at {h : Heap} {a : Addr} {vs : Array Value} {n : Nat} {K : Frag} (X : K.In h) (e : K.lookup a = some { cls := .type "tuple", data := .seq vs n }) : h.IsTuple a vs := ⟨_, X _ _ e, rfl, n, rfl⟩
section
variable {w : World} {h : Heap}
theorem table_at (X : (hd.heap_39 w.params).In h) : h.IsTuple 123 (Value.ref 98 :: rowsR.map fun r => .ref r.1).toArray := tup_at X rfl
theorem row0_at (X : (hd.heap_39 w.params).In h) : h.IsTuple 98 (row0.map fun e => Value.ref e.1).toArray ∧ PairsAt h row0 :=
  ⟨tup_at X rfl, pairs_cons X rfl (pairs_cons X rfl (pairs_cons X rfl (pairs_cons X rfl (pairs_cons X rfl (pairs_cons X rfl (pairs_cons X rfl pairs_nil))))))⟩
theorem row_at1 {a : Addr} {es : List (Addr × Int × Str)} (X : (hd.heap_39 w.params).In h) (hm : (a, es) ∈ rowsR) : h.IsTuple a (es.map fun e => Value.ref e.1).toArray ∧ PairsAt h es := by
  simp only [rowsR, List.mem_cons, List.not_mem_nil, or_false, Prod.mk.injEq] at hm
  rcases hm with ⟨rfl, rfl⟩ | ⟨rfl, rfl⟩ | ⟨rfl, rfl⟩ | ⟨rfl, rfl⟩ | ⟨rfl, rfl⟩ | ⟨rfl, rfl⟩ | ⟨rfl, rfl⟩ | ⟨rfl, rfl⟩ | ⟨rfl, rfl⟩
  all_goals first
    | exact ⟨tup_at X rfl, pairs_cons X rfl pairs_nil⟩
    | exact ⟨tup_at X rfl, pairs_cons X rfl (pairs_cons X rfl (pairs_cons X rfl pairs_nil))⟩
end
end

section
noncomputable abbrev fmBase (n : Int) (t : Tok) (lp : Addr) : Str → Option Value := fun y => if y = Str.ofString "perm" then some (.ref lp) else List.lookup y [(Str.ofString "mode", Value.int n t)]
noncomputable abbrev fmLoc (n : Int) (t : Tok) (lp : Addr) (u1 u2 u3 u4 : Option Value) : Str → Option Value := Lp.two (Str.ofString "index") (Str.ofString "table") u1 u2 (Lp.two (Str.ofString "bit") (Str.ofString "char") u3 u4 (fmBase n t lp))
noncomputable def fmJ (n : Int) (t : Tok) (lp : Addr) (i : Nat) (m : Str → Option Value) (led : List (Addr × Obj)) : Prop :=
  ∃ vs k u1 u2 u3 u4, StrsAre vs ((charsL n).take i) ∧ led = [(lp, W.listOf (List.toArray vs) k)] ∧ m = fmLoc n t lp u1 u2 u3 u4
theorem fm_start {n : Int} {t : Tok} {lp : Addr} {m : Str → Option Value} (h : m = fmBase n t lp) : fmJ n t lp 0 m [(lp, W.listOf #[] 0)] := by
  subst h
  refine ⟨[], 0, none, none, none, none, .nil, rfl, ?_⟩
  funext z
  by_cases h1 : z = Str.ofString "index"
  · subst h1; rfl
  · by_cases h2 : z = Str.ofString "table"
    · subst h2; rfl
    · by_cases h3 : z = Str.ofString "bit"
      · subst h3; rfl
      · by_cases h4 : z = Str.ofString "char"
        · subst h4; rfl
        · simp only [fmLoc, Lp.two, if_neg h1, if_neg h2, if_neg h3, if_neg h4]
/-- a row is done: its sign is appended -/
noncomputable def FmDone (h₀ : Heap) (L : Addr) (s : Shared) (n : Int) (t : Tok) (lp : Addr) (vs : List Value) (own : List (Addr × Obj)) (c : Str) (s' : Shared) : Prop :=
  ∃ m' h' tk' u k', s' = { s with heap := h', toks := tk' } ∧ (∀ z, z ≠ Str.ofString "index" → z ≠ Str.ofString "table" → z ≠ Str.ofString "bit" → z ≠ Str.ofString "char" → m' z = fmBase n t lp z) ∧ Fr h₀ L h' m' ∧ News h₀ L h' ((lp, W.listOf (vs ++ [Value.str c u]).toArray k') :: own)
theorem strs_snoc {c : Str} {u : Tok} : ∀ {vs : List Value} {ss : List Str}, StrsAre vs ss → StrsAre (vs ++ [.str c u]) (ss ++ [c])
  | _, _, .nil => .cons _ _ .nil
  | _, _, .cons x t r => .cons x t (strs_snoc r)
theorem fm_loc {n : Int} {t : Tok} {lp : Addr} {m' : Str → Option Value} (h : ∀ z, z ≠ Str.ofString "index" → z ≠ Str.ofString "table" → z ≠ Str.ofString "bit" → z ≠ Str.ofString "char" → m' z = fmBase n t lp z) :
    m' = fmLoc n t lp (m' (Str.ofString "index")) (m' (Str.ofString "table")) (m' (Str.ofString "bit")) (m' (Str.ofString "char")) := by
  funext z
  by_cases h1 : z = Str.ofString "index"
  · subst h1; simp [fmLoc, Lp.two]
  · by_cases h2 : z = Str.ofString "table"
    · subst h2; simp [fmLoc, Lp.two, h1]
    · by_cases h3 : z = Str.ofString "bit"
      · subst h3; simp [fmLoc, Lp.two, h1, h2]
      · by_cases h4 : z = Str.ofString "char"
        · subst h4; simp [fmLoc, Lp.two, h1, h2, h3]
        · simp only [fmLoc, Lp.two, if_neg h1, if_neg h2, if_neg h3, if_neg h4]
          exact h z h1 h2 h3 h4
theorem fm_next {h₀ : Heap} {L : Addr} {s s' : Shared} {n : Int} {t : Tok} {lp : Addr} {vs : List Value} {own : List (Addr × Obj)} {c : Str} {i : Nat} {o : Obj} (hS : StrsAre vs ((charsL n).take i)) (hc : (charsL n)[i]? = some c) (h : FmDone h₀ L s n t lp vs own c s') :
    Lp.EnumPost h₀ L s [(lp, o)] own (fmJ n t lp (i + 1)) .next s' := by
  obtain ⟨m', h', tk', u, k', rfl, hm, F, N⟩ := h
  refine ⟨m', [(lp, W.listOf (vs ++ [Value.str c u]).toArray k')], h', tk', rfl, F, N, rfl, vs ++ [Value.str c u], k', _, _, _, _, ?_, rfl, fm_loc hm⟩
  rw [List.take_add_one, hc]
  exact strs_snoc hS
theorem off_more {own : List (Addr × Obj)} {lp I : Addr} {oI : Obj} (h : OwnOff own [lp]) (hI : lp ≠ I) : OwnOff (own ++ [(I, oI)]) [lp] := by
  intro p hp b hb
  rcases List.mem_append.mp hp with hp | hp
  · exact h p hp b hb
  · cases List.mem_singleton.mp hp
    cases List.mem_singleton.mp hb
    exact hI.symm
section
variable {h₀ h' : Heap} {L lp I : Addr} {s : Shared} {n : Int} {t u : Tok} {vs : List Value} {own own2 : List (Addr × Obj)} {oI : Obj} {c : Str} {b : Bool} {k k' tk' : Nat} {m₁ m' : Str → Option Value} {na nb : Str} {led : List (Addr × Obj)}
theorem fm_done (F' : Fr h₀ L h' m') (N' : News h₀ L h' ((lp, W.listOf (vs.toArray.push (.str c u)) k') :: own))
    (hm : ∀ z, z ≠ Str.ofString "index" → z ≠ Str.ofString "table" → z ≠ Str.ofString "bit" → z ≠ Str.ofString "char" → m' z = fmBase n t lp z) : FmDone h₀ L s n t lp vs own c { s with heap := h', toks := tk' } :=
  ⟨m', h', tk', u, k', rfl, hm, F', by rw [← List.push_toArray]; exact N'⟩
theorem fm_brk (hb : b = true) (F' : Fr h₀ L h' m') (N' : News h₀ L h' ((lp, W.listOf (vs.toArray.push (.str c u)) k') :: own2)) (hown : own ++ [(I, oI)] = own2)
    (hm : ∀ z, z ≠ Str.ofString "index" → z ≠ Str.ofString "table" → z ≠ Str.ofString "bit" → z ≠ Str.ofString "char" → m' z = fmBase n t lp z) :
    Lp.PickPost h₀ L na nb m₁ s led I oI b (FmDone h₀ L s n t lp vs own c) .brk { s with heap := h', toks := tk' } := by
  subst hown
  refine ⟨hb, fm_done (u := u) (k' := k') F' (fun p hp => N' p ?_) hm⟩
  rcases List.mem_cons.mp hp with rfl | hp
  · exact .head _
  · exact .tail _ (List.mem_append_left _ hp)
theorem fm_cont {D : Shared → Prop} {f : Flow} (hf : f = .next) (hb : b = false) (F' : Fr h₀ L h' m') (N' : News h₀ L h' ((lp, W.listOf vs.toArray k) :: own2)) (hown : own ++ [(I, oI)] = own2) (hm : ∀ z, z ≠ na → z ≠ nb → m' z = m₁ z) :
    Lp.PickPost h₀ L na nb m₁ s ((lp, W.listOf vs.toArray k) :: own) I oI b D f { s with heap := h', toks := tk' } := by
  subst hf hown
  exact ⟨hb, m', h', tk', rfl, hm, F', N'⟩
end
theorem fm_len {n : Int} {vs : List Value} {i : Nat} (hS : StrsAre vs ((charsL n).take i)) : vs.length ≤ 10 := by
  rw [hS.length, List.length_take]
  have : (charsL n).length = 10 := by simp [charsL, rowsR]
  omega
theorem chars_at {n : Int} {i : Nat} {r : Addr × List (Addr × Int × Str)} (hr : rowsR[i]? = some r) : (charsL n)[i + 1]? = some (Lp.pick (cond1 n) r.2 (Str.ofString "-")) := by
  show (rowsR.map _)[i]? = _
  rw [List.getElem?_map, hr]; rfl
theorem pick_len {cond : Int → Bool} {es : List (Addr × Int × Str)} {d : Str} (h : ∀ e ∈ es, e.2.2.length = 1) (hd : d.length = 1) : (Lp.pick cond es d).length = 1 := by
  unfold Lp.pick
  split
  · rename_i e he; exact h e (List.mem_of_find?_eq_some he)
  · exact hd
theorem chars_len (n : Int) : ∀ c ∈ charsL n, c.length = 1 := by
  intro c hc
  rcases List.mem_cons.mp hc with rfl | hc
  · exact pick_len (by decide) (by decide)
  · obtain ⟨r, hr, rfl⟩ := List.mem_map.mp hc
    exact pick_len ((by decide : ∀ r ∈ rowsR, ∀ e ∈ r.2, e.2.2.length = 1) r hr) (by decide)
theorem sum_ones : ∀ (l : List Str), (∀ c ∈ l, c.length = 1) → (l.map (·.length)).sum = l.length
  | [], _ => rfl
  | c :: l, h => by
    rw [List.map_cons, List.sum_cons, List.length_cons, h c (.head _), sum_ones l fun x hx => h x (.tail _ hx)]; omega
theorem chars_weight (n : Int) : ((charsL n).map (·.length)).sum + (charsL n).length * (Str.ofString "").length ≤ 16777216 := by
  rw [sum_ones _ (chars_len n)]
  have : (charsL n).length = 10 := by simp [charsL, rowsR]
  rw [this]; decide
/-- what filemode shows -/
noncomputable def listingL (n : Int) : Str := Txt.join (Str.ofString "") (charsL n)
local macro_rules | `(tactic| walk_at "exec For Tuple Call cons nil") => `(tactic| (k_here; refine wpAny_For ?_))
local macro_rules | `(tactic| walk_at "exec For Tuple Name cons cons") => `(tactic| (k_here; refine wpAny_For ?_))
theorem filemode_call (w : World) (n : Int) (t : Tok) (h0 : 0 ≤ n) (h1 : n < 65536) : Claim 20 w 130 [.int n t] Quiet (RStr (listingL n)) := by
  unfold Claim
  k_with_none
  w_top off
  intro mean mg mb dp un gd l base s Q E B X T hdp hun hpre hret
  refine wpAny_call ?_
  k_dflt (refine' enter0 (binds := [(Str.ofString "mode", .int n t)]) B X T ?k6 ?k7 ?k8 ?k9 ?kB ?_ ?c2 ?c3 ?c4 ?c5; (case k6 => k_is); (case k7 => k_is); (case k8 => ktr_room); (case k9 => first | exact BindsTo.of_eq rfl | exact binds_K X rfl (by k_is) rfl rfl rfl); (case c5 => decide); (case kB => exact locs rfl); (case c2 => exact rfl); (case c3 => exact rfl); (case c4 => exact rfl); k_whole; intro L' h' F' N' B' X' T'; (try dsimp only); (try k_fold))
  clear B X T hpre
  k_steps
  rename_i lp _ _ _ F1 N1
  rename Frag.In _ _ => X1
  refine Lp.for_enum (fmJ n t _) rfl (table_at X1) F1 N1 (fm_start rfl) ?turn ?done
  case turn =>
    clear F1 N1
    intro i v hv m led own h tk T t1 hJ ha hoff hT F1 N1
    have hoff1 : OwnOff own [lp] := hoff
    clear hoff ha
    obtain ⟨vs, k, u1, u2, u3, u4, hS, rfl, rfl⟩ := hJ
    have hlen := fm_len hS
    simp only [List.cons_append, List.nil_append] at N1
    cases i with
    | zero =>
      cases hv
      k_steps
      rename_i F2 N2
      refine Lp.for_pick (na := Str.ofString "bit") (nb := Str.ofString "char") (cond0 n) row0 (Str.ofString "?") (FmDone s.heap L' s n t lp vs own) rfl (row0_at X1).1 F2 N2 ?turn0 ?last0 ?hR
      case turn0 =>
        clear F2 N2
        intro e he I oI u v h2 tk2 hI F2 N2
        obtain ⟨te, ue, hte⟩ := (row0_at X1).2 e he
        have hoff2 := off_more (oI := oI) hoff1 (hI _ (.head _))
        clear hoff1
        simp only [List.cons_append] at N2
        generalize hown : own ++ [(I, oI)] = own2 at N2 hoff2
        k_steps
        · exact fm_brk (decide_eq_true (by assumption)) (by assumption) (by assumption) hown (fun z z1 z2 z3 z4 => by simp only [fmLoc, Lp.two, if_neg z1, if_neg z2, if_neg z3, if_neg z4])
        · exact fm_cont rfl (decide_eq_false (by assumption)) (by assumption) (by assumption) hown (fun z z3 z4 => by simp only [fmLoc, Lp.two, if_neg z3, if_neg z4])
      case last0 =>
        clear F2 N2
        intro u v h2 tk2 F2 N2
        k_steps
        exact ⟨rfl, fm_done (by assumption) (by assumption) (fun z z1 z2 z3 z4 => by simp only [fmLoc, Lp.two, if_neg z1, if_neg z2, if_neg z3, if_neg z4])⟩
      case hR =>
        clear F2 N2
        intro s' hD
        k_steps
        exact fm_next hS rfl hD
    | succ i =>
      have hv' : (rowsR.map fun r => Value.ref r.1)[i]? = some v := hv
      rw [List.getElem?_map] at hv'
      obtain ⟨r, hr, rfl⟩ := Option.map_eq_some_iff.mp hv'
      have hrow := row_at1 X1 (a := r.1) (es := r.2) (List.mem_of_getElem? hr)
      clear hv hv'
      have hidx : (1 : Int) ≤ ((i + 1 : Nat) : Int) := by omega
      generalize ((i + 1 : Nat) : Int) = idx at hT hidx
      k_steps
      rename_i F2 N2
      refine Lp.for_pick (na := Str.ofString "bit") (nb := Str.ofString "char") (cond1 n) r.2 (Str.ofString "-") (FmDone s.heap L' s n t lp vs own) rfl hrow.1 F2 N2 ?turn1 ?last1 ?hR1
      case turn1 =>
        clear F2 N2
        intro e he I oI u v h2 tk2 hI F2 N2
        obtain ⟨te, ue, hte⟩ := hrow.2 e he
        have hoff2 := off_more (oI := oI) hoff1 (hI _ (.head _))
        clear hoff1
        simp only [List.cons_append] at N2
        generalize hown : own ++ [(I, oI)] = own2 at N2 hoff2
        k_steps
        · exfalso; omega
        · exact fm_brk (decide_eq_true (by assumption)) (by assumption) (by assumption) hown (fun z z1 z2 z3 z4 => by simp only [fmLoc, Lp.two, if_neg z1, if_neg z2, if_neg z3, if_neg z4])
        · exact fm_cont rfl (decide_eq_false (by assumption)) (by assumption) (by assumption) hown (fun z z3 z4 => by simp only [fmLoc, Lp.two, if_neg z3, if_neg z4])
      case last1 =>
        clear F2 N2
        intro u v h2 tk2 F2 N2
        k_steps
        · exfalso; omega
        exact ⟨rfl, fm_done (by assumption) (by assumption) (fun z z1 z2 z3 z4 => by simp only [fmLoc, Lp.two, if_neg z1, if_neg z2, if_neg z3, if_neg z4])⟩
      case hR1 =>
        clear F2 N2
        intro s' hD
        k_steps
        exact fm_next hS (chars_at hr) hD
  case done =>
    clear F1 N1
    intro m led h tk hJ F1 N1
    obtain ⟨vs, k, u1, u2, u3, u4, hS, rfl, rfl⟩ := hJ
    have hlen := fm_len hS
    have hS' : StrsAre vs (charsL n) := hS
    clear hS
    k_steps
    refine join_list (News.isList (by assumption) (.head _)) (by simpa using hS') (chars_weight n) ?_
    intro t' k'
    k_steps
    exact hret _ _ _ (Fr.keep (by k_asm)) ⟨_, rfl⟩
end

section
namespace La
section
variable {prog : Program} {w : World} {A : Around} {E : Value → Shared → Prop} {s : Shared} {h₀ h : Heap} {L D b : Addr} {m : Str → Option Value} {news news' pre post : List (Addr × Obj)} {its its' its2 : Array Value} {n n2 : Nat} {l : List Value}
theorem fillsI_list : fillsInplaceSlot (.type "list") "add" (Operator.Add == .Add) = pure false := by
  unfold fillsInplaceSlot
  show (typeLookup (.type "list") (dunderI "add") >>= fun fi => pure (fi.isSome && !isSeqSlot fi)) = pure false
  rw [PySem.F.slot_list_iadd.lookup]
  have e : isSeqSlot (some (Value.builtin "list.__iadd__")) = true := by decide +kernel
  simp only [pure_bind, e]
  rfl
theorem seq_list_iadd : seqSlot? (.type "list") (dunderI "add") = pure (some (.builtin "list.__iadd__")) := PySem.seqSlot_of PySem.F.slot_list_iadd.lookup (by decide +kernel)
theorem kl_iadd {Q : Value → Shared → Prop} (F : Fr h₀ L s.heap m) (N : News h₀ L s.heap news) (hb : (b, listOf its2 n2) ∈ news) (e : its.toList ++ its2.toList = l) (hne : its2.toList.length ≠ 0)
    (U : Upd D (listOf its n) (listOf l.toArray (n + 1)) news news') (hd : ¬(!its.isEmpty && Builtin.List.listTooLong (its.size + its2.size)) = true) (hz : its.toList.length ≤ sizeLine) (hz2 : its.size + its2.size ≤ sizeLine + 1)
    (h : ∀ h', Fr h₀ L h' m → News h₀ L h' news' → Q (.ref D) { s with heap := h' }) : wpAny (model prog w) A (inplaceOp .Add (.ref D) (.ref b)) Q E s := by
  obtain ⟨pre, post, rfl, rfl, a, c⟩ := U.split
  have z := N (D, listOf its n) (List.mem_append.mpr (.inr (.head _)))
  unfold inplaceOp
  refine wpAny_holding ?_
  refine wpAny_bind (wpAny_typeOf (T := "list") ⟨_, z.1, rfl⟩ (wpAny_bind (wpAny_of_eq fillsI_list ?_)))
  show wpAny _ A (if false = true then _ else _) Q E s
  rw [if_neg Bool.false_ne_true]
  refine wpAny_bind (wpAny_binaryOp1_none (T := "list") (nm := "add") ⟨_, z.1, rfl⟩ ⟨_, (N _ hb).1, rfl⟩ noFill_list_add ?_)
  refine wpAny_bind (wpAny_of_eq seq_list_iadd ?_)
  refine wpAny_bind (wpAny_rule ?_)
  refine call_meets PySem.F.slot_list_iadd ⟨_, z.1, rfl⟩ PySem.F.entry_list_iadd (PySem.F.args_list_iadd_2 _ _) (PySem.AutoSeq1.list___iadd___list_list_0 D its n b its2 n2 hd (by simpa using hz) hz2) ⟨z.1, (N _ hb).1, h _ (F.change (Heap.SameBut.update ..) z.2.1 z.2.2) (kl_turn _ N a c ?_ ?_)⟩
  · subst e
    apply Array.toList_inj.mp
    simp
  · subst e
    simp at hne ⊢
    exact hne
end
end La
end

section
local macro_rules | `(tactic| walk_at "inplaceOp Add ref") => `(tactic| (refine hold ?_))
local macro_rules | `(tactic| walk_at "call ref") => `(tactic| (refine hold ?_))
theorem find_is {prog : Program} {w : World} {A : Around} {E : Value → Shared → Prop} {s : Shared} {x y : Str} {t u : Tok} {v : Int} {Q : Value → Shared → Prop} (e : Txt.find x y = v) (h : Q (.int v s.toks) { s with toks := s.toks + 1 }) :
    wpAny (model prog w) A (call (.builtin "str.find") [.str x t, .str y u]) Q E s := by
  subst e; exact SC.find h
local macro_rules | `(tactic| walk_at "call builtin:str.find") => `(tactic| (k_here; refine find_is (by assumption) ?_))
theorem rights_walk (w : World) (n : Int) (t : Tok) (h0 : 0 ≤ n) (h1 : n < 65536) (hl : (listingL n).length = 10) (hk : (Txt.item (listingL n) 0 != Txt.item (Str.ofString "?pc?d?b?-?l?s???") (n.fdiv 4096)) = false)
    (r0 w0 e0 r1 w1 e1 r2 w2 e2 : Int)
    (f00 : Txt.find (Str.ofString "-r") (Txt.item (listingL n) (3 * (0 + ((0 : Nat) : Int)) + 1)) = r0) (f01 : Txt.find (Str.ofString "-w") (Txt.item (listingL n) (3 * (0 + ((0 : Nat) : Int)) + 2)) = w0) (f02 : Txt.find (Str.ofString "-xSs") (Txt.item (listingL n) (3 * (0 + ((0 : Nat) : Int)) + 3)) = e0)
    (f10 : Txt.find (Str.ofString "-r") (Txt.item (listingL n) (3 * (0 + ((1 : Nat) : Int)) + 1)) = r1) (f11 : Txt.find (Str.ofString "-w") (Txt.item (listingL n) (3 * (0 + ((1 : Nat) : Int)) + 2)) = w1) (f12 : Txt.find (Str.ofString "-xSs") (Txt.item (listingL n) (3 * (0 + ((1 : Nat) : Int)) + 3)) = e1)
    (f20 : Txt.find (Str.ofString "-r") (Txt.item (listingL n) (3 * (0 + ((2 : Nat) : Int)) + 1)) = r2) (f21 : Txt.find (Str.ofString "-w") (Txt.item (listingL n) (3 * (0 + ((2 : Nat) : Int)) + 2)) = w2) (f22 : Txt.find (Str.ofString "-xTt") (Txt.item (listingL n) (3 * (0 + ((2 : Nat) : Int)) + 3)) = e2)
    (a00 : 0 ≤ r0) (a01 : 0 ≤ w0) (a02 : 0 ≤ e0) (a10 : 0 ≤ r1) (a11 : 0 ≤ w1) (a12 : 0 ≤ e1) (a20 : 0 ≤ r2) (a21 : 0 ≤ w2) (a22 : 0 ≤ e2) :
    Claim 30 w 163 [.int n t] Quiet (RList [e0.fdiv 2, e1.fdiv 2, e2.fdiv 2, r0, w0, e0.fmod 2, r1, w1, e1.fmod 2, r2, w2, e2.fmod 2]) := by
  unfold Claim
  k_with_none
  w_top off
  intro mean mg mb dp un gd l base s Q E B X T hdp hun hpre hret
  refine wpAny_call ?_
  k_dflt (refine' enter0 (binds := [(Str.ofString "mode", .int n t)]) B X T ?k6 ?k7 ?k8 ?k9 ?kB ?_ ?c2 ?c3 ?c4 ?c5; (case k6 => k_is); (case k7 => k_is); (case k8 => ktr_room); (case k9 => first | exact BindsTo.of_eq rfl | exact binds_K X rfl (by k_is) rfl rfl rfl); (case c5 => decide); (case kB => exact locs rfl); (case c2 => exact rfl); (case c3 => exact rfl); (case c4 => exact rfl); k_whole; intro L' h' F' N' B' X' T'; (try dsimp only); (try k_fold))
  clear B X T hpre
  k_steps
  refine held ?_
  k_dflt (refine' use_str (filemode_call _ _ _ ?q1 ?q2) ?k1 ?k2 ?k3 ?k4 ?k5 ?k6 ?k7 ?k8 ?_; (case q1 => assumption); (case q2 => assumption); (case k1 => k_asm); (case k2 => k_asm); (case k3 => k_asm); (case k4 => k_asm); (case k5 => exact below_now (by k_asm) (by k_asm) rfl rfl rfl); (case k6 => ktr_room); (case k7 => ktr_units); (case k8 => trivial))
  intro t9 h9 tk9 F9 N9
  (try dsimp only)
  (try k_fold)
  k_steps
  · exfalso; omega
  refine held ?_
  k_dflt (refine' La.kl_iadd ?F ?N ?b ?e ?ne ?U ?d ?z ?y ?_; (case F => k_asm); (case N => k_asm); (case b => k_mem); (case U => k_upd); (case e => kl_lit); (case ne => kl_some); (case d => kl_no); (case z => kl_room); (case y => kl_room))
  kl_rest
  k_steps
  refine held ?_
  k_dflt (refine' La.kl_iadd ?F ?N ?b ?e ?ne ?U ?d ?z ?y ?_; (case F => k_asm); (case N => k_asm); (case b => k_mem); (case U => k_upd); (case e => kl_lit); (case ne => kl_some); (case d => kl_no); (case z => kl_room); (case y => kl_room))
  kl_rest
  k_steps
  refine held ?_
  k_dflt (refine' La.kl_iadd ?F ?N ?b ?e ?ne ?U ?d ?z ?y ?_; (case F => k_asm); (case N => k_asm); (case b => k_mem); (case U => k_upd); (case e => kl_lit); (case ne => kl_some); (case d => kl_no); (case z => kl_room); (case y => kl_room))
  kl_rest
  k_steps
  · refine hret _ _ _ (Fr.keep (by k_asm)) ?_
    rename News _ _ _ _ => N9
    refine ⟨_, _, _, rfl, (N9 _ (.head _)).2.2, (N9 _ (.head _)).1, ?_⟩
    repeat' constructor
end

section
namespace Bt
/-- sums and exclusive or -/
theorem xor_and_add : ∀ (a b : Nat), (a ^^^ b) + 2 * (a &&& b) = a + b
  | 0, b => by simp
  | a + 1, b => by
    have ih := xor_and_add ((a + 1) / 2) (b / 2)
    have hx : ((a + 1) ^^^ b) / 2 = (a + 1) / 2 ^^^ b / 2 := Nat.xor_div_two
    have ha : ((a + 1) &&& b) / 2 = (a + 1) / 2 &&& b / 2 := Nat.and_div_two
    have mx : ((a + 1) ^^^ b) % 2 = ((a + 1) % 2) ^^^ (b % 2) := by
      have := @Nat.xor_mod_two_pow (a + 1) b 1
      simpa using this
    have ma : ((a + 1) &&& b) % 2 = ((a + 1) % 2) &&& (b % 2) := by
      have := @Nat.and_mod_two_pow (a + 1) b 1
      simpa using this
    have e1 := Nat.div_add_mod ((a + 1) ^^^ b) 2
    have e2 := Nat.div_add_mod ((a + 1) &&& b) 2
    have e3 := Nat.div_add_mod (a + 1) 2
    have e4 := Nat.div_add_mod b 2
    rw [hx] at e1
    rw [ha] at e2
    have q : ((a + 1) ^^^ b) % 2 + 2 * (((a + 1) &&& b) % 2) = (a + 1) % 2 + b % 2 := by
      rw [mx, ma]
      rcases Nat.mod_two_eq_zero_or_one (a + 1) with x | x <;> rcases Nat.mod_two_eq_zero_or_one b with y | y <;> rw [x, y] <;> decide
    omega
termination_by a => a
theorem bitXor_pp {x y : Int} (hx : 0 ≤ x) (hy : 0 ≤ y) : Builtin.bitXor x y = ((x.toNat ^^^ y.toNat : Nat) : Int) := by
  rw [bitXor_and, bitAnd_pp hx hy]
  have := xor_and_add x.toNat y.toNat
  omega
theorem and_pow (N j : Nat) : N &&& 2 ^ j = (N.testBit j).toNat * 2 ^ j := by
  apply Nat.eq_of_testBit_eq
  intro i
  rw [Nat.testBit_and, Nat.testBit_two_pow]
  by_cases e : j = i
  · subst e
    cases h : N.testBit j <;> simp
  · cases h : N.testBit j <;> simp [e, Nat.testBit_two_pow]
/-- bit j of n, as a number -/
noncomputable def bI (n : Int) (j : Nat) : Int := ((n.toNat.testBit j).toNat : Int)
theorem bI_nn (n : Int) (j : Nat) : 0 ≤ bI n j := Int.natCast_nonneg _
theorem bI_le (n : Int) (j : Nat) : bI n j ≤ 1 := by unfold bI; cases n.toNat.testBit j <;> decide
theorem cond_pow {n : Int} (h0 : 0 ≤ n) (j : Nat) {b : Int} (hb : b = ((2 ^ j : Nat) : Int)) : cond1 n b = n.toNat.testBit j := by
  subst hb
  unfold cond1
  rw [bitAnd_pp h0 (Int.natCast_nonneg _), Int.toNat_natCast, and_pow]
  cases n.toNat.testBit j
  · have : 0 < 2 ^ j := Nat.two_pow_pos j
    simp only [Bool.toNat_false, Nat.zero_mul, decide_eq_false_iff_not]
    omega
  · simp
theorem cond_two {n : Int} (h0 : 0 ≤ n) (i j : Nat) {b : Int} (hb : b = ((2 ^ i ||| 2 ^ j : Nat) : Int)) (hne : i ≠ j) : cond1 n b = (n.toNat.testBit i && n.toNat.testBit j) := by
  subst hb
  unfold cond1
  rw [bitAnd_pp h0 (Int.natCast_nonneg _), Int.toNat_natCast, Nat.and_or_distrib_left, and_pow, and_pow]
  have c : ∀ a b : Nat, ((a : Int) = (b : Int)) = (a = b) := fun a b => propext Int.ofNat_inj
  simp only [c]
  cases hi : n.toNat.testBit i <;> cases hj : n.toNat.testBit j
  · simp only [Bool.toNat_false, Nat.zero_mul, decide_eq_false_iff_not, Bool.and_false]
    intro e
    have := congrArg (·.testBit i) e
    simp [Nat.testBit_or, Nat.testBit_two_pow] at this
  · simp only [Bool.toNat_false, Nat.zero_mul, decide_eq_false_iff_not, Bool.and_true]
    intro e
    have := congrArg (·.testBit i) e
    simp [Nat.testBit_or, Nat.testBit_two_pow, hne.symm] at this
  · simp only [Bool.toNat_false, Nat.zero_mul, decide_eq_false_iff_not, Bool.and_false]
    intro e
    have := congrArg (·.testBit j) e
    simp [Nat.testBit_or, Nat.testBit_two_pow, hne] at this
  · simp
theorem and_kind {N : Nat} (h : N < 65536) : N &&& 61440 = 4096 * (N / 4096) := by
  apply Nat.eq_of_testBit_eq
  intro i
  rw [Nat.testBit_and, show (4096 : Nat) = 2 ^ 12 from rfl, Nat.testBit_two_pow_mul, Nat.testBit_div_two_pow]
  by_cases hi : i < 16
  · have : ∀ k : Fin 16, Nat.testBit 61440 k = decide (k.val ≥ 12) := by decide +kernel
    have := this ⟨i, hi⟩
    simp only at this
    rw [this]
    by_cases h12 : 12 ≤ i
    · simp [h12]
    · simp [h12]
  · have e : N.testBit i = false := Nat.testBit_lt_two_pow (Nat.lt_of_lt_of_le h (by have := Nat.pow_le_pow_right (n := 2) (by decide) (show 16 ≤ i by omega); simpa using this))
    have e2 : 12 ≤ i := by omega
    rw [show i - 12 + 12 = i by omega, e]
    simp
theorem one_cp {c : Str} (h : c.length = 1) : ∃ x, c = ⟨#[x]⟩ := by
  obtain ⟨⟨l⟩⟩ := c
  match l, h with
  | [x], _ => exact ⟨x, rfl⟩
theorem list10 {α : Type} {l : List α} (h : l.length = 10) : ∃ a0 a1 a2 a3 a4 a5 a6 a7 a8 a9, l = [a0, a1, a2, a3, a4, a5, a6, a7, a8, a9] := by
  match l, h with
  | [a0, a1, a2, a3, a4, a5, a6, a7, a8, a9], _ => exact ⟨_, _, _, _, _, _, _, _, _, _, rfl⟩
theorem item_join {cs : List Str} (hl : cs.length = 10) (h1 : ∀ c ∈ cs, c.length = 1) (i : Nat) (c : Str) (hc : cs[i]? = some c) : Txt.item (Txt.join (Str.ofString "") cs) (i : Int) = c := by
  obtain ⟨a0, a1, a2, a3, a4, a5, a6, a7, a8, a9, rfl⟩ := list10 hl
  simp only [List.mem_cons, List.not_mem_nil, or_false, forall_eq_or_imp, forall_eq] at h1
  obtain ⟨q0, q1, q2, q3, q4, q5, q6, q7, q8, q9⟩ := h1
  obtain ⟨x0, rfl⟩ := one_cp q0
  obtain ⟨x1, rfl⟩ := one_cp q1
  obtain ⟨x2, rfl⟩ := one_cp q2
  obtain ⟨x3, rfl⟩ := one_cp q3
  obtain ⟨x4, rfl⟩ := one_cp q4
  obtain ⟨x5, rfl⟩ := one_cp q5
  obtain ⟨x6, rfl⟩ := one_cp q6
  obtain ⟨x7, rfl⟩ := one_cp q7
  obtain ⟨x8, rfl⟩ := one_cp q8
  obtain ⟨x9, rfl⟩ := one_cp q9
  have hi : i < 10 := by
    have := List.getElem?_eq_some_iff.mp hc
    simpa using this.1
  have e : Txt.join (Str.ofString "") [⟨#[x0]⟩, ⟨#[x1]⟩, ⟨#[x2]⟩, ⟨#[x3]⟩, ⟨#[x4]⟩, ⟨#[x5]⟩, ⟨#[x6]⟩, ⟨#[x7]⟩, ⟨#[x8]⟩, ⟨#[x9]⟩] = ⟨#[x0, x1, x2, x3, x4, x5, x6, x7, x8, x9]⟩ := by kernel_rfl
  rw [e]
  match i, hi with
  | 0, _ | 1, _ | 2, _ | 3, _ | 4, _ | 5, _ | 6, _ | 7, _ | 8, _ | 9, _ => cases hc; kernel_rfl
theorem chars10 (n : Int) : (charsL n).length = 10 := by simp [charsL, rowsR]
theorem listing_item (n : Int) (i : Nat) (c : Str) (hc : (charsL n)[i]? = some c) : Txt.item (listingL n) (i : Int) = c := item_join (chars10 n) (chars_len n) i c hc
theorem listing_len (n : Int) : (listingL n).length = 10 := by
  have h1 := chars_len n
  have hl := chars10 n
  unfold listingL
  generalize charsL n = cs at h1 hl
  obtain ⟨a0, a1, a2, a3, a4, a5, a6, a7, a8, a9, rfl⟩ := list10 hl
  simp only [List.mem_cons, List.not_mem_nil, or_false, forall_eq_or_imp, forall_eq] at h1
  obtain ⟨q0, q1, q2, q3, q4, q5, q6, q7, q8, q9⟩ := h1
  obtain ⟨x0, rfl⟩ := one_cp q0
  obtain ⟨x1, rfl⟩ := one_cp q1
  obtain ⟨x2, rfl⟩ := one_cp q2
  obtain ⟨x3, rfl⟩ := one_cp q3
  obtain ⟨x4, rfl⟩ := one_cp q4
  obtain ⟨x5, rfl⟩ := one_cp q5
  obtain ⟨x6, rfl⟩ := one_cp q6
  obtain ⟨x7, rfl⟩ := one_cp q7
  obtain ⟨x8, rfl⟩ := one_cp q8
  obtain ⟨x9, rfl⟩ := one_cp q9
  rfl
theorem kind_item {n : Int} (h0 : 0 ≤ n) (h1 : n < 65536) : (Txt.item (listingL n) 0 != Txt.item (Str.ofString "?pc?d?b?-?l?s???") (n.fdiv 4096)) = false := by
  have e := listing_item n 0 _ rfl
  rw [show ((0 : Nat) : Int) = 0 from rfl] at e
  rw [e]
  have c0 : cond0 n = fun b => decide (((4096 * (n.toNat / 4096) : Nat) : Int) = b) := by
    funext b
    unfold cond0
    rw [bitAnd_pp h0 (by decide), show (61440 : Int).toNat = 61440 from rfl, and_kind (by omega)]
  have hq : n.fdiv 4096 = ((n.toNat / 4096 : Nat) : Int) := by
    rw [Int.fdiv_eq_ediv_of_nonneg _ (by decide)]; omega
  rw [c0, hq]
  have hk : n.toNat / 4096 < 16 := by omega
  generalize n.toNat / 4096 = k at hk
  have all : ∀ k : Fin 16, (Lp.pick (fun b => decide (((4096 * k.val : Nat) : Int) = b)) row0 (Str.ofString "?") != Txt.item (Str.ofString "?pc?d?b?-?l?s???") ((k.val : Nat) : Int)) = false := by decide +kernel
  exact all ⟨k, hk⟩
theorem find_r {n : Int} (h0 : 0 ≤ n) (i j : Nat) (a b : Addr) (m : Int) (hm : m = ((2 ^ j : Nat) : Int)) (hr : rowsR[i]? = some (a, [(b, m, Str.ofString "r")])) : Txt.find (Str.ofString "-r") (Txt.item (listingL n) ((i + 1 : Nat) : Int)) = bI n j := by
  rw [listing_item n (i + 1) _ (chars_at hr)]
  simp only [Lp.pick, List.find?, cond_pow h0 j hm, bI]
  cases n.toNat.testBit j <;> ((try simp only [Bool.and_true, Bool.and_false]); decide +kernel)
theorem find_w {n : Int} (h0 : 0 ≤ n) (i j : Nat) (a b : Addr) (m : Int) (hm : m = ((2 ^ j : Nat) : Int)) (hr : rowsR[i]? = some (a, [(b, m, Str.ofString "w")])) : Txt.find (Str.ofString "-w") (Txt.item (listingL n) ((i + 1 : Nat) : Int)) = bI n j := by
  rw [listing_item n (i + 1) _ (chars_at hr)]
  simp only [Lp.pick, List.find?, cond_pow h0 j hm, bI]
  cases n.toNat.testBit j <;> ((try simp only [Bool.and_true, Bool.and_false]); decide +kernel)
theorem find_s {n : Int} (h0 : 0 ≤ n) (i j k : Nat) (a b c d : Addr) (m m' m'' : Int) (hjk : k ≠ j) (hm : m = ((2 ^ k ||| 2 ^ j : Nat) : Int)) (hm' : m' = ((2 ^ k : Nat) : Int)) (hm'' : m'' = ((2 ^ j : Nat) : Int)) (hr : rowsR[i]? = some (a, [(b, m, Str.ofString "s"), (c, m', Str.ofString "S"), (d, m'', Str.ofString "x")])) :
    Txt.find (Str.ofString "-xSs") (Txt.item (listingL n) ((i + 1 : Nat) : Int)) = bI n j + 2 * bI n k := by
  rw [listing_item n (i + 1) _ (chars_at hr)]
  simp only [Lp.pick, List.find?, cond_pow h0 k hm', cond_pow h0 j hm'', cond_two h0 k j hm hjk, bI]
  cases n.toNat.testBit j <;> cases n.toNat.testBit k <;> ((try simp only [Bool.and_true, Bool.and_false]); decide +kernel)
theorem find_t {n : Int} (h0 : 0 ≤ n) (i j k : Nat) (a b c d : Addr) (m m' m'' : Int) (hjk : k ≠ j) (hm : m = ((2 ^ k ||| 2 ^ j : Nat) : Int)) (hm' : m' = ((2 ^ k : Nat) : Int)) (hm'' : m'' = ((2 ^ j : Nat) : Int)) (hr : rowsR[i]? = some (a, [(b, m, Str.ofString "t"), (c, m', Str.ofString "T"), (d, m'', Str.ofString "x")])) :
    Txt.find (Str.ofString "-xTt") (Txt.item (listingL n) ((i + 1 : Nat) : Int)) = bI n j + 2 * bI n k := by
  rw [listing_item n (i + 1) _ (chars_at hr)]
  simp only [Lp.pick, List.find?, cond_pow h0 k hm', cond_pow h0 j hm'', cond_two h0 k j hm hjk, bI]
  cases n.toNat.testBit j <;> cases n.toNat.testBit k <;> ((try simp only [Bool.and_true, Bool.and_false]); decide +kernel)
theorem half_e (n : Int) (j k : Nat) : (bI n j + 2 * bI n k).fdiv 2 = bI n k := by
  unfold bI; cases n.toNat.testBit j <;> cases n.toNat.testBit k <;> decide
theorem odd_e (n : Int) (j k : Nat) : (bI n j + 2 * bI n k).fmod 2 = bI n j := by
  unfold bI; cases n.toNat.testBit j <;> cases n.toNat.testBit k <;> decide
end Bt
end

section
/-- the twelve rights of a mode, as bits -/
noncomputable def rightsL (n : Int) : List Int := [Bt.bI n 11, Bt.bI n 10, Bt.bI n 9, Bt.bI n 8, Bt.bI n 7, Bt.bI n 6, Bt.bI n 5, Bt.bI n 4, Bt.bI n 3, Bt.bI n 2, Bt.bI n 1, Bt.bI n 0]
theorem rights_call (w : World) (n : Int) (t : Tok) (h0 : 0 ≤ n) (h1 : n < 65536) : Claim 30 w 163 [.int n t] Quiet (RList (rightsL n)) := by
  have e (a b : Int) (ha : 0 ≤ a) (hb : 0 ≤ b) : 0 ≤ a + 2 * b := by omega
  have C := rights_walk w n t h0 h1 (Bt.listing_len n) (Bt.kind_item h0 h1) _ _ _ _ _ _ _ _ _
    (Bt.find_r h0 0 8 100 99 256 rfl rfl) (Bt.find_w h0 1 7 102 101 128 rfl rfl) (Bt.find_s h0 2 6 11 106 103 104 105 2112 2048 64 (by decide) rfl rfl rfl rfl)
    (Bt.find_r h0 3 5 108 107 32 rfl rfl) (Bt.find_w h0 4 4 110 109 16 rfl rfl) (Bt.find_s h0 5 3 10 114 111 112 113 1032 1024 8 (by decide) rfl rfl rfl rfl)
    (Bt.find_r h0 6 2 116 115 4 rfl rfl) (Bt.find_w h0 7 1 118 117 2 rfl rfl) (Bt.find_t h0 8 0 9 122 119 120 121 513 512 1 (by decide) rfl rfl rfl rfl)
    (Bt.bI_nn ..) (Bt.bI_nn ..) (e _ _ (Bt.bI_nn ..) (Bt.bI_nn ..)) (Bt.bI_nn ..) (Bt.bI_nn ..) (e _ _ (Bt.bI_nn ..) (Bt.bI_nn ..)) (Bt.bI_nn ..) (Bt.bI_nn ..) (e _ _ (Bt.bI_nn ..) (Bt.bI_nn ..))
  rw [Bt.half_e, Bt.half_e, Bt.half_e, Bt.odd_e, Bt.odd_e, Bt.odd_e] at C
  exact C
end

section
namespace Cm
open LCg LCt
/-- what a comprehension over n things with a test gives -/
noncomputable def sel (f : Nat → Option Int) (n : Nat) : List Int := (List.range n).filterMap f
theorem sel_succ (f : Nat → Option Int) (i : Nat) : sel f (i + 1) = sel f i ++ (f i).toList := by
  unfold sel
  rw [List.range_succ, List.filterMap_append]
  cases h : f i <;> simp [h]
noncomputable def TurnEnd (h₀ : Heap) (L : Addr) (m : Str → Option Value) (s₁ : Shared) (I : Addr) (oI : Obj) (C : Addr) (oC : Obj) (D : Addr) (oD : Obj) (news : List (Addr × Obj)) (want : Value → Prop) (y : Value) (s₂ : Shared) : Prop :=
  ∃ h' tk, s₂ = { s₁ with heap := h', toks := tk } ∧ Fr h₀ L h' m ∧ News h₀ L h' ((I, oI) :: (C, oC) :: (D, oD) :: news) ∧ want y
theorem TurnEnd.intro {h₀ : Heap} {L I C D : Addr} {m : Str → Option Value} {s₁ : Shared} {oI oC oD : Obj} {want : Value → Prop} {y : Value} {h' : Heap} {tk : Nat} {all news : List (Addr × Obj)}
    (F : Fr h₀ L h' m) (N : News h₀ L h' all) (sub : ∀ p ∈ (I, oI) :: (C, oC) :: (D, oD) :: news, p ∈ all) (r : want y) :
    TurnEnd h₀ L m s₁ I oI C oC D oD news want y { s₁ with heap := h', toks := tk } := ⟨h', tk, rfl, F, fun p hp => N p (sub p hp), r⟩
section
variable {prog : Program} {w : World} {A : Around} {s : Shared} {h₀ : Heap} {L : Addr} {m : Str → Option Value} {env : Env}
theorem comp_all {ct elt : Expr} {x : Str} {scope : Scope} {cl : List (Str × Addr)} {S : List (Addr × Obj) → Prop} {P : Nat → Value → Prop} {Fin : List Value → List (Addr × Obj) → Prop} {n : Nat} {news : List (Addr × Obj)} (f : Nat → Option Int) (hS : S news)
    (turn : ∀ i, i < n → ∀ ys, IntsAre ys (sel f i) → ∀ v I oI C oC D m₂ h tk (E' : Value → Shared → Prop), P i v → NsObj oC m₂ → m₂ x = some v → Fr h₀ L h m → News h₀ L h ((I, oI) :: (C, oC) :: (D, lst ys) :: news) → Off3 I C D news → ((@Ne Nat I C) ∧ (@Ne Nat I D) ∧ (@Ne Nat C D)) →
      wpAny (model prog w) A (isTrue ct (compEnvC scope cl C env) (eval ct (compEnvC scope cl C env))) (fun ok s' => if ok = true then
        wpAny (model prog w) A (eval elt (compEnvC scope cl C env)) (TurnEnd h₀ L m { s with heap := h, toks := tk } I oI C oC D (lst ys) news (fun y => ∃ z t, y = Value.int z t ∧ f i = some z)) E' s'
        else TurnEnd h₀ L m { s with heap := h, toks := tk } I oI C oC D (lst ys) news (fun _ => f i = none) Value.none s') E' { s with heap := h, toks := tk })
    (fin : ∀ ys, IntsAre ys (sel f n) → Fin ys news) : CompRestT prog w A h₀ L m env ct elt x scope cl s S P Fin n 0 [] news := by
  have key : ∀ k i ys, i + k = n → IntsAre ys (sel f i) → CompRestT prog w A h₀ L m env ct elt x scope cl s S P Fin k i ys news := by
    intro k
    induction k with
    | zero => intro i ys hi hI; rw [Nat.add_zero] at hi; subst hi; exact fin ys hI
    | succ k ih =>
      intro i ys hi hI
      refine CompRestT.succ ?_
      intro v I oI C oC D m₂ h tk E' hv hC hx F N off ne
      refine wpAny_mono (turn i (by omega) ys hI v I oI C oC D m₂ h tk E' hv hC hx F N off ne) (fun ok s' hq => ?_) fun _ _ e => e
      cases ok
      · rw [if_neg Bool.false_ne_true] at hq ⊢
        obtain ⟨h', tk', rfl, F', N', hf⟩ := hq
        refine ⟨h', tk', news, rfl, F', N', off, hS, ih (i + 1) ys (by omega) ?_⟩
        rw [sel_succ, hf]
        simpa using hI
      · rw [if_pos rfl] at hq ⊢
        refine wpAny_mono hq (fun y s₂ hy => ?_) fun _ _ e => e
        obtain ⟨h', tk', rfl, F', N', z, t, rfl, hf⟩ := hy
        refine ⟨h', tk', news, rfl, F', N', off, hS, ih (i + 1) _ (by omega) ?_⟩
        rw [sel_succ, hf]
        exact hI.append (by repeat' constructor)
  exact key n 0 [] (by omega) .nil
end
end Cm
end

section
noncomputable def heldL (n : Int) : Nat → List Int
  | 0 => []
  | i + 1 => if (n.fdiv (2 ^ i)).fmod 2 ≠ 0 then heldL n i ++ [placesL.getD i 0] else heldL n i
noncomputable def checkL (n : Int) : Nat → Int
  | 0 => 0
  | i + 1 => if (n.fdiv (2 ^ i)).fmod 2 ≠ 0 then Builtin.bitXor (checkL n i) (placesL.getD i 0) else checkL n i
theorem held_len (n : Int) : ∀ i, (heldL n i).length ≤ i
  | 0 => Nat.le_refl _
  | i + 1 => by
    have := held_len n i
    unfold heldL
    split
    · rw [List.length_append]; simp; omega
    · omega
section
variable {prog : Program} {w : World} {A : Around} {E : Value → Shared → Prop} {s : Shared} {env : Env} {h₀ : Heap} {x : Str} {body : List Stmt} {Q : Flow → Shared → Prop}
noncomputable abbrev WoS : Type := List Value × Nat × Obj × Tok
noncomputable abbrev woLed (lp lc : Addr) (c : WoS) : List (Addr × Obj) := [(lp, W.listOf c.1.toArray c.2.1), (lc, c.2.2.1)]
noncomputable abbrev woFacts (n : Int) (i : Nat) (c : WoS) : Prop := IntsAre c.1 (heldL n i) ∧ c.2.2.1.data = .cell (some (.int (checkL n i) c.2.2.2))
noncomputable abbrev woJ (lp lc : Addr) (n : Int) (x : Str) (m₀ : Str → Option Value) (pre : List Int) : (Str → Option Value) → List (Addr × Obj) → Prop :=
  KstS (woLed lp lc) (fun _ => []) (fun _ => True) x [] m₀ (fun pre c => woFacts n pre.length c) pre
theorem word_loop {n : Int} {r : Addr} {t₀ u₀ v₀ : Tok} {m₀ : Str → Option Value} {lp lc : Addr} {oc : Obj} {tc : Tok} {k0 : Nat} {news : List (Addr × Obj)} (_hn : n < 256) (hh : A.handled = none) (hr : IsRange s.heap r 0 8 1 t₀ u₀ v₀) (F : Fr h₀ env.locals s.heap m₀) (N : News h₀ env.locals s.heap news)
    (hl : (lp, W.listOf #[] k0) ∈ news) (hc : (lc, oc) ∈ news) (hd : oc.data = .cell (some (.int 0 tc)))
    (turn : ∀ (vs : List Value) (k : Nat) (i : Nat) (o : Obj) (tc : Tok) (j : Int) t h tk own, j = (i : Int) → i < 8 → vs.length ≤ 8 → OwnOff own [lp, lc] → IntsAre vs (heldL n i) → o.data = .cell (some (.int (checkL n i) tc)) →
      Fr h₀ env.locals h (fun y => if y = x then some (.int j t) else m₀ y) → News h₀ env.locals h ((lp, W.listOf vs.toArray k) :: (lc, o) :: own) →
      ∀ pre : List Int, pre.length = i + 1 → wpAny (model prog w) A (execs body env) (InvPostN h₀ env.locals (woJ lp lc n x m₀ pre) own [lp, lc] { s with heap := h, toks := tk } Q) E { s with heap := h, toks := tk })
    (done : ∀ (vs : List Value) (k : Nat) (o : Obj) (tc : Tok) (u : Option Value) h tk, vs.length ≤ 8 → IntsAre vs (heldL n 8) → o.data = .cell (some (.int (checkL n 8) tc)) →
      Fr h₀ env.locals h (fun y => if y = x then u else m₀ y) → News h₀ env.locals h [(lp, W.listOf vs.toArray k), (lc, o)] → Q .next { s with heap := h, toks := tk }) :
    wpAny (model prog w) A (pyIter (.ref r)) (fun it s₂ => LoopAtV prog w A h₀ env x body Q E it s₂) E s := by
  refine kst_range (σ := WoS) (n := 8) (woLed lp lc) (fun _ => []) (fun _ => True) [] (fun pre c => woFacts n pre.length c) ([], k0, oc, tc) hh hr (by decide +kernel) (by decide +kernel) F (fun p hp => ?_) trivial (fun p hp => nomatch hp) ⟨.nil, hd⟩ ?_ ?_
  · rcases List.mem_cons.mp hp with rfl | hp
    · exact N _ hl
    · rcases List.mem_cons.mp hp with rfl | hp
      · exact N _ hc
      · cases hp
  · rintro ⟨vs, k, o, tc⟩ pre j t u h tk own hj hlt hoff _ ⟨hi, hd⟩ F₁ N₁
    exact turn vs k pre.length o tc j t h tk own (by omega) hlt (by have a : vs.length = _ := hi.length; have b := held_len n pre.length; omega) hoff hi hd F₁ N₁ (pre ++ [j]) (by simp)
  · rintro ⟨vs, k, o, tc⟩ u h tk _ ⟨hi, hd⟩ F₁ N₁
    have e8 : (rangeKs 0 8).length = 8 := rangeKs_length _ _
    rw [e8] at hi hd
    refine done vs k o tc (u x) h tk (by have a : vs.length = _ := hi.length; have b := held_len n 8; omega) hi hd ?_ N₁
    have e : (fun y => if y = x then u x else m₀ y) = fun y => if y = x then u y else kstB (fun z => if List.contains [] z then u z else m₀ z) [] y := by
      funext y
      by_cases hy : y = x
      · subst hy; simp
      · simp only [if_neg hy]; rfl
    rw [e]; exact F₁
theorem word_close {L : Addr} {lp lc : Addr} {n : Int} {h' : Heap} {tk : Nat} {m₀ m' : Str → Option Value} {own news : List (Addr × Obj)} {a : Array Value} {k : Nat} {o : Obj} {tc : Tok} {vs' : List Value} {pre' : List Int} {s₁ : Shared} (F' : Fr h₀ L h' m') (N' : News h₀ L h' news)
    (hl : (lp, W.listOf a k) ∈ news) (hc : (lc, o) ∈ news) (ho : ∀ p ∈ own, p ∈ news) (hv : a = vs'.toArray) (hr : ∀ z, z ≠ x → m' z = m₀ z) {i : Nat} (hp : pre'.length = i + 1) (hI : IntsAre vs' (heldL n (i + 1))) (hd : o.data = .cell (some (.int (checkL n (i + 1)) tc))) :
    InvEndN h₀ L (woJ lp lc n x m₀ pre') own [lp, lc] s₁ { s₁ with heap := h', toks := tk } := by
  subst hv
  rw [← hp] at hI hd
  refine InvEndN.intro (nx := woLed lp lc (vs', k, o, tc)) F' N' ⟨(vs', k, o, tc), rfl, trivial, (fun p hp => nomatch hp), fun z hz _ _ => hr z hz, hI, hd⟩ rfl (fun p hp => ?_) ho
  rcases List.mem_cons.mp hp with rfl | hp
  · exact hl
  · rcases List.mem_cons.mp hp with rfl | hp
    · exact hc
    · cases hp
end
theorem held_yes {n : Int} {i : Nat} {vs : List Value} {u : Tok} (h : (n.fdiv (2 ^ ((i : Int)).toNat)).fmod 2 ≠ 0) (hI : IntsAre vs (heldL n i)) : IntsAre (vs ++ [Value.int ([3, 5, 6, 7, 9, 10, 11, 12].getD ((i : Int)).toNat 0) u]) (heldL n (i + 1)) := by
  rw [Int.toNat_natCast] at h ⊢
  rw [heldL, if_pos h]
  exact hI.append (by repeat' constructor)
theorem check_yes {n : Int} {i : Nat} {o : Obj} {u : Tok} (h : (n.fdiv (2 ^ ((i : Int)).toNat)).fmod 2 ≠ 0) (hd : o.data = .cell (some (.int (Builtin.bitXor (checkL n i) ([3, 5, 6, 7, 9, 10, 11, 12].getD ((i : Int)).toNat 0)) u))) : o.data = .cell (some (.int (checkL n (i + 1)) u)) := by
  rw [Int.toNat_natCast] at h hd
  rw [checkL, if_pos h]
  exact hd
theorem held_no {n : Int} {i : Nat} {vs : List Value} (h : (n.fdiv (2 ^ ((i : Int)).toNat)).fmod 2 = 0) (hI : IntsAre vs (heldL n i)) : IntsAre vs (heldL n (i + 1)) := by
  rw [Int.toNat_natCast] at h
  rw [heldL, if_neg (fun x => x h)]
  exact hI
theorem check_no {n : Int} {i : Nat} {o : Obj} {u : Tok} (h : (n.fdiv (2 ^ ((i : Int)).toNat)).fmod 2 = 0) (hd : o.data = .cell (some (.int (checkL n i) u))) : o.data = .cell (some (.int (checkL n (i + 1)) u)) := by
  rw [Int.toNat_natCast] at h
  rw [checkL, if_neg (fun x => x h)]
  exact hd
noncomputable def wsel (c : Int) (k : Nat) : Option Int := if (c.fdiv (2 ^ k)).fmod 2 ≠ 0 then some (2 ^ k) else none
noncomputable def wordL (n : Int) : List Int := heldL n 8 ++ Cm.sel (wsel (checkL n 8)) 4
theorem wsel_yes {c : Int} {i : Nat} (h : (c.fdiv (2 ^ (0 + (i : Int)).toNat)).fmod 2 ≠ 0) : wsel c i = some (2 ^ (0 + (i : Int)).toNat) := by
  rw [Int.zero_add, Int.toNat_natCast] at h ⊢
  rw [wsel, if_pos h]
theorem wsel_no {c : Int} {i : Nat} (h : (c.fdiv (2 ^ (0 + (i : Int)).toNat)).fmod 2 = 0) : wsel c i = none := by
  rw [Int.zero_add, Int.toNat_natCast] at h
  rw [wsel, if_neg (fun x => x h)]
theorem sel_len {f : Nat → Option Int} {ys : List Value} {n : Nat} (h : IntsAre ys (Cm.sel f n)) : ys.length ≤ n := by
  rw [h.length, Cm.sel]
  exact Nat.le_trans (List.length_filterMap_le _ _) (Nat.le_of_eq List.length_range)
end

local macro_rules | `(tactic| walk_at "none C11 0") => `(tactic| fail)
local macro_rules | `(tactic| walk_at "none C11 1") => `(tactic| fail)
local macro_rules | `(tactic| walk_at "none C11 2") => `(tactic| fail)
section
section
local macro_rules | `(tactic| walk_at "exec For Name Call cons nil") => `(tactic| (k_here; (rename Fr _ _ _ _ => lF'); (with_unfolding_all refine' For_invVF lF' ?k1 ?k2 ?_; (case k1 => exact rfl); (case k2 => exact rfl); k_whole)))
local macro_rules | `(tactic| walk_at "pyIter ref") => `(tactic| ((with_reducible show wpAny _ _ (pyIter (Value.ref _)) (fun it s₂ => LoopAtV _ _ _ _ _ _ _ _ _ it s₂) _ _); refine hold ?_))
local macro_rules | `(tactic| walk_at "CompSrcT") => `(tactic| (refine hold ?_))
theorem word_call (w : World) (n : Int) (t : Tok) (h0 : 0 ≤ n) (h1 : n < 256) : Claim 20 w 142 [.int n t] Quiet (RList (wordL n)) := by
  unfold Claim
  k_with_none
  w_top off
  intro mean mg mb dp un gd l base s Q E B X T hdp hun hpre hret
  refine wpAny_call ?_
  k_dflt (refine' enterC (binds := [(Str.ofString "octet", .int n t)]) B X T ?k6 ?k7 ?k8 ?k9 ?kB ?kD ?_ ?c2 ?c3 ?c4; (case k6 => k_is); (case k7 => k_is); (case k8 => ktr_room); (case k9 => first | exact BindsTo.of_eq rfl | exact binds_K X rfl (by k_is) rfl rfl rfl); (case kB => exact rfl); (case kD => decide +kernel); (case c2 => exact rfl); (case c3 => exact rfl); (case c4 => exact rfl); k_whole; intro L' h' tk' cells' F' N' Y' B' X' T'; k_cells Y'; (try simp only [List.cons_append, List.nil_append] at N'); (try dsimp only); (try k_fold))
  clear B X T hpre
  k_steps
  refine held ?_
  (with_reducible show wpAny _ _ (pyIter (Value.ref _)) (fun it s₂ => LoopAtV _ _ _ _ _ _ _ _ _ it s₂) _ _)
  (rename Fr _ _ _ _ => lF); (rename News _ _ _ _ => lN); (rename IsRange _ _ _ _ _ _ _ _ => lR); (rename Obj.data _ = Data.cell (some (Value.int _ _)) => lD); (rename (_ : Int) < 256 => lH)
  refine' word_loop lH rfl lR lF lN ?h1 ?h2 lD ?_ ?_
  (case h1 => k_mem)
  (case h2 => k_mem)
  (clear lF lN lR lD)
  (intro vs9 k9 i9 o9 tc9 j9 t9 h9 tk9 own9 hj9 hi9 hlen9 hoff9 hI9 hd9 F9 N9 pre9 hp9; (subst hj9))
  · k_steps
    · rename Fr _ _ _ _ => F'
      rename News _ _ _ _ => N'
      exact word_close F' N' (by k_mem) (by k_mem) (by (intro p hp; k_ownIn)) (List.push_toArray ..) (by (intro z h1; first | rfl | (simp [h1]; done) | (simp_all; done))) hp9 (held_yes (by assumption) hI9) (check_yes (by assumption) (by assumption))
    · rename Fr _ _ _ _ => F'
      rename News _ _ _ _ => N'
      exact word_close F' N' (by k_mem) (by k_mem) (by (intro p hp; k_ownIn)) rfl (by (intro z h1; first | rfl | (simp [h1]; done) | (simp_all; done))) hp9 (held_no (by assumption) hI9) (check_no (by assumption) hd9)
  · clear lF lN lR lD
    intro vs9 k9 o9 tc9 u9 h9 tk9 hlen9 hI9 hd9 F9 N9
    (try dsimp only)
    (try k_fold)
    k_steps
    refine held ?_
    refine LCt.CompSrcT.range (by rfl) (by k_asm) (by k_asm) (by assumption) (by first | decide | rfl) (by first | rfl | decide) (by first | size_fits | exact Nat.le_of_ble_eq_true rfl) ?_
    intro g'
    refine Cm.comp_all (wsel (checkL n 8)) trivial ?_ ?_
    · intro i hi ys hI v I oI C oC D m₂ h tk E' hv hC hx F N off ne
      obtain ⟨t9', rfl⟩ := hv
      k_steps
      · rename Fr _ _ _ _ => F'
        rename News _ _ _ _ => N'
        exact Cm.TurnEnd.intro F' N' (fun p hp => hp) ⟨_, _, rfl, wsel_yes (by assumption)⟩
      · rename Fr _ _ _ _ => F'
        rename News _ _ _ _ => N'
        exact Cm.TurnEnd.intro F' N' (fun p hp => hp) (wsel_no (by assumption))
    · intro ys hI
      replace hI : IntsAre ys (Cm.sel (wsel (checkL n 8)) 4) := hI
      have hl := sel_len hI
      intro D h tk F N off
      simp only [LCg.Off1, and_true] at off
      (try dsimp only)
      k_steps
      refine hret _ _ _ (Fr.keep (by k_asm)) ?_
      rename News _ _ _ _ => N9
      refine ⟨_, _, _, rfl, (N9 _ (.head _)).2.2, (N9 _ (.head _)).1, ?_⟩
      exact hI9.append hI
end
end

section
section
variable {rm : Nat} {w : World} {f : Addr} {vs : List Value} {pre : Heap → Prop} {res : Heap → Value → Heap → Prop} {mean : ExcName → Option Value} {mg mb : Str → Option Value} {dp un : Nat} {gd : Option (List Code)} {outer : List Env} {env : Env} {A₀ : Around} {base h₀ g₀ : Heap} {L : Addr} {m : Str → Option Value} {news : List (Addr × Obj)} {s : Shared} {Q E : Value → Shared → Prop}
theorem mem_top {b : Addr} (hf : env.frame = some L) (hm : b ∈ (env :: outer).filterMap (·.frame)) : b = L ∨ b ∈ outer.filterMap (·.frame) := by
  obtain ⟨e, he, hb⟩ := List.mem_filterMap.mp hm
  rcases List.mem_cons.mp he with rfl | he
  · rw [hf] at hb; exact .inl (Option.some.inj hb).symm
  · exact .inr (List.mem_filterMap.mpr ⟨e, he, hb⟩)
theorem top_mem {b : Addr} (hm : b ∈ outer.filterMap (·.frame)) : b ∈ (env :: outer).filterMap (·.frame) := by
  obtain ⟨e, he, hb⟩ := List.mem_filterMap.mp hm
  exact List.mem_filterMap.mpr ⟨e, .tail _ he, hb⟩
end
end

section
/-- the ground without the frames below; fr: these frames, their slots turned -/
structure Gr (A₀ : Around) (base : Heap) (outer : List Env) (h₀ g : Heap) (fr : List (Addr × Obj)) : Prop where
  below : Below A₀ base outer h₀
  stays : base.StaysIn g
  keep : ∀ b o, h₀.get? b = some o → b ∉ outer.filterMap (·.frame) → g.get? b = some o
  led : ∀ b ∈ outer.filterMap (·.frame), ∃ o sl, h₀.get? b = some o ∧ (∃ es n, o.data = .dict es n) ∧ (b, ({ o with slots := sl } : Obj)) ∈ fr
  only : ∀ p ∈ fr, p.1 ∈ outer.filterMap (·.frame)
/-- what stands behind n more entries -/
inductive TailOf : List (Addr × Obj) → List (Addr × Obj) → List (Addr × Obj) → Prop
  | nil {fr : List (Addr × Obj)} : TailOf [] fr fr
  | cons {p : Addr × Obj} {n fr a : List (Addr × Obj)} : TailOf n fr a → TailOf (p :: n) fr (p :: a)
theorem TailOf.eq {n fr a : List (Addr × Obj)} (h : TailOf n fr a) : a = n ++ fr := by
  induction h with
  | nil => rfl
  | cons _ ih => rw [ih]; rfl
/-- no frame below is among these -/
noncomputable def OffL (fs : List Addr) : List (Addr × Obj) → Prop
  | [] => True
  | p :: r => ((∀ es n, p.2.data ≠ .dict es n) ∨ p.1 ∉ fs) ∧ OffL fs r
theorem OffL.mem {fs : List Addr} : ∀ {l : List (Addr × Obj)}, OffL fs l → ∀ p ∈ l, (∀ es n, p.2.data ≠ .dict es n) ∨ p.1 ∉ fs := by
  intro l
  induction l with
  | nil => intro _ p hp; cases hp
  | cons q r ih =>
    intro h p hp
    rcases List.mem_cons.mp hp with e | hp
    · rw [e]; exact h.1
    · exact ih h.2 p hp
section
variable {rm : Nat} {w : World} {f : Addr} {vs : List Value} {pre : Heap → Prop} {res : Heap → Value → Heap → Prop} {mean : ExcName → Option Value} {mg mb : Str → Option Value} {dp un : Nat} {gd : Option (List Code)} {outer : List Env} {env : Env} {A₀ A : Around} {base h₀ g h h' : Heap} {L : Addr} {m : Str → Option Value} {news nws fr all : List (Addr × Obj)} {s : Shared} {Q E : Value → Shared → Prop}
theorem gr_start (B : Below A₀ base outer h₀) (D : KtsDicts (outer.filterMap (·.frame)) h₀) (F : Fr h₀ L h m) (N : News h₀ L h news) :
    ∃ g fr, Gr A₀ base outer h₀ g fr ∧ Fr g L h m ∧ News g L h (news ++ fr) ∧ OwnOff fr (news.map (·.1)) := by
  refine ⟨hideAll h₀ (outer.filterMap (·.frame)), (outer.filterMap (·.frame)).filterMap fun b => (h₀.get? b).map fun o => (b, o), ⟨B, fun b o e => hideAll_get _ (B.stays b o e) fun hm => ?_, fun b o e n => hideAll_get _ e n, fun b hb => ?_, fun p hp => ?_⟩, ⟨F.ns, fun b o e => F.keep b o (of_hideAll _ e), by rw [hideAll_size]; exact F.above⟩, fun p hp => ?_, fun p hp b hb e => ?_⟩
  · rw [(B.frames.mem hm).1] at e; cases e
  · obtain ⟨o, es, n, ho, hd⟩ := D b hb
    exact ⟨o, o.slots, ho, ⟨es, n, hd⟩, List.mem_filterMap.mpr ⟨b, hb, by rw [ho]; rfl⟩⟩
  · obtain ⟨b, hb, e⟩ := List.mem_filterMap.mp hp
    obtain ⟨o, _, rfl⟩ := Option.map_eq_some_iff.mp e
    exact hb
  · rcases List.mem_append.mp hp with hp | hp
    · refine ⟨(N p hp).1, (N p hp).2.1, ?_⟩
      cases q : (hideAll h₀ (outer.filterMap (·.frame))).get? p.1 with
      | none => rfl
      | some o => have := of_hideAll _ q; rw [(N p hp).2.2] at this; cases this
    · obtain ⟨b, hb, e⟩ := List.mem_filterMap.mp hp
      obtain ⟨o, ho, rfl⟩ := Option.map_eq_some_iff.mp e
      exact ⟨F.keep _ _ ho, (fun q => by rw [show b = L from q, kts_self F] at ho; cases ho), hideAll_none _ hb⟩
  · obtain ⟨c, hc, e'⟩ := List.mem_filterMap.mp hp
    obtain ⟨o, ho, rfl⟩ := Option.map_eq_some_iff.mp e'
    obtain ⟨q, hq, rfl⟩ := List.mem_map.mp hb
    rw [show c = q.1 from e, (N q hq).2.2] at ho; cases ho
theorem Gr.there (G : Gr A₀ base outer h₀ g fr) (N : News g L h all) (sub : ∀ p ∈ fr, p ∈ all) {b : Addr} (hb : b ∈ outer.filterMap (·.frame)) :
    ∃ o sl, h₀.get? b = some o ∧ (∃ es n, o.data = .dict es n) ∧ h.get? b = some { o with slots := sl } ∧ b ≠ L ∧ g.get? b = none := by
  obtain ⟨o, sl, ho, hd, hm⟩ := G.led b hb
  have z := N _ (sub _ hm)
  exact ⟨o, sl, ho, hd, z.1, z.2.1, z.2.2⟩
theorem Gr.now (G : Gr A₀ base outer h₀ g fr) (F : Fr g L h m) (N : News g L h all) (sub : ∀ p ∈ fr, p ∈ all) (hA : A.frames = some (env :: outer)) (hf : env.frame = some L) (hke : env.scope.kind = .function) : Below A base (env :: outer) h := by
  have hnew : base.get? L = none := by
    cases hq : base.get? L with
    | none => rfl
    | some o => exact absurd (Nat.lt_of_lt_of_le (Heap.lt_size (G.stays L o hq)) F.above) (Nat.lt_irrefl _)
  refine ⟨hA, fun b o e => F.keep b o (G.stays b o e), .cons (by rw [hke]; decide) hf F.ns hnew (G.below.frames.of_keeps fun b o e _ => ?_)⟩
  by_cases hb : b ∈ outer.filterMap (·.frame)
  · obtain ⟨o', sl, ho, _, q, _⟩ := G.there N sub hb
    rw [e] at ho; cases ho
    exact ⟨_, q, rfl⟩
  · exact ⟨o, F.keep b o (G.keep b o e hb), rfl⟩
theorem Gr.dicts (G : Gr A₀ base outer h₀ g fr) (F : Fr g L h m) (N : News g L h all) (sub : ∀ p ∈ fr, p ∈ all) (hf : env.frame = some L) : KtsDicts ((env :: outer).filterMap (·.frame)) h := fun b hb => by
  rcases mem_top hf hb with rfl | hb
  · obtain ⟨oL, es, ep, hL, hLd, _⟩ := F.ns
    exact ⟨oL, es, ep, hL, hLd⟩
  · obtain ⟨o', sl, _, ⟨es, n, hd⟩, q, _⟩ := G.there N sub hb
    exact ⟨_, es, n, q, hd⟩
/-- at the return: what stood is kept but for the frames' slots -/
theorem Gr.turn (G : Gr A₀ base outer h₀ g fr) (F : Fr g L h m) (N : News g L h all) (sub : ∀ p ∈ fr, p ∈ all) : Turn (outer.filterMap (·.frame)) h₀ h :=
  ⟨fun b o e n => F.keep b o (G.keep b o e n), fun b o e hb => by
    obtain ⟨o', sl, ho, _, q, _⟩ := G.there N sub hb
    rw [e] at ho; cases ho
    exact ⟨sl, q⟩⟩
theorem Gr.called (G : Gr A₀ base outer h₀ g fr) (F : Fr g L h m) (N : News g L h (nws ++ fr)) (hf : env.frame = some L) (t : Turn ((env :: outer).filterMap (·.frame)) h h') (hoff : ∀ p ∈ nws, (∀ es n, p.2.data ≠ .dict es n) ∨ p.1 ∉ outer.filterMap (·.frame)) :
    ∃ fr', Gr A₀ base outer h₀ g fr' ∧ Fr g L h' m ∧ News g L h' (nws ++ fr') := by
  have sub : ∀ p ∈ fr, p ∈ nws ++ fr := fun p hp => List.mem_append_right _ hp
  have hin : L ∈ (env :: outer).filterMap (·.frame) := List.mem_filterMap.mpr ⟨env, .head _, hf⟩
  have nL : g.get? L = none := kts_self F
  have ne : ∀ b o, g.get? b = some o → b ∉ (env :: outer).filterMap (·.frame) := fun b o e hm => by
    rcases mem_top hf hm with rfl | z
    · rw [nL] at e; cases e
    · obtain ⟨_, _, _, _, _, _, q⟩ := G.there N sub z
      rw [e] at q; cases q
  have nn : ∀ p ∈ nws, p.1 ∉ outer.filterMap (·.frame) := fun p hp hm => by
    rcases hoff p hp with q | q
    · obtain ⟨o, sl, _, ⟨es, n, hd⟩, e, _⟩ := G.there N sub hm
      rw [(N p (List.mem_append_left _ hp)).1] at e
      injection e with e
      exact q es n (by rw [e]; exact hd)
    · exact q hm
  refine ⟨(outer.filterMap (·.frame)).filterMap fun b => (h'.get? b).map fun o => (b, o), ⟨G.below, G.stays, G.keep, fun b hb => ?_, fun p hp => ?_⟩, ⟨?_, fun b o e => t.other b o (F.keep b o e) (ne b o e), F.above⟩, fun p hp => ?_⟩
  · obtain ⟨o, sl, ho, hd, e, _⟩ := G.there N sub hb
    obtain ⟨sl', e'⟩ := t.frame b _ e (top_mem hb)
    exact ⟨o, sl', ho, hd, List.mem_filterMap.mpr ⟨b, hb, by rw [e']; rfl⟩⟩
  · obtain ⟨b, hb, e⟩ := List.mem_filterMap.mp hp
    obtain ⟨o, _, rfl⟩ := Option.map_eq_some_iff.mp e
    exact hb
  · obtain ⟨oL, es, ep, hL, hLd, hLk, hLf⟩ := F.ns
    obtain ⟨sl, e⟩ := t.frame L oL hL hin
    exact ⟨_, es, ep, e, hLd, hLk, hLf⟩
  · rcases List.mem_append.mp hp with hp | hp
    · have z := N p (List.mem_append_left _ hp)
      refine ⟨t.other _ _ z.1 fun hm => ?_, z.2⟩
      rcases mem_top hf hm with q | q
      · exact z.2.1 q
      · exact nn p hp q
    · obtain ⟨b, hb, e⟩ := List.mem_filterMap.mp hp
      obtain ⟨o, ho, rfl⟩ := Option.map_eq_some_iff.mp e
      obtain ⟨_, _, _, _, _, q, q'⟩ := G.there N sub hb
      exact ⟨ho, q, q'⟩
/-- a def that catches is called: the ground stays, the frames' entries turn -/
theorem use_G (C : ClaimT rm w f vs pre res) (G : Gr A₀ base outer h₀ g fr) (F : Fr g L s.heap m) (N : News g L s.heap all) (ht : TailOf nws fr all) (X : (hd.heap_39 w.params).In g) (T : Top hd.view_39 Lo mean mg mb g) (XB : (hd.heap_39 w.params).In base) (TB : Top hd.view_39 Lo mean mg mb base)
    (hf : env.frame = some L) (hke : env.scope.kind = .function) (hdq : dp + rm < recursionLimit) (hu : un + 10 * rm < cLine) (hp : pre s.heap) (hoff : OffL (outer.filterMap (·.frame)) nws)
    (k : ∀ v h' tk' fr', Gr A₀ base outer h₀ g fr' → Fr g L h' m → News g L h' (nws ++ fr') → res s.heap v h' → Q v { s with heap := h', toks := tk' }) :
    wpAny (model Pg w) (aTop dp un gd (env :: outer)) (call (.ref f) vs) Q E s := by
  have e := ht.eq
  subst e
  have sub : ∀ p ∈ fr, p ∈ nws ++ fr := fun p hp => List.mem_append_right _ hp
  refine C mean mg mb _ _ _ _ base _ _ _ (G.now F N sub rfl hf hke) (X.keeps F.keep) (T.keeps F.keep) hdq hu hp XB TB (G.dicts F N sub hf) fun v h' tk' t r => ?_
  obtain ⟨fr', G', F', N'⟩ := G.called F N hf t hoff.mem
  exact k v h' tk' fr' G' F' N' r
theorem off_turn {I C D : Addr} {fr' : List (Addr × Obj)} (off : LCg.Off3 I C D (nws ++ fr)) (G : Gr A₀ base outer h₀ g fr) (G' : Gr A₀ base outer h₀ g fr') : LCg.Off3 I C D (nws ++ fr') :=
  LCg.Off3.of fun p hp => by
    rcases List.mem_append.mp hp with hp | hp
    · exact off.mem p (List.mem_append_left _ hp)
    · obtain ⟨o, sl, _, _, hm⟩ := G.led p.1 (G'.only p hp)
      have z := off.mem _ (List.mem_append_right nws hm)
      exact z
theorem off_frames {I C D : Addr} (off : LCg.Off3 I C D (nws ++ fr)) (G : Gr A₀ base outer h₀ g fr) : I ∉ outer.filterMap (·.frame) ∧ C ∉ outer.filterMap (·.frame) ∧ D ∉ outer.filterMap (·.frame) := by
  refine ⟨fun hb => ?_, fun hb => ?_, fun hb => ?_⟩ <;> obtain ⟨o, sl, _, _, hm⟩ := G.led _ hb <;> have := off.mem _ (List.mem_append_right _ hm)
  · exact this.1 rfl
  · exact this.2.1 rfl
  · exact this.2.2 rfl
end
section
variable {rm : Nat} {w : World} {f : Addr} {vs : List Value} {pre : Heap → Prop} {mean : ExcName → Option Value} {mg mb : Str → Option Value} {dp un : Nat} {gd : Option (List Code)} {outer : List Env} {env : Env} {A₀ A : Around} {base h₀ g h h' : Heap} {L : Addr} {m : Str → Option Value} {news nws fr all : List (Addr × Obj)} {s : Shared} {Q E : Value → Shared → Prop}
theorem news_in (F : Fr g L h m) (N : News g L h' nws) {a : Addr} {o : Obj} (hn : h.get? a = none) (ho : h'.get? a = some o) : News g L h' ((a, o) :: nws) := by
  obtain ⟨oL, es, ep, hL, _⟩ := F.ns
  intro p hp
  rcases List.mem_cons.mp hp with rfl | hp
  · refine ⟨ho, fun q => ?_, kts_none F.keep hn⟩
    rw [show a = L from q, hL] at hn; cases hn
  · exact N p hp
theorem use_G_str {x : Str} (C : ClaimT rm w f vs pre (RStr x)) (G : Gr A₀ base outer h₀ g fr) (F : Fr g L s.heap m) (N : News g L s.heap all) (ht : TailOf nws fr all) (X : (hd.heap_39 w.params).In g) (T : Top hd.view_39 Lo mean mg mb g) (XB : (hd.heap_39 w.params).In base) (TB : Top hd.view_39 Lo mean mg mb base)
    (hf : env.frame = some L) (hke : env.scope.kind = .function) (hdq : dp + rm < recursionLimit) (hu : un + 10 * rm < cLine) (hp : pre s.heap) (hoff : OffL (outer.filterMap (·.frame)) nws)
    (k : ∀ t h' tk' fr', Gr A₀ base outer h₀ g fr' → Fr g L h' m → News g L h' (nws ++ fr') → Q (.str x t) { s with heap := h', toks := tk' }) :
    wpAny (model Pg w) (aTop dp un gd (env :: outer)) (call (.ref f) vs) Q E s :=
  use_G C G F N ht X T XB TB hf hke hdq hu hp hoff fun v h' tk' fr' G' F' N' r => by
    obtain ⟨t, rfl⟩ := r
    exact k t h' tk' fr' G' F' N'
theorem use_G_int {x : Int} (C : ClaimT rm w f vs pre (RInt x)) (G : Gr A₀ base outer h₀ g fr) (F : Fr g L s.heap m) (N : News g L s.heap all) (ht : TailOf nws fr all) (X : (hd.heap_39 w.params).In g) (T : Top hd.view_39 Lo mean mg mb g) (XB : (hd.heap_39 w.params).In base) (TB : Top hd.view_39 Lo mean mg mb base)
    (hf : env.frame = some L) (hke : env.scope.kind = .function) (hdq : dp + rm < recursionLimit) (hu : un + 10 * rm < cLine) (hp : pre s.heap) (hoff : OffL (outer.filterMap (·.frame)) nws)
    (k : ∀ t h' tk' fr', Gr A₀ base outer h₀ g fr' → Fr g L h' m → News g L h' (nws ++ fr') → Q (.int x t) { s with heap := h', toks := tk' }) :
    wpAny (model Pg w) (aTop dp un gd (env :: outer)) (call (.ref f) vs) Q E s :=
  use_G C G F N ht X T XB TB hf hke hdq hu hp hoff fun v h' tk' fr' G' F' N' r => by
    obtain ⟨t, rfl⟩ := r
    exact k t h' tk' fr' G' F' N'
theorem use_G_told {x : Str} (C : ClaimT rm w f vs pre (RTold x)) (G : Gr A₀ base outer h₀ g fr) (F : Fr g L s.heap m) (N : News g L s.heap all) (ht : TailOf nws fr all) (X : (hd.heap_39 w.params).In g) (T : Top hd.view_39 Lo mean mg mb g) (XB : (hd.heap_39 w.params).In base) (TB : Top hd.view_39 Lo mean mg mb base)
    (hf : env.frame = some L) (hke : env.scope.kind = .function) (hdq : dp + rm < recursionLimit) (hu : un + 10 * rm < cLine) (hp : pre s.heap) (hoff : OffL (outer.filterMap (·.frame)) nws)
    (k : ∀ a t1 t2 n h' tk' fr', Gr A₀ base outer h₀ g fr' → Fr g L h' m → News g L h' ((a, { cls := .type "tuple", data := .seq #[.str (Str.ofString "refused") t1, .str x t2] n }) :: (nws ++ fr')) → AllNe a nws → Q (.ref a) { s with heap := h', toks := tk' }) :
    wpAny (model Pg w) (aTop dp un gd (env :: outer)) (call (.ref f) vs) Q E s :=
  use_G C G F N ht X T XB TB hf hke hdq hu hp hoff fun v h' tk' fr' G' F' N' r => by
    obtain ⟨a, t1, t2, n, rfl, hn, ho⟩ := r
    have e := ht.eq
    subst e
    exact k a t1 t2 n h' tk' fr' G' F' (news_in F N' hn ho) (allNe_of fun q hq => news_ne N hn q (List.mem_append_left _ hq))
end
theorem not_dict_seq {o : Obj} {a : Array Value} {n : Nat} (h : o.data = .seq a n) : ∀ es m, o.data ≠ .dict es m := by
  intro es m q; rw [h] at q; cases q
end

section
namespace Cm
open LCg LCt
/-- a comprehension over bytes -/
noncomputable def SrcB (prog : Program) (w : World) (A : Around) (h₀ : Heap) (L : Addr) (m : Str → Option Value) (env : Env) (elt : Expr) (x : Str) (scope : Scope) (cl : List (Str × Addr)) (Fin : Shared → List Value → List (Addr × Obj) → Prop) (xv : Value) (s₁ : Shared) : Prop :=
  ∃ b t news, xv = .bytes b t ∧ A.handled = none ∧ Fr h₀ L s₁.heap m ∧ News h₀ L s₁.heap news ∧ b.size ≤ sizeLine ∧
    ∀ g : Heap, CompRest prog w A h₀ L m env elt x scope cl { s₁ with heap := g } (fun _ => True) (fun i v => ∃ c u, b[i]? = some c ∧ v = .int (c.toNat : Int) u) (Fin { s₁ with heap := g }) b.size 0 [] news
section
variable {prog : Program} {w : World} {A : Around} {E : Value → Shared → Prop} {s : Shared} {h₀ : Heap} {L : Addr} {m : Str → Option Value} {env : Env}
theorem bytes_st {b : Array UInt8} {t : Tok} {I : Addr} : ∀ i (h h' : Heap) (o : Obj) (nw : List (Addr × Obj)), KBw.IsBytesIter h I b t i → h.get? I = some o → h'.get? I = some o → (∀ b o, h₀.get? b = some o → h'.get? b = some o) → News h₀ L h' nw → True → KBw.IsBytesIter h' I b t i := by
  intro i h h' o nw st e e' _ _ _
  obtain ⟨o', q, r⟩ := st
  rw [e] at q; cases q
  exact ⟨o, e', r⟩
theorem ListComp_B {elt iter : Expr} {x : Str} {px : Pos} {scope : Scope} {cl : List (Str × Addr)} {pos : Pos} {Q : Value → Shared → Prop} (F₀ : Fr h₀ L s.heap m)
    (hclos : closureFor scope env = pure cl) (hcell : ∀ y ∈ scope.names, y.2 ≠ .cell) (hkind : scope.kind = .function)
    (hnames : ∀ y ∈ scope.names, y.2 = .local → scope.names.lookup y.1 = some .local) (hx : scope.names.lookup x = some .local)
    (h : wpAny (model prog w) A (eval iter env) (SrcB prog w A h₀ L m env elt x scope cl (fun s₂ => FinE h₀ L m s₂ Q)) E s)
    (hs : ∀ x, foldedSetIterable iter env x = pure x := by intro _; rfl) :
    wpAny (model prog w) A (eval (.ListComp elt [⟨.Name x px, iter, [], 0⟩] scope pos) env) Q E s := by
  rw [eval_ListComp]
  refine wpAny_comprehension_free (use := none) rfl hs hclos hkind hnames (wpAny_mono h (fun xv s₁ h₁ => ?_) fun _ _ e => e)
  obtain ⟨b, t, news, rfl, hh, F, N, hsz, R⟩ := h₁
  refine KBw.pyIter_bytes ?_
  have up : ∀ c o, s₁.heap.get? c = some o → (s₁.heap.push { cls := .type "bytes_iterator", data := .fields #[.bytes b t, .int 0 0] }).get? c = some o := fun c o e => Heap.get?_push_of_some _ e
  refine block_U (KBw.walks hh s₁.heap.objs.size b t) hsz (fun i h st => by obtain ⟨o, e, _⟩ := st; exact ⟨o, e⟩) bytes_st hcell hkind hx ⟨_, Heap.get?_push_size _ rfl, rfl, rfl⟩ (fun c hc => ?_)
    (F.keeps up) (N.grown up) (Nat.ne_of_lt F.ns.lt) (next_is_new F) (fun p hp => Nat.ne_of_lt (Heap.lt_size (N p hp).1)) trivial (R _) ?_
  · rw [List.mem_singleton.mp hc]
    show s₁.heap.objs.size < (s₁.heap.push _).objs.size
    rw [Heap.size_push]; exact Nat.lt_succ_self _
  · intro D C h tk m' ys news' F' N' o1 hn hC₀ hD₀ hCL hDL hCD offC fin
    refine ⟨m', hn, fun h'' hs'' => fin D h'' tk (F'.change hs'' hCL hC₀) (fun p hp => ?_) o1⟩
    refine ⟨hs''.extBut _ _ ?_ (N' p hp).1, (N' p hp).2⟩
    rcases List.mem_cons.mp hp with rfl | hp
    · exact Ne.symm hCD
    · exact offC p hp
/-- a comprehension whose turns leave the ledger, by one turn -/
theorem comp_rel {elt : Expr} {x : Str} {scope : Scope} {cl : List (Str × Addr)} {S : List (Addr × Obj) → Prop} {P : Nat → Value → Prop} {Fin : List Value → List (Addr × Obj) → Prop} {n : Nat} {news : List (Addr × Obj)} (R : Nat → Value → Prop) (hS : S news)
    (turn : ∀ i, i < n → ∀ ys : List Value, ys.length = i → ∀ v I oI C oC D m₂ h tk (E' : Value → Shared → Prop), P i v → NsObj oC m₂ → m₂ x = some v → Fr h₀ L h m → News h₀ L h ((I, oI) :: (C, oC) :: (D, lst ys) :: news) → Off3 I C D news → ((@Ne Nat I C) ∧ (@Ne Nat I D) ∧ (@Ne Nat C D)) →
      wpAny (model prog w) A (eval elt (compEnvC scope cl C env)) (TurnEnd h₀ L m { s with heap := h, toks := tk } I oI C oC D (lst ys) news (R i)) E' { s with heap := h, toks := tk })
    (fin : ∀ ys : List Value, ys.length = n → (∀ i y, ys[i]? = some y → R i y) → Fin ys news) : CompRest prog w A h₀ L m env elt x scope cl s S P Fin n 0 [] news := by
  have key : ∀ k i (ys : List Value), i + k = n → ys.length = i → (∀ i y, ys[i]? = some y → R i y) → CompRest prog w A h₀ L m env elt x scope cl s S P Fin k i ys news := by
    intro k
    induction k with
    | zero => intro i ys hi hl hR; exact fin ys (by omega) hR
    | succ k ih =>
      intro i ys hi hl hR
      refine CompRest.succ ?_
      intro v I oI C oC D m₂ h tk E' hv hC hx F N off ne
      refine wpAny_mono (turn i (by omega) ys hl v I oI C oC D m₂ h tk E' hv hC hx F N off ne) (fun y s₂ hy => ?_) fun _ _ e => e
      obtain ⟨h', tk', rfl, F', N', hf⟩ := hy
      refine ⟨h', tk', news, rfl, F', N', off, hS, ih (i + 1) _ (by omega) (by simp [hl]) fun j z hz => ?_⟩
      by_cases hj : j < ys.length
      · rw [List.getElem?_append_left hj] at hz
        exact hR j z hz
      · have hj' : j = i := by
          have := (List.getElem?_eq_some_iff.mp hz).1
          simp at this; omega
        subst hj' hl
        simp at hz
        subst hz
        exact hf
  exact key n 0 [] (by omega) rfl fun i y hy => by simp at hy
noncomputable def TurnG (A₀ : Around) (base : Heap) (outer : List Env) (hz h₀ : Heap) (L : Addr) (m : Str → Option Value) (s₁ : Shared) (I : Addr) (oI : Obj) (C : Addr) (oC : Obj) (D : Addr) (oD : Obj) (nws : List (Addr × Obj)) (want : Value → Prop) (y : Value) (s₂ : Shared) : Prop :=
  ∃ fr', Gr A₀ base outer hz h₀ fr' ∧ TurnEnd h₀ L m s₁ I oI C oC D oD (nws ++ fr') want y s₂
/-- as comp_rel, where each turn calls a def that catches -/
theorem comp_G {A₀ : Around} {base hz : Heap} {outer : List Env} {elt : Expr} {x : Str} {scope : Scope} {cl : List (Str × Addr)} {S : List (Addr × Obj) → Prop} {P : Nat → Value → Prop} {Fin : List Value → List (Addr × Obj) → Prop} {n : Nat} {nws fr : List (Addr × Obj)} (R : Nat → Value → Prop) (hS : ∀ fr, S (nws ++ fr)) (G : Gr A₀ base outer hz h₀ fr)
    (turn : ∀ i, i < n → ∀ ys : List Value, ys.length = i → ∀ v I oI C oC D m₂ h tk (E' : Value → Shared → Prop) fr, Gr A₀ base outer hz h₀ fr → P i v → NsObj oC m₂ → m₂ x = some v → Fr h₀ L h m → News h₀ L h ((I, oI) :: (C, oC) :: (D, lst ys) :: (nws ++ fr)) → I ∉ outer.filterMap (·.frame) → C ∉ outer.filterMap (·.frame) → Off3 I C D (nws ++ fr) → ((@Ne Nat I C) ∧ (@Ne Nat I D) ∧ (@Ne Nat C D)) →
      wpAny (model prog w) A (eval elt (compEnvC scope cl C env)) (TurnG A₀ base outer hz h₀ L m { s with heap := h, toks := tk } I oI C oC D (lst ys) nws (R i)) E' { s with heap := h, toks := tk })
    (fin : ∀ (ys : List Value) fr', ys.length = n → (∀ i y, ys[i]? = some y → R i y) → Gr A₀ base outer hz h₀ fr' → Fin ys (nws ++ fr')) : CompRest prog w A h₀ L m env elt x scope cl s S P Fin n 0 [] (nws ++ fr) := by
  have key : ∀ k i (ys : List Value) fr, i + k = n → ys.length = i → (∀ i y, ys[i]? = some y → R i y) → Gr A₀ base outer hz h₀ fr → CompRest prog w A h₀ L m env elt x scope cl s S P Fin k i ys (nws ++ fr) := by
    intro k
    induction k with
    | zero => intro i ys fr hi hl hR G; exact fin ys fr (by omega) hR G
    | succ k ih =>
      intro i ys fr hi hl hR G
      refine CompRest.succ ?_
      intro v I oI C oC D m₂ h tk E' hv hC hx F N off ne
      have z := off_frames off G
      refine wpAny_mono (turn i (by omega) ys hl v I oI C oC D m₂ h tk E' fr G hv hC hx F N z.1 z.2.1 off ne) (fun y s₂ hy => ?_) fun _ _ e => e
      obtain ⟨fr', G', h', tk', rfl, F', N', hf⟩ := hy
      refine ⟨h', tk', nws ++ fr', rfl, F', N', off_turn off G G', hS _, ih (i + 1) _ fr' (by omega) (by simp [hl]) (fun j z hz => ?_) G'⟩
      by_cases hj : j < ys.length
      · rw [List.getElem?_append_left hj] at hz
        exact hR j z hz
      · have hj' : j = i := by
          have := (List.getElem?_eq_some_iff.mp hz).1
          simp at this; omega
        subst hj' hl
        simp at hz
        subst hz
        exact hf
  exact key n 0 [] fr (by omega) rfl (fun i y hy => by simp at hy) G
end
end Cm
end

section
noncomputable def Mark (_ : Nat) : Prop := True
theorem mark (n : Nat) : Mark n := trivial
noncomputable def osel (p : Int) (rs : List Int) (i : Nat) : Option Int := if ((1 + (i : Int)).fdiv p).fmod 2 ≠ 0 then some (rs.getD i 0) else none
theorem osel_yes {p : Int} {rs : List Int} {i : Nat} (h : ((1 + (i : Int)).fdiv p).fmod 2 ≠ 0) : osel p rs i = some (rs.getD (1 + (i : Int) - 1).toNat 0) := by
  rw [osel, if_pos h, show (1 + (i : Int) - 1).toNat = i by omega]
theorem osel_no {p : Int} {rs : List Int} {i : Nat} (h : ((1 + (i : Int)).fdiv p).fmod 2 = 0) : osel p rs i = none := by
  rw [osel, if_neg (fun x => x h)]
/-- the seven sixes behind the first five -/
noncomputable def sx (k i : Nat) : Int := if i < k then 63 else 0
noncomputable def sixesL (k : Nat) : List Int := [54, 57, 59, 62, 63, sx k 0, sx k 1, sx k 2, sx k 3, sx k 4, sx k 5, sx k 6]
theorem upto6 {P : Nat → Prop} (h : ∀ k : Fin 7, P k.val) {k : Nat} (hk : k ≤ 6) : P k := h ⟨k, by omega⟩
theorem sixes_eq {k : Nat} (hk : k ≤ 6) : [54, 57, 59, 62, 63] ++ (List.replicate (k : Int).toNat [(63 : Int)]).flatten ++ (List.replicate (7 - (k : Int)).toNat [(0 : Int)]).flatten = sixesL k :=
  upto6 (P := fun k => [54, 57, 59, 62, 63] ++ (List.replicate (k : Int).toNat [(63 : Int)]).flatten ++ (List.replicate (7 - (k : Int)).toNat [(0 : Int)]).flatten = sixesL k) (by decide) hk
theorem ints_cons {ws : List Value} {a : Int} {as : List Int} (h : IntsAre ws (a :: as)) : ∃ t ws', ws = .int a t :: ws' ∧ IntsAre ws' as := by
  cases h with | cons _ t h => exact ⟨t, _, rfl, h⟩
theorem ints_nil {ws : List Value} (h : IntsAre ws []) : ws = [] := by cases h; rfl
theorem ints12 {ws : List Value} {a0 a1 a2 a3 a4 a5 a6 a7 a8 a9 a10 a11 : Int} (h : IntsAre ws [a0, a1, a2, a3, a4, a5, a6, a7, a8, a9, a10, a11]) :
    ∃ t0 t1 t2 t3 t4 t5 t6 t7 t8 t9 t10 t11, ws = [.int a0 t0, .int a1 t1, .int a2 t2, .int a3 t3, .int a4 t4, .int a5 t5, .int a6 t6, .int a7 t7, .int a8 t8, .int a9 t9, .int a10 t10, .int a11 t11] := by
  obtain ⟨t0, w0, e0, h0⟩ := ints_cons h
  obtain ⟨t1, w1, e1, h1⟩ := ints_cons h0
  obtain ⟨t2, w2, e2, h2⟩ := ints_cons h1
  obtain ⟨t3, w3, e3, h3⟩ := ints_cons h2
  obtain ⟨t4, w4, e4, h4⟩ := ints_cons h3
  obtain ⟨t5, w5, e5, h5⟩ := ints_cons h4
  obtain ⟨t6, w6, e6, h6⟩ := ints_cons h5
  obtain ⟨t7, w7, e7, h7⟩ := ints_cons h6
  obtain ⟨t8, w8, e8, h8⟩ := ints_cons h7
  obtain ⟨t9, w9, e9, h9⟩ := ints_cons h8
  obtain ⟨t10, w10, e10, h10⟩ := ints_cons h9
  obtain ⟨t11, w11, e11, h11⟩ := ints_cons h10
  exact ⟨t0, t1, t2, t3, t4, t5, t6, t7, t8, t9, t10, t11, by rw [e0, e1, e2, e3, e4, e5, e6, e7, e8, e9, e10, e11, ints_nil h11]⟩
theorem news_23 {h₀ h : Heap} {L : Addr} {p q r : Addr × Obj} {rest : List (Addr × Obj)} (N : News h₀ L h (p :: q :: r :: rest)) : News h₀ L h [q, r] := fun x hx => by
  rcases List.mem_cons.mp hx with rfl | hx
  · exact N _ (.tail _ (.head _))
  · cases List.mem_singleton.mp hx
    exact N _ (.tail _ (.tail _ (.head _)))
theorem ne_two {h₀ h : Heap} {L : Addr} {q r : Addr × Obj} (_ : News h₀ L h [q, r]) (h : @LT.lt Nat _ r.1 q.1) : @LT.lt Nat _ r.1 q.1 := h
/-- four sixes packed -/
noncomputable def pk (k i : Nat) : Int := ((64 * (sixesL k).getD i 0 + (sixesL k).getD (i + 1) 0) * 64 + (sixesL k).getD (i + 2) 0) * 64 + (sixesL k).getD (i + 3) 0
noncomputable def octL (k : Nat) : List Int := [(pk k 0).fdiv 65536, ((pk k 0).fdiv 256).fmod 256, (pk k 0).fmod 256, (pk k 4).fdiv 65536, ((pk k 4).fdiv 256).fmod 256, (pk k 4).fmod 256, (pk k 8).fdiv 65536, ((pk k 8).fdiv 256).fmod 256, (pk k 8).fmod 256]
theorem octL_range {k : Nat} (hk : k ≤ 6) : ∀ n ∈ octL k, 0 ≤ n ∧ n < 256 :=
  upto6 (P := fun k => ∀ n ∈ octL k, 0 ≤ n ∧ n < 256) (by decide) hk
/-- the reply's signs -/
noncomputable def replyN (k : Nat) : List Nat := [50, 53, 55, 32, 34] ++ List.replicate k 34 ++ List.replicate (7 - k) 65
noncomputable def replyB (k : Nat) : Array UInt8 := ((replyN k).map (·.toUInt8)).toArray
noncomputable def replyS (k : Nat) : Str := ⟨(replyN k).toArray⟩
theorem oct_size (k : Nat) : (byteArr (octL k)).size = 9 := by rw [byteArr_size]; rfl
theorem reply_eq {k : Nat} (hk : k ≤ 6) : Tr.trOf (Tr.mkOf #[43, 47] #[32, 34]) (byteArr (encL (KBw.bInts (byteArr (octL k))))) = replyB k :=
  upto6 (P := fun k => Tr.trOf (Tr.mkOf #[43, 47] #[32, 34]) (byteArr (encL (KBw.bInts (byteArr (octL k))))) = replyB k) (by decide +kernel) hk
theorem reply_join {k : Nat} (hk : k ≤ 6) : Txt.join (Str.ofString "") ((replyB k).toList.map fun c => ⟨#[c.toNat]⟩) = replyS k :=
  upto6 (P := fun k => Txt.join (Str.ofString "") ((replyB k).toList.map fun c => ⟨#[c.toNat]⟩) = replyS k) (by decide +kernel) hk
noncomputable def halfS (k : Nat) : Str := ⟨(List.replicate (k / 2) 34).toArray⟩
noncomputable def asS (k : Nat) : Str := ⟨(List.replicate (7 - k) 65).toArray⟩
noncomputable abbrev t1S (k : Nat) : Str := Txt.slice (replyS k) none (some (5 + (k : Int)))
noncomputable abbrev t2S (k : Nat) : Str := Txt.slice (replyS k) none (some 3) ++ Txt.slice (replyS k) (some 4) none
noncomputable abbrev t3S (k : Nat) : Str := Txt.slice (replyS k) none (some 4) ++ Txt.slice (replyS k) (some (5 + (k : Int))) none
noncomputable abbrev t4S (k : Nat) : Str := Txt.slice (replyS k) (some 1) none
theorem odd_lens {k : Nat} (hk : k ≤ 6) : (replyS k).length = 12 ∧ (t1S k).length ≤ 12 ∧ (t2S k).length ≤ 12 ∧ (t3S k).length ≤ 12 ∧ (t4S k).length ≤ 12 ∧ (halfS k).length ≤ 3 ∧ (asS k).length ≤ 7 :=
  upto6 (P := fun k => (replyS k).length = 12 ∧ (t1S k).length ≤ 12 ∧ (t2S k).length ≤ 12 ∧ (t3S k).length ≤ 12 ∧ (t4S k).length ≤ 12 ∧ (halfS k).length ≤ 3 ∧ (asS k).length ≤ 7) (by decide +kernel) hk
theorem odd_257 {k : Nat} (hk : k ≤ 6) : (Txt.slice (replyS k) none (some 3) != Str.ofString "257") = false ∧ (Txt.slice (t1S k) none (some 3) != Str.ofString "257") = false ∧ (Txt.slice (t2S k) none (some 3) != Str.ofString "257") = false ∧ (Txt.slice (t3S k) none (some 3) != Str.ofString "257") = false ∧ (Txt.slice (t4S k) none (some 3) != Str.ofString "257") = true :=
  upto6 (P := fun k => (Txt.slice (replyS k) none (some 3) != Str.ofString "257") = false ∧ (Txt.slice (t1S k) none (some 3) != Str.ofString "257") = false ∧ (Txt.slice (t2S k) none (some 3) != Str.ofString "257") = false ∧ (Txt.slice (t3S k) none (some 3) != Str.ofString "257") = false ∧ (Txt.slice (t4S k) none (some 3) != Str.ofString "257") = true) (by decide +kernel) hk
theorem odd_parse {k : Nat} (hk : k ≤ 6) : parseL (t1S k) = halfS k ∧ parseL (t2S k) = Str.ofString "" ∧ parseL (t3S k) = Str.ofString "" ∧ parseL (replyS k) = (if k % 2 = 1 then halfS k else halfS k ++ asS k) :=
  upto6 (P := fun k => parseL (t1S k) = halfS k ∧ parseL (t2S k) = Str.ofString "" ∧ parseL (t3S k) = Str.ofString "" ∧ parseL (replyS k) = (if k % 2 = 1 then halfS k else halfS k ++ asS k)) (by decide +kernel) hk
theorem reply_size {k : Nat} (hk : k ≤ 6) : (replyB k).size = 12 := upto6 (P := fun k => (replyB k).size = 12) (by decide +kernel) hk
noncomputable abbrev replyC (k i : Nat) : Str := ⟨#[((replyB k).getD i 0).toNat]⟩
theorem reply_chars {k : Nat} (hk : k ≤ 6) : Txt.join (Str.ofString "") ((List.range 12).map (replyC k)) = replyS k :=
  upto6 (P := fun k => Txt.join (Str.ofString "") ((List.range 12).map (replyC k)) = replyS k) (by decide +kernel) hk
theorem strs_of {f : Nat → Str} : ∀ {n : Nat} {ys : List Value}, ys.length = n → (∀ i y, ys[i]? = some y → ∃ t, y = Value.str (f i) t) → StrsAre ys ((List.range n).map f) := by
  intro n
  induction n with
  | zero => intro ys hl _; cases List.length_eq_zero_iff.mp hl; exact .nil
  | succ n ih =>
    intro ys hl hR
    have e : ys = ys.take n ++ [ys[n]'(by omega)] := by
      rw [List.take_append_getElem]
      exact (List.take_of_length_le (by omega)).symm
    obtain ⟨t, ht⟩ := hR n _ (List.getElem?_eq_getElem (by omega))
    rw [List.range_succ, List.map_append, e, ht]
    exact strs_snoc (ih (ys := ys.take n) (by rw [List.length_take]; omega) fun i y hy => by
      rw [List.getElem?_take] at hy
      split at hy
      · exact hR i y hy
      · cases hy)
theorem join_is {prog : Program} {w : World} {A : Around} {E : Value → Shared → Prop} {s : Shared} {x X : Str} {t : Tok} {Q : Value → Shared → Prop} {D : Addr} {items : Array Value} {ys : List Str} (hl : s.heap.IsList D items) (hi : StrsAre items.toList ys) (hok : (ys.map (·.length)).sum + ys.length * x.length ≤ 16777216) (e : Txt.join x ys = X)
    (h : ∀ t' k, Q (.str X t') { s with toks := k }) : wpAny (model prog w) A (call (.builtin "str.join") [.str x t, .ref D]) Q E s := by
  subst e
  exact join_list hl hi hok h
theorem fr_two {h₀ h : Heap} {L : Addr} {m : Str → Option Value} {a b : Str} {v1 v2 : Value} (F : Fr h₀ L h m) (h1 : m a = some v1) (h2 : m b = some v2) : ∃ u : Str → Option Value, Fr h₀ L h (fun y => if y = a then some v1 else if y = b then some v2 else u y) := by
  refine ⟨m, ?_⟩
  have e : (fun y => if y = a then some v1 else if y = b then some v2 else m y) = m := by
    funext y
    by_cases ha : y = a
    · subst ha; simp [h1]
    · by_cases hb : y = b
      · subst hb; simp [ha, h2]
      · simp [ha, hb]
  rw [e]; exact F
theorem oct_led {h₀ h : Heap} {L : Addr} {p1 p2 p3 : Addr × Obj} {rest : List (Addr × Obj)} {lo : Addr} {kk k : Nat} {a0 a1 a2 a3 a4 a5 a6 a7 a8 : Int} {u0 u1 u2 u3 u4 u5 u6 u7 u8 : Tok} (N : News h₀ L h (p1 :: p2 :: p3 :: (lo, W.listOf #[.int a0 u0, .int a1 u1, .int a2 u2, .int a3 u3, .int a4 u4, .int a5 u5, .int a6 u6, .int a7 u7, .int a8 u8] kk) :: rest))
    (e : [a0, a1, a2, a3, a4, a5, a6, a7, a8] = octL k) : ∃ vs : List Value, IntsAre vs (octL k) ∧ vs.length = 9 ∧ News h₀ L h [(lo, W.listOf vs.toArray kk)] := by
  refine ⟨[.int a0 u0, .int a1 u1, .int a2 u2, .int a3 u3, .int a4 u4, .int a5 u5, .int a6 u6, .int a7 u7, .int a8 u8], ?_, rfl, fun p hp => ?_⟩
  · rw [← e]; repeat' constructor
  · cases List.mem_singleton.mp hp
    exact N _ (.tail _ (.tail _ (.tail _ (.head _))))
theorem b64_odd (w : World) {k : Nat} (hk : k ≤ 6) (c : Array UInt8) (t t' : Tok) (hc : c = #[32, 34]) : Claim 30 w 83 [.bytes (byteArr (octL k)) t, .bytes c t'] Quiet (RBytes (replyB k)) := by
  rw [← reply_eq hk]
  exact b64_alt w _ c t t' (by rw [oct_size]; decide) hc
theorem reply_hok (k : Nat) : (((List.range 12).map (replyC k)).map (·.length)).sum + ((List.range 12).map (replyC k)).length * (Str.ofString "").length ≤ 16777216 := by
  rw [sum_ones _ (by intro c hc; obtain ⟨i, _, rfl⟩ := List.mem_map.mp hc; rfl)]
  simp
  decide
theorem reply_at {k i : Nat} {c : UInt8} (hc : (replyB k)[i]? = some c) : (⟨#[((c.toNat : Int)).toNat]⟩ : Str) = replyC k i := by
  show _ = (⟨#[((replyB k).getD i 0).toNat]⟩ : Str)
  rw [Array.getD_eq_getD_getElem?, hc]
  rfl
theorem half_eq {k : Nat} (hk : k ≤ 6) : Txt.mul (Str.ofString "\"") ((k : Int).fdiv 2) = halfS k :=
  upto6 (P := fun k => Txt.mul (Str.ofString "\"") ((k : Int).fdiv 2) = halfS k) (by decide +kernel) hk
theorem as_eq {k : Nat} (hk : k ≤ 6) : Txt.mul (Str.ofString "A") (7 - (k : Int)) = asS k :=
  upto6 (P := fun k => Txt.mul (Str.ofString "A") (7 - (k : Int)) = asS k) (by decide +kernel) hk
theorem fr_four {h₀ h : Heap} {L : Addr} {m : Str → Option Value} {a b c d : Str} {v1 v2 v3 v4 : Value} (F : Fr h₀ L h m) (h1 : m a = some v1) (h2 : m b = some v2) (h3 : m c = some v3) (h4 : m d = some v4) :
    ∃ u : Str → Option Value, Fr h₀ L h (fun y => if y = a then some v1 else if y = b then some v2 else if y = c then some v3 else if y = d then some v4 else u y) := by
  refine ⟨m, ?_⟩
  have e : (fun y => if y = a then some v1 else if y = b then some v2 else if y = c then some v3 else if y = d then some v4 else m y) = m := by
    funext y
    by_cases ha : y = a
    · subst ha; simp [h1]
    · by_cases hb : y = b
      · subst hb; simp [ha, h2]
      · by_cases hc : y = c
        · subst hc; simp [ha, hb, h3]
        · by_cases hd : y = d
          · subst hd; simp [ha, hb, hc, h4]
          · simp [ha, hb, hc, hd]
  rw [e]; exact F
theorem news_one {h₀ h : Heap} {L : Addr} {p : Addr × Obj} {rest : List (Addr × Obj)} (N : News h₀ L h (p :: rest)) : News h₀ L h [p] := fun x hx => by
  cases List.mem_singleton.mp hx
  exact N _ (.head _)
section
variable {prog : Program} {w : World} {A : Around} {E : Value → Shared → Prop} {s : Shared} {Q : Value → Shared → Prop}
theorem ne_odd {H X : Str} {a b c d : Addr} {t1 t2 t3 t4 t5 t6 u1 u2 u3 u4 : Tok} {n1 n2 k : Nat} (ha : s.heap.get? a = some (LCg.lst [.str H t1, .str (Str.ofString "") t2, .str (Str.ofString "") t3, .ref c])) (hc : s.heap.get? c = some { cls := .type "tuple", data := .seq #[.str (Str.ofString "refused") u1, .str X u2] n1 })
    (hb : s.heap.get? b = some (W.listOf #[.str H t4, .str (Str.ofString "") t5, .str (Str.ofString "") t6, .ref d] k)) (hd : s.heap.get? d = some { cls := .type "tuple", data := .seq #[.str (Str.ofString "refused") u3, .str X u4] n2 }) (hu : A.units + 64 < cLine) (hH : PyData.strOk H = true) (hX : PyData.strOk X = true) (h : Q (.bool false) s) : wpAny (model prog w) A (compareOp .NotEq (.ref a) (.ref b)) Q E s := by
  have h1 : PyData.strOk (Str.ofString "") = true := by decide +kernel
  have h2 : PyData.strOk (Str.ofString "refused") = true := by decide +kernel
  refine ne_dataH (reads_list_at ha rfl rfl (ReadsAll.cons (Reads.str _ _) (ReadsAll.cons (Reads.str _ _) (ReadsAll.cons (Reads.str _ _) (ReadsAll.cons (reads_tuple_at hc rfl rfl (ReadsAll.cons (Reads.str _ _) (ReadsAll.cons (Reads.str _ _) ReadsAll.nil))) ReadsAll.nil)))))
    (reads_list_at hb rfl rfl (ReadsAll.cons (Reads.str _ _) (ReadsAll.cons (Reads.str _ _) (ReadsAll.cons (Reads.str _ _) (ReadsAll.cons (reads_tuple_at hd rfl rfl (ReadsAll.cons (Reads.str _ _) (ReadsAll.cons (Reads.str _ _) ReadsAll.nil))) ReadsAll.nil))))) (by simp [SeqAt.shaped, PyData.canLay0, PyData.canLayAll0, PyData.depth, PyData.depthAll, hH, hX, h1, h2]) (by simp [SeqAt.shaped, PyData.canLay0, PyData.canLayAll0, PyData.depth, PyData.depthAll, hH, hX, h1, h2]) hu ?_
  simp only [PyData.eqv, PyData.eqvAll, beq_self_eq_true, Bool.and_true, Bool.not_true]
  exact h
end
theorem odd_ok {k : Nat} (hk : k ≤ 6) : PyData.strOk (halfS k) = true ∧ PyData.strOk (Txt.slice (replyS k) (some 1) none) = true := upto6 (P := fun k => PyData.strOk (halfS k) = true ∧ PyData.strOk (Txt.slice (replyS k) (some 1) none) = true) (by decide +kernel) hk
/-- all that the walk asks of the reply -/
structure OddF (k : Nat) (R H As : Str) : Prop where
  chars : Txt.join (Str.ofString "") ((List.range 12).map (replyC k)) = R
  half : Txt.mul (Str.ofString "\"") ((k : Int).fdiv 2) = H
  as : Txt.mul (Str.ofString "A") (7 - (k : Int)) = As
  len : R.length = 12 ∧ (Txt.slice R none (some (5 + (k : Int)))).length ≤ 12 ∧ (Txt.slice R none (some 3) ++ Txt.slice R (some 4) none).length ≤ 12 ∧ (Txt.slice R none (some 4) ++ Txt.slice R (some (5 + (k : Int))) none).length ≤ 12 ∧ (Txt.slice R (some 1) none).length ≤ 12 ∧ H.length ≤ 3 ∧ As.length ≤ 7
  ok : (Txt.slice R none (some 3) != Str.ofString "257") = false
  ok1 : (Txt.slice (Txt.slice R none (some (5 + (k : Int)))) none (some 3) != Str.ofString "257") = false
  ok2 : (Txt.slice (Txt.slice R none (some 3) ++ Txt.slice R (some 4) none) none (some 3) != Str.ofString "257") = false
  ok3 : (Txt.slice (Txt.slice R none (some 4) ++ Txt.slice R (some (5 + (k : Int))) none) none (some 3) != Str.ofString "257") = false
  no4 : (Txt.slice (Txt.slice R (some 1) none) none (some 3) != Str.ofString "257") = true
  p1 : parseL (Txt.slice R none (some (5 + (k : Int)))) = H
  p2 : parseL (Txt.slice R none (some 3) ++ Txt.slice R (some 4) none) = Str.ofString ""
  p3 : parseL (Txt.slice R none (some 4) ++ Txt.slice R (some (5 + (k : Int))) none) = Str.ofString ""
  p0 : parseL R = (if k % 2 = 1 then H else H ++ As)
  odd : k % 2 = 0 → (H ++ As == H) = false
  okH : PyData.strOk H = true
  okX : PyData.strOk (Txt.slice R (some 1) none) = true
theorem odd_ne {k : Nat} (hk : k ≤ 6) : (halfS k ++ asS k == halfS k) = false := upto6 (P := fun k => (halfS k ++ asS k == halfS k) = false) (by decide +kernel) hk
theorem odd_f {k : Nat} (hk : k ≤ 6) : OddF k (replyS k) (halfS k) (asS k) :=
  ⟨reply_chars hk, half_eq hk, as_eq hk, odd_lens hk, (odd_257 hk).1, (odd_257 hk).2.1, (odd_257 hk).2.2.1, (odd_257 hk).2.2.2.1, (odd_257 hk).2.2.2.2, (odd_parse hk).1, (odd_parse hk).2.1, (odd_parse hk).2.2.1, (odd_parse hk).2.2.2, fun _ => odd_ne hk, (odd_ok hk).1, (odd_ok hk).2⟩
theorem perm4 {α : Type} {p a b c d : α} {l : List α} (h : p ∈ b :: c :: d :: a :: l) : p ∈ a :: b :: c :: d :: l := by
  simp only [List.mem_cons] at h ⊢
  rcases h with h | h | h | h | h
  · exact .inr (.inl h)
  · exact .inr (.inr (.inl h))
  · exact .inr (.inr (.inr (.inl h)))
  · exact .inl h
  · exact .inr (.inr (.inr (.inr h)))
theorem off_seq {c : Value} {d : Option Addr} {a : Array Value} {n : Nat} {sl : Array (Option Value)} : ∀ es m, ({ cls := c, dict := d, data := .seq a n, slots := sl } : Obj).data ≠ .dict es m := by
  intro es m q; cases q
theorem offl_seq {fs : List Addr} {b : Addr} {c : Value} {d : Option Addr} {a : Array Value} {n : Nat} {sl : Array (Option Value)} {r : List (Addr × Obj)} (h : OffL fs r) : OffL fs ((b, { cls := c, dict := d, data := .seq a n, slots := sl }) :: r) := ⟨.inl off_seq, h⟩
theorem offl_not {fs : List Addr} {b : Addr} {o : Obj} {r : List (Addr × Obj)} (q : b ∉ fs) (h : OffL fs r) : OffL fs ((b, o) :: r) := ⟨.inr q, h⟩
theorem offl_nil {fs : List Addr} : OffL fs [] := trivial
theorem TailOf.sub {n fr a : List (Addr × Obj)} (h : TailOf n fr a) : ∀ p ∈ fr, p ∈ a := by
  rw [h.eq]; intro p hp; exact List.mem_append_right _ hp
section
variable {k : Nat} {R H As : Str}
theorem OddF.one (O : OddF k R H As) (h : (parseL R == H) = true) : (1 : Int) = ((k % 2 : Nat) : Int) := by
  by_cases e : k % 2 = 1
  · rw [e]; rfl
  · have e0 : k % 2 = 0 := by omega
    rw [O.p0, if_neg e, O.odd e0] at h
    cases h
theorem OddF.zero (O : OddF k R H As) (h : (parseL R == H) = false) : (0 : Int) = ((k % 2 : Nat) : Int) := by
  by_cases e : k % 2 = 1
  · rw [O.p0, if_pos e, beq_self_eq_true] at h
    cases h
  · have e0 : k % 2 = 0 := by omega
    rw [e0]; rfl
theorem OddF.not (O : OddF k R H As) (h : (parseL R == H) = false) (h' : (parseL R == H ++ Txt.mul (Str.ofString "A") (7 - (k : Int))) = false) : False := by
  by_cases e : k % 2 = 1
  · rw [O.p0, if_pos e, beq_self_eq_true] at h
    cases h
  · rw [O.p0, if_neg e, O.as, beq_self_eq_true] at h'
    cases h'
end
end

section
section
local macro_rules | `(tactic| walk_at "CompSrcT") => `(tactic| (refine hold ?_))
local macro_rules | `(tactic| walk_at "exec For Name Call cons nil") => `(tactic| (k_here; (fail_if_success (have : Mark 1 := by with_reducible assumption)); refine hold ?_))
local macro_rules | `(tactic| walk_at "eval ListComp") => `(tactic| (k_here; lcg_look; refine hold ?_))
local macro_rules | `(tactic| walk_at "exec If") => `(tactic| (k_here; (fail_if_success (have : Mark 2 := by with_reducible assumption)); refine hold ?_))
local macro_rules | `(tactic| walk_at "CompSrc") => `(tactic| (refine hold ?_))
local macro_rules | `(tactic| walk_at "call type:bytes") => `(tactic| (refine hold ?_))
local macro_rules | `(tactic| walk_at "call ref") => `(tactic| (refine hold ?_))
local macro_rules | `(tactic| walk_at "inplaceOp Add ref") => `(tactic| (refine hold ?_))
local macro_rules | `(tactic| walk_at "compareOp NotEq ref ref") => `(tactic| (refine hold ?_))
theorem odd_call (w : World) (a : Addr) (us : List Value) (rs : List Int) (p : Int) (t : Tok) (hI : IntsAre us rs) (hl : rs.length = 12) (hp : 1 ≤ p) (hp8 : p ≤ 8) (k : Nat) (hk : k ≤ 6) (hM : (Cm.sel (osel p rs) 12).sum = k) (R H As : Str) (O : OddF k R H As) : ClaimT 60 w 175 [.ref a, .int p t] (fun h => h.IsList a us.toArray) (RInt ((k % 2 : Nat) : Int)) := by
  unfold ClaimT
  k_with_none
  w_top off
  intro mean mg mb dp un gd l base s Q E B X T hdp hun hpre XB TB D hret
  refine wpAny_call ?_
  k_dflt (refine' enterC (binds := [(Str.ofString "rights", .ref a), (Str.ofString "power", .int p t)]) B X T ?k6 ?k7 ?k8 ?k9 ?kB ?kD ?_ ?c2 ?c3 ?c4; (case k6 => k_is); (case k7 => k_is); (case k8 => ktr_room); (case k9 => first | exact BindsTo.of_eq rfl | exact binds_K X rfl (by k_is) rfl rfl rfl); (case kB => exact rfl); (case kD => decide +kernel); (case c2 => exact rfl); (case c3 => exact rfl); (case c4 => exact rfl); k_whole; intro L' h' tk' cells' F' N' Y' B' X' T'; k_cells Y'; (try simp only [List.cons_append, List.nil_append] at N'); (try dsimp only); (try k_fold))
  clear B X T
  (try dsimp only at hpre)
  k_steps
  refine held ?_
  refine LCt.CompSrcT.range (by rfl) (by k_asm) (by k_asm) (by assumption) (by first | decide | rfl) (by first | rfl | decide) (by first | size_fits | exact Nat.le_of_ble_eq_true rfl) ?_
  intro g'
  refine Cm.comp_all (osel p rs) trivial ?_ ?_
  · intro i hi ys hJ v I oI C oC D m₂ h tk E' hv hC hx F N off ne
    obtain ⟨t9', rfl⟩ := hv
    replace hi : i < 12 := hi
    k_steps
    · rename Fr _ _ _ _ => F'
      rename News _ _ _ _ => N'
      exact Cm.TurnEnd.intro F' N' (fun p hp => hp) ⟨_, _, rfl, osel_yes (by assumption)⟩
    · rename Fr _ _ _ _ => F'
      rename News _ _ _ _ => N'
      exact Cm.TurnEnd.intro F' N' (fun p hp => hp) (osel_no (by assumption))
  · intro ys hJ
    replace hJ : IntsAre ys (Cm.sel (osel p rs) 12) := hJ
    have hly := sel_len hJ
    have hk0 : 0 ≤ (Cm.sel (osel p rs) 12).sum := by omega
    have hk6 : (Cm.sel (osel p rs) 12).sum ≤ 6 := by omega
    intro D1 h1 tk1 F1 N1 off1
    simp only [LCg.Off1, and_true] at off1
    (try dsimp only)
    k_steps
    refine held ?_
    have mk1 := mark 1
    rename IntsAre _ (_ ++ _ ++ _) => hS
    simp only [hM] at *
    rw [sixes_eq hk] at hS
    obtain ⟨t0, t1, t2, t3, t4, t5, t6, t7, t8, t9, t10, t11, rfl⟩ := ints12 hS
    clear hS
    rename News _ _ _ _ => N9
    have N8 := news_23 N9
    clear N9
    have hlt := ne_two N8 (by dsimp only; omega)
    dsimp only at hlt
    (repeat (rename IntsAre _ _ => hx; clear hx))
    (repeat (rename @And (@LT.lt _ _ _ _) _ => hx; clear hx))
    (repeat (rename Obj.data _ = _ => hx; clear hx))
    (repeat (rename IsRange _ _ _ _ _ _ _ _ => hx; clear hx))
    k_steps
    refine held ?_
    k_dflt (refine' La.kl_iadd ?F ?N ?b ?e ?ne ?U ?d ?z ?y ?_; (case F => k_asm); (case N => k_asm); (case b => k_mem); (case U => k_upd); (case e => kl_lit); (case ne => kl_some); (case d => kl_no); (case z => kl_room); (case y => kl_room))
    kl_rest
    k_steps
    refine held ?_
    k_dflt (refine' La.kl_iadd ?F ?N ?b ?e ?ne ?U ?d ?z ?y ?_; (case F => k_asm); (case N => k_asm); (case b => k_mem); (case U => k_upd); (case e => kl_lit); (case ne => kl_some); (case d => kl_no); (case z => kl_room); (case y => kl_room))
    kl_rest
    k_steps
    refine held ?_
    k_dflt (refine' La.kl_iadd ?F ?N ?b ?e ?ne ?U ?d ?z ?y ?_; (case F => k_asm); (case N => k_asm); (case b => k_mem); (case U => k_upd); (case e => kl_lit); (case ne => kl_some); (case d => kl_no); (case z => kl_room); (case y => kl_room))
    kl_rest
    k_steps
    refine held ?_
    rename News _ _ _ _ => N9
    rename Fr _ _ _ _ => F9
    revert F9 N9
    (repeat (rename Fr _ _ _ _ => hx; clear hx))
    (repeat (rename News _ _ _ _ => hx; clear hx))
    intro F9 N9
    obtain ⟨vs9, hi9, hl9, N8⟩ := oct_led (k := k) N9 rfl
    clear N9 hlt
    obtain ⟨u9, F8⟩ := fr_two (a := Str.ofString "octets") (b := Str.ofString "many") F9 rfl rfl
    clear F9
    (repeat (rename @And (@LT.lt _ _ _ _) _ => hx; clear hx))
    (repeat (rename IsRange _ _ _ _ _ _ _ _ => hx; clear hx))
    refine Cm.ListComp_B (F₀ := F8) (by rfl) (by decide) (by rfl) (by decide) (by rfl) ?_
    k_steps
    refine held ?_
    refine bytes_led (by assumption) (by assumption) rfl hi9 rfl (octL_range (by assumption)) (line_of (by omega)) rfl ?_
    intro h8 t8 k8 F8 N8
    k_steps
    refine held ?_
    k_dflt (refine' use_bytes (b64_odd _ ?q1 _ _ _ ?q2) ?k1 ?k2 ?k3 ?k4 ?k5 ?k6 ?k7 ?k8 ?_; (case q1 => assumption); (case q2 => rfl); (case k1 => k_asm); (case k2 => k_asm); (case k3 => k_asm); (case k4 => k_asm); (case k5 => exact below_now (by k_asm) (by k_asm) rfl rfl rfl); (case k6 => ktr_room); (case k7 => ktr_units); (case k8 => trivial))
    intro t7 h7 tk7 F7 N7
    (try dsimp only)
    (try k_fold)
    k_steps
    refine ⟨_, _, _, rfl, rfl, by assumption, by assumption, ?_, fun g9 => ?_⟩
    · rw [reply_size hk, sizeLine_eq]; decide
    rw [reply_size hk]
    refine Cm.comp_rel (fun i v => ∃ t, v = .str (replyC k i) t) trivial ?_ ?_
    · intro i hi ys hl v I oI C oC D m₂ h tk E' hv hC hx F N off ne
      obtain ⟨c, u, hc, rfl⟩ := hv
      have hc0 : (0 : Int) ≤ (c.toNat : Int) := Int.natCast_nonneg _
      have hc1 : (c.toNat : Int) < 256 := by have := c.toNat_lt; omega
      k_steps
      rename Fr _ _ _ _ => F'
      rename News _ _ _ _ => N'
      exact Cm.TurnEnd.intro F' N' (fun p hp => hp) ⟨_, congrArg (Value.str · _) (reply_at hc)⟩
    · intro ys hl hR
      have hS := strs_of hl hR
      intro D2 h2 tk2 F2 N2 off2
      simp only [LCg.Off1, and_true] at off2
      k_steps
      refine join_is (X := R) (News.isList (by assumption) (.head _)) (by simpa using hS) (reply_hok k) O.chars ?_
      intro t3' k3'
      have q0 := O.len.1
      clear hS hR hl
      k_steps
      refine held ?_
      have mk2 := mark 2
      rename News _ _ _ _ => N9
      rename Fr _ _ _ _ => F9
      revert F9 N9
      (repeat (rename Fr _ _ _ _ => hx; clear hx))
      (repeat (rename News _ _ _ _ => hx; clear hx))
      intro F9 N9
      have N8 := news_one N9
      clear N9
      obtain ⟨u8, F8⟩ := fr_four (a := Str.ofString "spoiled") (b := Str.ofString "half") (c := Str.ofString "reply") (d := Str.ofString "many") F9 rfl rfl rfl rfl
      clear F9
      rw [O.half] at F8
      rename Below _ _ _ _ => B9
      obtain ⟨g, fr, G, F7, N7, off7⟩ := gr_start B9 D F8 N8
      clear F8 N8
      have X7 := XB.keeps G.stays
      have T7 := TB.keeps G.stays
      simp only [List.cons_append, List.nil_append] at N7
      obtain ⟨_, q1, q2, q3, q4, q5, q6⟩ := O.len
      have q7 := Nat.le_of_eq q0
      k_steps
      refine held ?_
      refine LCg.ListComp_U (F₀ := F7) (by rfl) (by decide) (by rfl) (by decide) (by rfl) ?_
      k_steps
      refine held ?_
      refine LCg.CompSrc.ledger rfl (by assumption) (by assumption) (.head _) (Nat.le_of_ble_eq_true rfl) ?_
      intro g1
      refine LCg.CompRest.succ (k := 3) ?_
      intro v I oI C oC D3 m₂ h tk E' hv hC hx F N off ne
      lcg_open hv
      obtain ⟨zI, zC, _⟩ := off_frames (nws := [_]) off G
      k_steps
      refine held ?_
      k_dflt (refine' use_G_str (told_ok _ _ _ ?q1 ?q2) ?k0 ?k1 ?k2 ?k3 ?k4 ?k5 ?k6 ?k7 rfl rfl ?k8 ?k9 trivial ?kb ?_; (case k0 => with_reducible assumption); (case q2 => with_reducible exact OddF.ok1 (by assumption)); (case q1 => exact Nat.le_trans (by with_reducible assumption) (by decide)); (case k1 => k_asm); (case k2 => k_asm); (case k3 => (repeat' constructor)); (case k4 => k_asm); (case k5 => k_asm); (case k6 => assumption); (case k7 => assumption); (case k8 => ktr_room); (case k9 => ktr_units); (case kb => (repeat (first | exact offl_nil | refine offl_not (by with_reducible assumption) ?_ | refine offl_seq ?_))))
      intro t77 h77 tk77 fr77 G77 F77 N77
      (try simp only [List.cons_append, List.nil_append] at N77)
      (try dsimp only)
      (try k_fold)
      k_steps
      rename Gr _ _ _ _ _ _ => G1
      rename Fr _ _ _ _ => F1
      rename News _ _ _ _ => N1
      refine LCg.CompEnd.intro F1 N1 _ (fun p hp => hp) (off_turn (nws := [_]) off G G1) (.inr ⟨_, .head _, rfl, _, rfl⟩) ?_
      clear hv hC hx F N off ne zI zC F1 N1 G
      rename Gr _ _ _ _ _ _ => G
      refine LCg.CompRest.succ (k := 2) ?_
      intro v I oI C oC D3 m₂ h tk E' hv hC hx F N off ne
      lcg_open hv
      obtain ⟨zI, zC, _⟩ := off_frames (nws := [_]) off G
      k_steps
      refine held ?_
      k_dflt (refine' use_G_str (told_ok _ _ _ ?q1 ?q2) ?k0 ?k1 ?k2 ?k3 ?k4 ?k5 ?k6 ?k7 rfl rfl ?k8 ?k9 trivial ?kb ?_; (case k0 => with_reducible assumption); (case q2 => with_reducible exact OddF.ok2 (by assumption)); (case q1 => exact Nat.le_trans (by with_reducible assumption) (by decide)); (case k1 => k_asm); (case k2 => k_asm); (case k3 => (repeat' constructor)); (case k4 => k_asm); (case k5 => k_asm); (case k6 => assumption); (case k7 => assumption); (case k8 => ktr_room); (case k9 => ktr_units); (case kb => (repeat (first | exact offl_nil | refine offl_not (by with_reducible assumption) ?_ | refine offl_seq ?_))))
      intro t77 h77 tk77 fr77 G77 F77 N77
      (try simp only [List.cons_append, List.nil_append] at N77)
      (try dsimp only)
      (try k_fold)
      k_steps
      rename Gr _ _ _ _ _ _ => G1
      rename Fr _ _ _ _ => F1
      rename News _ _ _ _ => N1
      refine LCg.CompEnd.intro F1 N1 _ (fun p hp => hp) (off_turn (nws := [_]) off G G1) (.inr ⟨_, .head _, rfl, _, rfl⟩) ?_
      clear hv hC hx F N off ne zI zC F1 N1 G
      rename Gr _ _ _ _ _ _ => G
      refine LCg.CompRest.succ (k := 1) ?_
      intro v I oI C oC D3 m₂ h tk E' hv hC hx F N off ne
      lcg_open hv
      obtain ⟨zI, zC, _⟩ := off_frames (nws := [_]) off G
      k_steps
      refine held ?_
      k_dflt (refine' use_G_str (told_ok _ _ _ ?q1 ?q2) ?k0 ?k1 ?k2 ?k3 ?k4 ?k5 ?k6 ?k7 rfl rfl ?k8 ?k9 trivial ?kb ?_; (case k0 => with_reducible assumption); (case q2 => with_reducible exact OddF.ok3 (by assumption)); (case q1 => exact Nat.le_trans (by with_reducible assumption) (by decide)); (case k1 => k_asm); (case k2 => k_asm); (case k3 => (repeat' constructor)); (case k4 => k_asm); (case k5 => k_asm); (case k6 => assumption); (case k7 => assumption); (case k8 => ktr_room); (case k9 => ktr_units); (case kb => (repeat (first | exact offl_nil | refine offl_not (by with_reducible assumption) ?_ | refine offl_seq ?_))))
      intro t77 h77 tk77 fr77 G77 F77 N77
      (try simp only [List.cons_append, List.nil_append] at N77)
      (try dsimp only)
      (try k_fold)
      k_steps
      rename Gr _ _ _ _ _ _ => G1
      rename Fr _ _ _ _ => F1
      rename News _ _ _ _ => N1
      refine LCg.CompEnd.intro F1 N1 _ (fun p hp => hp) (off_turn (nws := [_]) off G G1) (.inr ⟨_, .head _, rfl, _, rfl⟩) ?_
      clear hv hC hx F N off ne zI zC F1 N1 G
      rename Gr _ _ _ _ _ _ => G
      refine LCg.CompRest.succ (k := 0) ?_
      intro v I oI C oC D3 m₂ h tk E' hv hC hx F N off ne
      lcg_open hv
      obtain ⟨zI, zC, _⟩ := off_frames (nws := [_]) off G
      k_steps
      refine held ?_
      k_dflt (refine' use_G_told (told_no _ _ _ ?q1 ?q2) ?k0 ?k1 ?k2 ?k3 ?k4 ?k5 ?k6 ?k7 rfl rfl ?k8 ?k9 trivial ?kb ?_; (case k0 => with_reducible assumption); (case q2 => with_reducible exact OddF.no4 (by assumption)); (case q1 => exact Nat.le_trans (by with_reducible assumption) (by decide)); (case k1 => k_asm); (case k2 => k_asm); (case k3 => (repeat' constructor)); (case k4 => k_asm); (case k5 => k_asm); (case k6 => assumption); (case k7 => assumption); (case k8 => ktr_room); (case k9 => ktr_units); (case kb => (repeat (first | exact offl_nil | refine offl_not (by with_reducible assumption) ?_ | refine offl_seq ?_))))
      intro a77 t78 t79 n77 h77 tk77 fr77 G77 F77 N77 A77
      (try simp only [List.cons_append, List.nil_append] at N77)
      (try dsimp only)
      (try k_fold)
      k_steps
      rename Gr _ _ _ _ _ _ => G1
      rename Fr _ _ _ _ => F1
      rename News _ _ _ _ => N1
      rename AllNe _ _ => A1
      refine LCg.CompEnd.intro F1 N1 (_ :: _) (fun p hp => perm4 hp) ⟨⟨A1.1.symm, A1.2.1.symm, A1.2.2.1.symm⟩, off_turn (nws := [_]) off G G1⟩ (.inr ⟨_, .tail _ (.head _), rfl, _, rfl⟩) ?_
      have hsp := A1.2.2.2.1
      clear hv hC hx F N off ne zI zC F1 N1 G A1
      rename Gr _ _ _ _ _ _ => G
      refine LCg.CompRest.zero ?_
      unfold LCg.FinE
      intro D5 h5 tk5 F5 N5 off5
      obtain ⟨o1, o2, _⟩ := off5
      simp only [List.nil_append, List.cons_append, O.p1, O.p2, O.p3] at N5
      k_steps
      refine held ?_
      k_dflt (refine' ne_odd ?oNa ?oNc ?oNb ?oNd ?oNu ?oNh ?oNx ?_; (case oNa => exact News.get (by k_asm) (by k_mem)); (case oNc => exact News.get (by k_asm) (by k_mem)); (case oNb => exact News.get (by k_asm) (by k_mem)); (case oNd => exact News.get (by k_asm) (by k_mem)); (case oNu => ke_room); (case oNh => exact OddF.okH (by assumption)); (case oNx => exact OddF.okX (by assumption)))
      k_steps
      refine held ?_
      k_dflt (refine' use_G_str (told_ok _ _ _ ?q1 ?q2) ?k0 ?k1 ?k2 ?k3 ?k4 ?k5 ?k6 ?k7 rfl rfl ?k8 ?k9 trivial ?kb ?_; (case k0 => with_reducible assumption); (case q2 => with_reducible exact OddF.ok (by assumption)); (case q1 => exact Nat.le_trans (by with_reducible assumption) (by decide)); (case k1 => k_asm); (case k2 => k_asm); (case k3 => (repeat' constructor)); (case k4 => k_asm); (case k5 => k_asm); (case k6 => assumption); (case k7 => assumption); (case k8 => ktr_room); (case k9 => ktr_units); (case kb => (repeat (first | exact offl_nil | refine offl_not (by with_reducible assumption) ?_ | refine offl_seq ?_))))
      intro t77 h77 tk77 fr77 G77 F77 N77
      (try simp only [List.cons_append, List.nil_append] at N77)
      (try dsimp only)
      (try k_fold)
      k_steps
      · exact hret _ _ _ (Gr.turn (by with_reducible assumption) (by with_reducible assumption) (by with_reducible assumption) (TailOf.sub (by repeat' constructor))) ⟨_, congrArg (Value.int · _) (O.one (by with_reducible assumption))⟩
      · exact hret _ _ _ (Gr.turn (by with_reducible assumption) (by with_reducible assumption) (by with_reducible assumption) (TailOf.sub (by repeat' constructor))) ⟨_, congrArg (Value.int · _) (O.zero (by with_reducible assumption))⟩
      · exact (O.not (by with_reducible assumption) (by with_reducible assumption)).elim
end
end

section
theorem sel1 (n : Int) : Cm.sel (osel 1 (rightsL n)) 12 = [Bt.bI n 11, Bt.bI n 9, Bt.bI n 7, Bt.bI n 5, Bt.bI n 3, Bt.bI n 1] := rfl
theorem sel2 (n : Int) : Cm.sel (osel 2 (rightsL n)) 12 = [Bt.bI n 10, Bt.bI n 9, Bt.bI n 6, Bt.bI n 5, Bt.bI n 2, Bt.bI n 1] := rfl
theorem sel4 (n : Int) : Cm.sel (osel 4 (rightsL n)) 12 = [Bt.bI n 8, Bt.bI n 7, Bt.bI n 6, Bt.bI n 5, Bt.bI n 0] := rfl
theorem sel8 (n : Int) : Cm.sel (osel 8 (rightsL n)) 12 = [Bt.bI n 4, Bt.bI n 3, Bt.bI n 2, Bt.bI n 1, Bt.bI n 0] := rfl
noncomputable abbrev Pow4 (p : Int) : Prop := p = 1 ∨ p = 2 ∨ p = 4 ∨ p = 8
/-- half the places asked: their sum's last bit -/
noncomputable def askL (n p : Int) : Int := (Cm.sel (osel p (rightsL n)) 12).sum % 2
theorem bI_01 (n : Int) (j : Nat) : 0 ≤ Bt.bI n j ∧ Bt.bI n j ≤ 1 := ⟨Bt.bI_nn n j, Bt.bI_le n j⟩
theorem six_sum {a b c d e f : Int} (ha : 0 ≤ a ∧ a ≤ 1) (hb : 0 ≤ b ∧ b ≤ 1) (hc : 0 ≤ c ∧ c ≤ 1) (hd : 0 ≤ d ∧ d ≤ 1) (he : 0 ≤ e ∧ e ≤ 1) (hf : 0 ≤ f ∧ f ≤ 1) : 0 ≤ [a, b, c, d, e, f].sum ∧ [a, b, c, d, e, f].sum ≤ 6 := by
  simp only [List.sum_cons, List.sum_nil]; omega
theorem five_sum {a b c d e : Int} (ha : 0 ≤ a ∧ a ≤ 1) (hb : 0 ≤ b ∧ b ≤ 1) (hc : 0 ≤ c ∧ c ≤ 1) (hd : 0 ≤ d ∧ d ≤ 1) (he : 0 ≤ e ∧ e ≤ 1) : 0 ≤ [a, b, c, d, e].sum ∧ [a, b, c, d, e].sum ≤ 6 := by
  simp only [List.sum_cons, List.sum_nil]; omega
theorem sel_small {n p : Int} (hp : Pow4 p) : ∃ k : Nat, k ≤ 6 ∧ (Cm.sel (osel p (rightsL n)) 12).sum = k := by
  have q : 0 ≤ (Cm.sel (osel p (rightsL n)) 12).sum ∧ (Cm.sel (osel p (rightsL n)) 12).sum ≤ 6 := by
    rcases hp with rfl | rfl | rfl | rfl
    · rw [sel1]; exact six_sum (bI_01 _ _) (bI_01 _ _) (bI_01 _ _) (bI_01 _ _) (bI_01 _ _) (bI_01 _ _)
    · rw [sel2]; exact six_sum (bI_01 _ _) (bI_01 _ _) (bI_01 _ _) (bI_01 _ _) (bI_01 _ _) (bI_01 _ _)
    · rw [sel4]; exact five_sum (bI_01 _ _) (bI_01 _ _) (bI_01 _ _) (bI_01 _ _) (bI_01 _ _)
    · rw [sel8]; exact five_sum (bI_01 _ _) (bI_01 _ _) (bI_01 _ _) (bI_01 _ _) (bI_01 _ _)
  exact ⟨(Cm.sel (osel p (rightsL n)) 12).sum.toNat, by omega, by omega⟩
theorem odd_ask (w : World) (a : Addr) (us : List Value) (n p : Int) (t : Tok) (hI : IntsAre us (rightsL n)) (hp : Pow4 p) : ClaimT 60 w 175 [.ref a, .int p t] (fun h => h.IsList a us.toArray) (RInt (askL n p)) := by
  obtain ⟨k, hk, hM⟩ := sel_small (n := n) hp
  have e : askL n p = ((k % 2 : Nat) : Int) := by unfold askL; rw [hM]; omega
  rw [e]
  exact odd_call w a us (rightsL n) p t hI rfl (by rcases hp with rfl | rfl | rfl | rfl <;> decide) (by rcases hp with rfl | rfl | rfl | rfl <;> decide) k hk hM _ _ _ (odd_f hk)
theorem ask_01 (n p : Int) : 0 ≤ askL n p ∧ askL n p ≤ 1 := by unfold askL; omega
noncomputable def placeL (n : Int) : Int := askL n 1 + 2 * askL n 2 + 4 * askL n 4 + 8 * askL n 8
theorem place_range (n : Int) : 0 ≤ placeL n ∧ placeL n ≤ 15 := by
  have := ask_01 n 1; have := ask_01 n 2; have := ask_01 n 4; have := ask_01 n 8
  unfold placeL; omega
noncomputable def csel (rs : List Int) (i : Nat) : Option Int := if rs.getD (placesL.getD i 0 - 1).toNat 0 ≠ 0 then some (2 ^ i) else none
noncomputable def cameL (n : Int) : Int := if placeL n > 12 then 256 else (Cm.sel (csel (rightsL (turnedL n (placeL n)))) 8).sum
end

local macro_rules | `(tactic| walk_at "none C14 0") => `(tactic| fail)
local macro_rules | `(tactic| walk_at "none C14 1") => `(tactic| fail)
local macro_rules | `(tactic| walk_at "none C14 2") => `(tactic| fail)
local macro_rules | `(tactic| walk_at "none C14 3") => `(tactic| fail)
section
/-- a new pair of ints comes back -/
noncomputable abbrev RPair (x y : Int) : Heap → Value → Heap → Prop := fun h v h' => ∃ a t1 t2 n, v = .ref a ∧ h.get? a = none ∧ h'.get? a = some { cls := .type "tuple", data := .seq #[.int x t1, .int y t2] n }
theorem rights_full {n : Int} {us : List Value} (h : IntsAre us (rightsL n)) : us.isEmpty = false := by
  cases h; rfl
theorem rights_len {n : Int} {us : List Value} (h : IntsAre us (rightsL n)) : us.length = 12 := h.length
theorem gr_off {A₀ : Around} {base h₀ g : Heap} {outer : List Env} {fr : List (Addr × Obj)} {adr : List Addr} {b : Addr} (G : Gr A₀ base outer h₀ g fr) (off : OwnOff fr adr) (hb : b ∈ adr) : b ∉ outer.filterMap (·.frame) := fun hm => by
  obtain ⟨o, sl, _, _, q⟩ := G.led b hm
  exact off _ q b hb rfl
noncomputable def pw (i : Nat) : Int := 2 ^ i
theorem pw4 {i : Nat} (h : i < 4) : Pow4 (pw i) := by
  match i, h with
  | 0, _ => exact .inl rfl
  | 1, _ => exact .inr (.inl rfl)
  | 2, _ => exact .inr (.inr (.inl rfl))
  | 3, _ => exact .inr (.inr (.inr rfl))
theorem pw_at {i : Nat} {v : Value} {ts : Tok × Tok × Tok × Tok} (h : (#[Value.int 1 ts.1, .int 2 ts.2.1, .int 4 ts.2.2.1, .int 8 ts.2.2.2] : Array Value)[i]? = some v) : ∃ t, v = .int (pw i) t := by
  match i with
  | 0 => cases h; exact ⟨_, rfl⟩
  | 1 => cases h; exact ⟨_, rfl⟩
  | 2 => cases h; exact ⟨_, rfl⟩
  | 3 => cases h; exact ⟨_, rfl⟩
  | i + 4 => cases h
/-- the list of the places, new -/
noncomputable abbrev plA (t0 t1 t2 t3 t4 t5 t6 t7 : Tok) : Array Value := #[.int 3 t0, .int 5 t1, .int 6 t2, .int 7 t3, .int 9 t4, .int 10 t5, .int 11 t6, .int 12 t7]
noncomputable abbrev RPlaces : Heap → Value → Heap → Prop := fun h v h' => ∃ a t0 t1 t2 t3 t4 t5 t6 t7 n, v = .ref a ∧ h.get? a = none ∧ h'.get? a = some (W.listOf (plA t0 t1 t2 t3 t4 t5 t6 t7) n)
theorem places_call (w : World) : Claim 5 w 137 [] Quiet RPlaces := by
  unfold Claim
  k_with_none
  w_top off
  intro mean mg mb dp un gd l base s Q E B X T hdp hun hpre hret
  refine wpAny_call ?_
  k_dflt cell_enter
  clear B X T hpre
  k_steps
  refine hret _ _ _ (Fr.keep (by k_asm)) ?_
  rename News _ _ _ _ => N9
  exact ⟨_, _, _, _, _, _, _, _, _, _, rfl, (N9 _ (.head _)).2.2, (N9 _ (.head _)).1⟩
theorem use_places {rm : Nat} {w : World} {f : Addr} {vs : List Value} {pre : Heap → Prop} {mean : ExcName → Option Value} {mg mb : Str → Option Value} {dp un : Nat} {gd : Option (List Code)} {l : List Env} {base h₀ : Heap} {L : Addr} {m : Str → Option Value} {news : List (Addr × Obj)} {s : Shared} {Q E : Value → Shared → Prop}
    (C : Claim rm w f vs pre RPlaces) (F : Fr h₀ L s.heap m) (X : (hd.heap_39 w.params).In h₀) (N : News h₀ L s.heap news) (T : Top hd.view_39 Lo mean mg mb h₀) (B : Below (aTop dp un gd l) base l s.heap) (hd : dp + rm < recursionLimit) (hu : un + 10 * rm < cLine) (hp : pre s.heap)
    (k : ∀ b t0 t1 t2 t3 t4 t5 t6 t7 n h' tk', Fr h₀ L h' m → News h₀ L h' ((b, W.listOf (plA t0 t1 t2 t3 t4 t5 t6 t7) n) :: news) → AllNe b news → Q (.ref b) { s with heap := h', toks := tk' }) : wpAny (model Pg w) (aTop dp un gd l) (call (.ref f) vs) Q E s := by
  refine C _ _ _ _ _ _ _ _ _ _ _ B (X.keeps F.keep) (T.keeps F.keep) hd hu hp fun v h' tk' hk hr => ?_
  obtain ⟨b, t0, t1, t2, t3, t4, t5, t6, t7, n, rfl, hb, ho⟩ := hr
  exact k b t0 t1 t2 t3 t4 t5 t6 t7 n h' tk' (F.keeps hk) (news_new F N hk hb ho) (allNe_of (news_ne N hb))
theorem csel_yes {rs : List Int} {i : Nat} (h : rs.getD ([(3 : Int), 5, 6, 7, 9, 10, 11, 12].getD (0 + (i : Int)).toNat 0 - 1).toNat 0 ≠ 0) : csel rs i = some (2 ^ (0 + (i : Int)).toNat) := by
  rw [Int.zero_add, Int.toNat_natCast] at h ⊢
  rw [csel, if_pos h]
theorem csel_no {rs : List Int} {i : Nat} (h : rs.getD ([(3 : Int), 5, 6, 7, 9, 10, 11, 12].getD (0 + (i : Int)).toNat 0 - 1).toNat 0 = 0) : csel rs i = none := by
  rw [Int.zero_add, Int.toNat_natCast] at h
  rw [csel, if_neg (fun x => x h)]
theorem csel_nn {rs : List Int} : ∀ n, 0 ≤ (Cm.sel (csel rs) n).sum ∧ (Cm.sel (csel rs) n).sum < 2 ^ n := by
  intro n
  induction n with
  | zero => exact ⟨by simp [Cm.sel], by simp [Cm.sel]⟩
  | succ n ih =>
    rw [Cm.sel_succ, List.sum_append, Int.pow_succ]
    have e : (csel rs n).toList.sum = 0 ∨ (csel rs n).toList.sum = 2 ^ n := by
      unfold csel
      split
      · right; simp
      · left; simp
    omega
theorem csum_range {rs : List Int} {ys : List Value} (_ : IntsAre ys (Cm.sel (csel rs) 8)) : 0 ≤ (Cm.sel (csel rs) 8).sum ∧ (Cm.sel (csel rs) 8).sum < 256 := csel_nn 8
theorem allLt_mem {a : Addr} : ∀ {l : List (Addr × Obj)}, AllLt a l → ∀ p ∈ l, @LT.lt Nat _ p.1 a
  | [], _, _, hp => nomatch hp
  | _ :: _, h, p, hp => by
    rcases List.mem_cons.mp hp with rfl | hp
    · exact h.1
    · exact allLt_mem h.2 p hp
theorem gr_new {A₀ : Around} {base h₀ g : Heap} {outer : List Env} {fr : List (Addr × Obj)} {a : Addr} (G : Gr A₀ base outer h₀ g fr) (N : g.get? a = none) (hl : AllLt a fr) : h₀.get? a = none := by
  cases q : h₀.get? a with
  | none => rfl
  | some o =>
    by_cases hb : a ∈ outer.filterMap (·.frame)
    · obtain ⟨o', sl, _, _, hm⟩ := G.led a hb
      have := allLt_mem hl _ hm
      exact absurd this (Nat.lt_irrefl _)
    · have := G.keep a o q hb
      rw [N] at this; cases this
theorem pair_eq {x y x' y' : Int} {t1 t2 : Tok} {n : Nat} (hx : x = x') (hy : y = y') : ({ cls := .type "tuple", data := .seq #[.int x t1, .int y t2] n } : Obj) = { cls := .type "tuple", data := .seq #[.int x' t1, .int y' t2] n } := by
  subst hx hy; rfl
theorem ints_at : ∀ {vs : List Value} {ns : List Int}, IntsAre vs ns → ∀ {j : Nat}, j < ns.length → ∃ t, vs[j]? = some (.int (ns.getD j 0) t)
  | _, _, .cons x t r, 0, _ => ⟨t, rfl⟩
  | _, _, .cons x t r, j + 1, h => ints_at r (j := j) (Nat.lt_of_succ_lt_succ h)
theorem item_ints {prog : Program} {w : World} {A : Around} {E : Value → Shared → Prop} {s : Shared} {value slice : PySem.Expr} {l : Addr} {vs : List Value} {ns : List Int} {k : Int} {u : Tok} {Q : Value → Shared → Prop}
    (hl : s.heap.IsList l vs.toArray) (hI : IntsAre vs ns) (hn : ns.length = 12) (h0 : 0 ≤ k) (h1 : k < 12) (h : ∀ t, Q (.int (ns.getD k.toNat 0) t) s)
    (hs : subscripted slice false (.ref l) (.int k u) = operate [.ref l, .int k u] (getItem (.ref l) (.int k u)) := by with_unfolding_all rfl) :
    wpAny (model prog w) A (subscriptTail value slice (.ref l) (.int k u)) Q E s := by
  obtain ⟨t, e⟩ := ints_at hI (j := k.toNat) (by omega)
  exact tail_any hl.typeIs slot_list_getitem.lookup (wpAny_getItem_list hl h0 (by omega) (by simpa using e) (h t)) hs
theorem pl_range {i : Nat} (hi : i < 8) : 0 ≤ [(3 : Int), 5, 6, 7, 9, 10, 11, 12].getD (0 + (i : Int)).toNat 0 - 1 ∧ [(3 : Int), 5, 6, 7, 9, 10, 11, 12].getD (0 + (i : Int)).toNat 0 - 1 < 12 := by
  match i, hi with
  | 0, _ | 1, _ | 2, _ | 3, _ | 4, _ | 5, _ | 6, _ | 7, _ => decide
theorem turned_bit {n p : Int} (h0 : 0 ≤ n) (hp : p ≠ 0) : turnedL n p = ((n.toNat ^^^ 2 ^ (12 - p).toNat : Nat) : Int) := by
  rw [turnedL, if_neg hp, Bt.bitXor_pp h0 (Int.pow_nonneg (by decide))]
  congr 2
theorem turned_rg {n p : Int} (h0 : 0 ≤ n) (h1 : n < 65536) (hp0 : 0 ≤ p) (hp1 : p ≤ 12) : 0 ≤ turnedL n p ∧ turnedL n p < 65536 := by
  by_cases hp : p = 0
  · rw [turnedL, if_pos hp]; exact ⟨h0, h1⟩
  · rw [turned_bit h0 hp]
    have : n.toNat ^^^ 2 ^ (12 - p).toNat < 2 ^ 16 := Nat.xor_lt_two_pow (by omega) (Nat.pow_lt_pow_right (by decide) (by omega))
    omega
theorem turned_r0 {n p : Int} (h0 : 0 ≤ n) (h1 : n < 65536) (hp0 : 0 ≤ p) (hp1 : p ≤ 12) : 0 ≤ turnedL n p := (turned_rg h0 h1 hp0 hp1).1
theorem turned_r1 {n p : Int} (h0 : 0 ≤ n) (h1 : n < 65536) (hp0 : 0 ≤ p) (hp1 : p ≤ 12) : turnedL n p < 65536 := (turned_rg h0 h1 hp0 hp1).2
theorem ask_list {n : Int} {ys : List Value} (hl : ys.length = 4) (hR : ∀ (i : Nat) (y : Value), ys[i]? = some y → ∃ t, y = .int (askL n (pw i)) t) :
    ∃ t0 t1 t2 t3, ys = [.int (askL n 1) t0, .int (askL n 2) t1, .int (askL n 4) t2, .int (askL n 8) t3] := by
  match ys, hl with
  | [a, b, c, d], _ =>
    obtain ⟨t0, rfl⟩ := hR 0 a rfl
    obtain ⟨t1, rfl⟩ := hR 1 b rfl
    obtain ⟨t2, rfl⟩ := hR 2 c rfl
    obtain ⟨t3, rfl⟩ := hR 3 d rfl
    exact ⟨t0, t1, t2, t3, rfl⟩
section
local macro_rules | `(tactic| walk_at "CompSrc") => `(tactic| (refine hold ?_))
local macro_rules | `(tactic| walk_at "CompSrcT") => `(tactic| (refine hold ?_))
local macro_rules | `(tactic| walk_at "call ref") => `(tactic| (refine hold ?_))
local macro_rules | `(tactic| walk_at "subscriptTail") => `(tactic| (k_here; (with_reducible show wpAny _ _ (subscriptTail _ _ (Value.ref _) (Value.int (_ - 1) _)) _ _ _); refine hold ?_))
theorem heard_call (w : World) (n : Int) (t : Tok) (h0 : 0 ≤ n) (h1 : n < 65536) : ClaimT 80 w 180 [.int n t] Quiet (RPair (placeL n) (cameL n)) := by
  unfold ClaimT
  k_with_none
  w_top off
  intro mean mg mb dp un gd l base s Q E B X T hdp hun hpre XB TB D hret
  refine wpAny_call ?_
  k_dflt (refine' enterC (binds := [(Str.ofString "mode", .int n t)]) B X T ?k6 ?k7 ?k8 ?k9 ?kB ?kD ?_ ?c2 ?c3 ?c4; (case k6 => k_is); (case k7 => k_is); (case k8 => ktr_room); (case k9 => first | exact BindsTo.of_eq rfl | exact binds_K X rfl (by k_is) rfl rfl rfl); (case kB => exact rfl); (case kD => decide +kernel); (case c2 => exact rfl); (case c3 => exact rfl); (case c4 => exact rfl); k_whole; intro L' h' tk' cells' F' N' Y' B' X' T'; k_cells Y'; (try simp only [List.cons_append, List.nil_append] at N'); (try dsimp only); (try k_fold))
  clear B X T hpre
  obtain ⟨g, fr, G, F7, N7, off7⟩ := gr_start B' D F' N'
  have X7 := XB.keeps G.stays
  have T7 := TB.keeps G.stays
  clear F' N' X' T'
  simp only [List.cons_append, List.nil_append] at N7
  dsimp only [List.map] at off7
  have hLf := gr_off G off7 (.head _)
  k_steps
  refine held ?_
  k_dflt (refine' use_list (rights_call _ _ _ ?q1 ?q2) ?k1 ?k2 ?k3 ?k4 ?k5 ?k6 ?k7 ?k8 ?_; (case q1 => assumption); (case q2 => assumption); (case k1 => k_asm); (case k2 => k_asm); (case k3 => k_asm); (case k4 => k_asm); (case k5 => exact Gr.now (by with_reducible assumption) (by with_reducible assumption) (by with_reducible assumption) (TailOf.sub (by repeat' constructor)) rfl rfl rfl); (case k6 => ktr_room); (case k7 => ktr_units); (case k8 => trivial))
  intro b77 us77 n77 h77 tk77 F77 N77 A77 L77 I77
  have hl77 := rights_len I77
  have he77 := rights_full I77
  obtain ⟨A78, A77⟩ := A77
  (try dsimp only at A78)
  (repeat (obtain ⟨A78, A77⟩ := A77; (try dsimp only at A78)))
  (try dsimp only)
  (try k_fold)
  k_steps
  refine held ?_
  rename News _ _ _ _ => N9
  rename Fr _ _ _ _ => F9
  refine LCg.CompSrc.ledger rfl F9 N9 (.head _) (Nat.le_of_ble_eq_true rfl) ?_
  intro g1
  clear F9 N9
  refine Cm.comp_G (nws := [_, _, _]) (fun i v => ∃ t, v = .int (askL n (pw i)) t) (fun fr => .inr ⟨_, .head _, rfl, _, rfl⟩) G ?_ ?_
  · clear G off7
    intro i hi ys hl v I oI C oC D3 m₂ h tk E' fr1 G hv hC hx F N zI zC off ne
    obtain ⟨t9, rfl⟩ := pw_at (ts := (_, _, _, _)) hv
    have hp := pw4 hi
    simp only [List.cons_append, List.nil_append] at N
    k_steps
    refine held ?_
    k_dflt (refine' use_G_int (odd_ask _ _ _ _ _ _ ?q1 ?q2) ?k0 ?k1 ?k2 ?k3 ?k4 ?k5 ?k6 ?k7 rfl rfl ?k8 ?k9 ?ka ?kb ?_; (case k0 => with_reducible assumption); (case k1 => k_asm); (case k2 => k_asm); (case k3 => (repeat' constructor)); (case ka => is_list); (case q1 => assumption); (case q2 => assumption); (case k4 => k_asm); (case k5 => k_asm); (case k6 => assumption); (case k7 => assumption); (case k8 => ktr_room); (case k9 => ktr_units); (case kb => (repeat (first | exact offl_nil | refine offl_not (by with_reducible assumption) ?_ | refine offl_seq ?_))))
    intro t77 h77 tk77 fr77 G77 F77 N77
    (try simp only [List.cons_append, List.nil_append] at N77)
    (try dsimp only)
    (try k_fold)
    k_steps
    rename Gr _ _ _ _ _ _ => G9
    rename Fr _ _ _ _ => F9
    rename News _ _ _ _ => N9
    exact ⟨_, G9, Cm.TurnEnd.intro F9 N9 (fun p hp => hp) ⟨_, rfl⟩⟩
  · clear G off7
    intro ys fr1 hl hR G
    obtain ⟨t0, t1, t2, t3, rfl⟩ := ask_list hl hR
    clear hl hR
    have q1 := ask_01 n 1
    have q2 := ask_01 n 2
    have q4 := ask_01 n 4
    have q8 := ask_01 n 8
    unfold LCg.FinA
    intro D5 h5 tk5 F5 N5 off5
    simp only [List.nil_append, List.cons_append] at N5
    obtain ⟨o1, o2, o3, off5⟩ := off5
    dsimp only at o1 o2 o3
    have off1 : OwnOff fr1 [L' + 1] := fun p hp b hb e => by cases List.mem_singleton.mp hb; exact hLf (e ▸ G.only p hp)
    k_steps
    · rename Gr _ _ _ _ _ _ => G9
      rename Fr _ _ _ _ => F9
      rename News _ _ _ _ => N9
      rename 12 < _ => hgt
      rename @And (@LT.lt _ _ _ _) _ => hlt
      refine hret _ _ _ (Gr.turn G9 F9 N9 (TailOf.sub (by repeat' constructor))) ?_
      exact ⟨_, _, _, _, rfl, gr_new G9 (N9 _ (.head _)).2.2 hlt.2.2.2.2, (N9 _ (.head _)).1.trans (congrArg some (pair_eq rfl (if_pos hgt).symm))⟩
    · refine held ?_
      rename ¬ 12 < _ => hle
      have hle' : placeL n ≤ 12 := Int.not_lt.mp hle
      have hp0 := (place_range n).1
      (show wpAny _ _ (call (Value.ref 156) [Value.int n _, Value.int (placeL n) _]) _ _ _)
      k_dflt (refine' use_int (turned_call _ n (placeL n) _ _ h0 h1 hp0 ?q1) ?k1 ?k2 ?k3 ?k4 ?k5 ?k6 ?k7 ?k8 ?_; (case q1 => omega); (case k1 => k_asm); (case k2 => k_asm); (case k3 => k_asm); (case k4 => k_asm); (case k5 => exact Gr.now (by with_reducible assumption) (by with_reducible assumption) (by with_reducible assumption) (TailOf.sub (by repeat' constructor)) rfl rfl rfl); (case k6 => ktr_room); (case k7 => ktr_units); (case k8 => trivial))
      intro t9 h9 tk9 F9 N9; (try dsimp only); (try k_fold)
      have hr0 := turned_r0 h0 h1 hp0 hle'
      have hr1 := turned_r1 h0 h1 hp0 hle'
      k_steps
      refine held ?_
      k_dflt (refine' use_list (rights_call _ _ _ ?q1 ?q2) ?k1 ?k2 ?k3 ?k4 ?k5 ?k6 ?k7 ?k8 ?_; (case q1 => assumption); (case q2 => assumption); (case k1 => k_asm); (case k2 => k_asm); (case k3 => k_asm); (case k4 => k_asm); (case k5 => exact Gr.now (by with_reducible assumption) (by with_reducible assumption) (by with_reducible assumption) (TailOf.sub (by repeat' constructor)) rfl rfl rfl); (case k6 => ktr_room); (case k7 => ktr_units); (case k8 => trivial))
      intro b77 us77 n77 h77 tk77 F77 N77 A77 L77 I77
      have hl77 := rights_len I77
      have he77 := rights_full I77
      obtain ⟨A78, A77⟩ := A77
      (try dsimp only at A78)
      (repeat (obtain ⟨A78, A77⟩ := A77; (try dsimp only at A78)))
      (try dsimp only)
      (try k_fold)
      k_steps
      refine held ?_
      rename IsRange _ _ _ _ _ _ _ _ => R9
      rename News _ _ _ _ => N9
      rename Fr _ _ _ _ => F9
      rename IntsAre _ (rightsL (turnedL _ _)) => I9
      rename Obj.data _ = Data.cell (some (Value.ref _)) => D9
      revert R9 F9 N9
      (repeat (rename Fr _ _ _ _ => hx; clear hx))
      (repeat (rename News _ _ _ _ => hx; clear hx))
      intro R9 F9 N9
      refine LCt.CompSrcT.range (by rfl) F9 N9 R9 (by first | decide | rfl) (by first | rfl | decide) (by first | size_fits | exact Nat.le_of_ble_eq_true rfl) ?_
      clear R9 F9 N9
      intro g2
      refine Cm.comp_all (csel (rightsL (turnedL n (placeL n)))) trivial ?_ ?_
      · intro i hi ys hJ v I oI C oC D3 m₂ h tk E' hv hC hx F N off ne
        obtain ⟨t9', rfl⟩ := hv
        replace hi : i < 8 := hi
        k_steps
        refine held ?_
        k_dflt (refine' use_places (places_call _) ?k1 ?k2 ?k3 ?k4 ?k5 ?k6 ?k7 ?k8 ?_; (case k1 => k_asm); (case k2 => k_asm); (case k3 => k_asm); (case k4 => k_asm); (case k5 => exact Gr.now (by with_reducible assumption) (by with_reducible assumption) (by with_reducible assumption) (TailOf.sub (by repeat' constructor)) rfl rfl rfl); (case k6 => ktr_room); (case k7 => ktr_units); (case k8 => trivial))
        intro b77 t07 t17 t27 t37 t47 t57 t67 t77 n77 h77 tk77 F77 N77 A77
        (try dsimp only)
        (try k_fold)
        k_steps
        refine held ?_
        rename IntsAre _ (rightsL (turnedL _ _)) => hI9
        refine' item_ints (vs := ?vv) (ns := ?nn) ?q1 ?q2 ?q3 ?q4 ?q5 ?_ ?q6
        (case q2 => exact hI9)
        (case q1 => is_list)
        (case q3 => exact rfl)
        (case q4 => exact (pl_range (by with_reducible assumption)).1)
        (case q5 => exact (pl_range (by with_reducible assumption)).2)
        (case q6 => with_unfolding_all rfl)
        k_whole
        intro t97
        k_steps
        · rename Fr _ _ _ _ => F'
          rename News _ _ _ _ => N'
          exact Cm.TurnEnd.intro F' N' (fun p hp => .tail _ hp) ⟨_, _, rfl, csel_yes (by with_reducible assumption)⟩
        · rename Fr _ _ _ _ => F'
          rename News _ _ _ _ => N'
          exact Cm.TurnEnd.intro F' N' (fun p hp => .tail _ hp) (csel_no (by with_reducible assumption))
      · intro ys hJ
        replace hJ : IntsAre ys (Cm.sel (csel (rightsL (turnedL n (placeL n)))) 8) := hJ
        have hly := sel_len hJ
        have hk0 := csum_range hJ
        intro D6 h6 tk6 F6 N6 off6
        (try dsimp only)
        k_steps
        rename Gr _ _ _ _ _ _ => G9
        rename Fr _ _ _ _ => F9
        rename News _ _ _ _ => N9
        rename @And (@LT.lt _ _ _ _) _ => hlt
        refine hret _ _ _ (Gr.turn G9 F9 N9 (TailOf.sub (by repeat' constructor))) ?_
        exact ⟨_, _, _, _, rfl, gr_new G9 (N9 _ (.head _)).2.2 hlt.2.2.2.2.2.2, (N9 _ (.head _)).1.trans (congrArg some (pair_eq rfl (if_neg hle).symm))⟩
end
end

section
/-- the octets as one number -/
noncomputable def numL (os : List Int) : Int := os.foldl (fun a o => 256 * a + o) 0
/-- the sign's number at place i of M, out of v -/
noncomputable def sixW (M v : Int) (i : Nat) : Int := (v.fdiv (64 ^ (M - 1 - (0 + (i : Int))).toNat)).fmod 64
noncomputable def signsS : Str := Str.ofString "ABCDEFGHIJKLMNOPQRSTUVWXYZabcdefghijklmnopqrstuvwxyz0123456789+/"
noncomputable def writtenN (M : Nat) (v p : Int) : Str := Txt.join (Str.ofString "") ((List.range M).map fun i => Txt.item signsS (sixW M v i)) ++ Txt.mul (Str.ofString "=") p
/-- the octets in sixes, as text -/
noncomputable def writtenL (os : List Int) : Str := match os.length with
  | 0 => writtenN 0 (numL os * 1) 0
  | 1 => writtenN 2 (numL os * 16) 2
  | 2 => writtenN 3 (numL os * 4) 1
  | 3 => writtenN 4 (numL os * 1) 0
  | 4 => writtenN 6 (numL os * 16) 2
  | _ => writtenN 7 (numL os * 4) 1
theorem six_range (M v : Int) (i : Nat) : 0 ≤ sixW M v i ∧ sixW M v i < 64 := by
  unfold sixW
  rw [Int.fmod_eq_emod_of_nonneg _ (by decide)]
  omega
theorem p64 {e : Int} (h : e < 8) : ((64 : Int) ^ e.toNat) ≠ 0 ∧ ((64 : Int) ^ e.toNat).natAbs.log2 < 9000 := by
  have key : ∀ k : Fin 8, ((64 : Int) ^ k.val) ≠ 0 ∧ ((64 : Int) ^ k.val).natAbs.log2 < 9000 := by decide +kernel
  exact key ⟨e.toNat, by omega⟩
theorem sign_len {j : Int} (h0 : 0 ≤ j) (h1 : j < 64) : (Txt.item signsS j).length = 1 := by
  have key : ∀ k : Fin 64, (Txt.item signsS (k.val : Int)).length = 1 := by decide +kernel
  have q := key ⟨j.toNat, by omega⟩
  simp only at q
  rwa [show ((j.toNat : Nat) : Int) = j by omega] at q
theorem signs_64 : ((Str.ofString "ABCDEFGHIJKLMNOPQRSTUVWXYZabcdefghijklmnopqrstuvwxyz0123456789+/").length : Int) = 64 := by decide
theorem signs_hok (M : Nat) (hM : M ≤ 7) (v : Int) : (((List.range M).map fun i => Txt.item signsS (sixW M v i)).map (·.length)).sum + ((List.range M).map fun i => Txt.item signsS (sixW M v i)).length * (Str.ofString "").length ≤ 16777216 := by
  rw [sum_ones _ (by intro c hc; obtain ⟨i, _, rfl⟩ := List.mem_map.mp hc; exact sign_len (six_range _ _ _).1 (six_range _ _ _).2)]
  have e : (Str.ofString "").length = 0 := by decide
  rw [e]
  simp
  omega
theorem signs_len (M : Nat) (hM : M ≤ 7) (v : Int) : (Txt.join (Str.ofString "") ((List.range M).map fun i => Txt.item signsS (sixW M v i))).length ≤ 7 := by
  show (Builtin.Str.glued _ _).length ≤ 7
  rw [StrLaws.glued_eq_join]
  refine Nat.le_trans (StrLaws.join_length_le _ _) ?_
  rw [sum_ones _ (by intro c hc; obtain ⟨i, _, rfl⟩ := List.mem_map.mp hc; exact sign_len (six_range _ _ _).1 (six_range _ _ _).2)]
  have e : (Str.ofString "").length = 0 := by decide
  rw [e]
  simp
  omega
theorem num_snoc (pre : List Int) (n : Int) : numL (pre ++ [n]) = 256 * numL pre + n := by simp [numL, List.foldl_append]
theorem num_range : ∀ (k : Nat) (pre : List Int), pre.length = k → (∀ o ∈ pre, 0 ≤ o ∧ o < 256) → 0 ≤ numL pre ∧ numL pre < 256 ^ k := by
  intro k
  induction k with
  | zero => intro pre hl _; rw [List.length_eq_zero_iff.mp hl]; decide
  | succ k ih =>
    intro pre hl hr
    have e : pre = pre.take k ++ [pre[k]'(by omega)] := by
      rw [List.take_append_getElem]
      exact (List.take_of_length_le (by omega)).symm
    have a := ih (pre.take k) (by rw [List.length_take]; omega) (fun o ho => hr o (List.mem_of_mem_take ho))
    have b := hr (pre[k]'(by omega)) (List.getElem_mem _)
    rw [e, num_snoc, Int.pow_succ]
    omega
theorem num_bound {pre : List Int} (hl : pre.length ≤ 4) (hr : ∀ o ∈ pre, 0 ≤ o ∧ o < 256) : 0 ≤ numL pre ∧ numL pre < 4294967296 := by
  have := num_range pre.length pre rfl hr
  refine ⟨this.1, Int.lt_of_lt_of_le this.2 ?_⟩
  match pre.length, hl with
  | 0, _ | 1, _ | 2, _ | 3, _ | 4, _ => decide
theorem written_par {os : List Int} {c : Nat} (hc : c = os.length) (hl : os.length ≤ 5) : ∃ (M : Nat) (P R : Int), Int.fdiv (4 * (c : Int) + 2) 3 = (M : Int) ∧ (2 : Int) ^ (6 * (M : Int) - 8 * (c : Int)).toNat = P ∧ Int.fmod (-(M : Int)) 4 = R ∧ M ≤ 7 ∧
    0 ≤ 6 * (M : Int) - 8 * (c : Int) ∧ 6 * (M : Int) - 8 * (c : Int) ≤ 4 ∧ 1 ≤ P ∧ P ≤ 16 ∧ 0 ≤ R ∧ R ≤ 2 ∧ writtenL os = writtenN M (numL os * P) R := by
  subst hc
  have e : writtenL os = match os.length with
    | 0 => writtenN 0 (numL os * 1) 0
    | 1 => writtenN 2 (numL os * 16) 2
    | 2 => writtenN 3 (numL os * 4) 1
    | 3 => writtenN 4 (numL os * 1) 0
    | 4 => writtenN 6 (numL os * 16) 2
    | _ => writtenN 7 (numL os * 4) 1 := rfl
  rw [e]
  clear e
  generalize os.length = c at hl ⊢
  match c, hl with
  | 0, _ => exact ⟨0, 1, 0, by decide, by decide, by decide, by decide, by decide, by decide, by decide, by decide, by decide, by decide, rfl⟩
  | 1, _ => exact ⟨2, 16, 2, by decide, by decide, by decide, by decide, by decide, by decide, by decide, by decide, by decide, by decide, rfl⟩
  | 2, _ => exact ⟨3, 4, 1, by decide, by decide, by decide, by decide, by decide, by decide, by decide, by decide, by decide, by decide, rfl⟩
  | 3, _ => exact ⟨4, 1, 0, by decide, by decide, by decide, by decide, by decide, by decide, by decide, by decide, by decide, by decide, rfl⟩
  | 4, _ => exact ⟨6, 16, 2, by decide, by decide, by decide, by decide, by decide, by decide, by decide, by decide, by decide, by decide, rfl⟩
  | 5, _ => exact ⟨7, 4, 1, by decide, by decide, by decide, by decide, by decide, by decide, by decide, by decide, by decide, by decide, rfl⟩
theorem range_upto {M : Nat} (h : M ≤ 7) : Builtin.Range.small 0 (M : Int) 1 = true ∧ Builtin.Range.rangeSize 0 (M : Int) 1 = ((M : Nat) : Int) := by
  have key : ∀ k : Fin 8, Builtin.Range.small 0 (k.val : Int) 1 = true ∧ Builtin.Range.rangeSize 0 (k.val : Int) 1 = ((k.val : Nat) : Int) := by decide +kernel
  exact key ⟨M, by omega⟩
section
variable {prog : Program} {w : World} {A : Around} {E : Value → Shared → Prop} {s : Shared} {Q : Value → Shared → Prop} {x r : Int} {t u : Tok}
theorem floor_many (e : Int.fdiv x 3 = r) (h : Q (.int r s.toks) { s with toks := s.toks + 1 }) (hp : Builtin.divisionGoesByPylong x 3 = false) : wpAny (model prog w) A (binaryOp .FloorDiv (.int x t) (.int 3 u)) Q E s :=
  floordiv_int (by decide) (by rw [e]; exact h) (.inl hp)
theorem pow_many (e : (2 : Int) ^ x.toNat = r) (h0 : 0 ≤ x) (h1 : x ≤ 4) (h : Q (.int r s.toks) { s with toks := s.toks + 1 }) : wpAny (model prog w) A (binaryOp .Pow (.int 2 t) (.int x u)) Q E s :=
  pow_int_small h0 (Int.le_trans h1 (by decide)) (by decide) (by rw [e]; exact h)
end
section
variable {prog : Program} {w : World} {A : Around} {E : Value → Shared → Prop} {s : Shared} {env : Env} {h₀ : Heap} {x : Str} {body : List Stmt} {Q : Flow → Shared → Prop}
noncomputable abbrev wrLed (a1 a2 a3 : Addr) (o1 o3 : Obj) (c : Obj × Tok) : List (Addr × Obj) := [(a1, o1), (a2, c.1), (a3, o3)]
noncomputable abbrev wrJ (a1 a2 a3 : Addr) (o1 o3 : Obj) (x : Str) (m₀ : Str → Option Value) (pre : List Int) : (Str → Option Value) → List (Addr × Obj) → Prop :=
  KstS (wrLed a1 a2 a3 o1 o3) (fun _ => []) (fun _ => True) x [] m₀ (fun pre c => c.1.data = .cell (some (.int (numL pre) c.2))) pre
theorem written_loop {os : List Int} {us : List Value} {l : Addr} {m₀ : Str → Option Value} {a1 a2 a3 : Addr} {o1 o2 o3 : Obj} {t0 : Tok} {news : List (Addr × Obj)} (hh : A.handled = none) (hl : h₀.IsList l us.toArray) (hi : IntsAre us os) (hlen : os.length ≤ 5) (hr : ∀ o ∈ os, 0 ≤ o ∧ o < 256)
    (F : Fr h₀ env.locals s.heap m₀) (N : News h₀ env.locals s.heap news) (h1 : (a1, o1) ∈ news) (h2 : (a2, o2) ∈ news) (h3 : (a3, o3) ∈ news) (hd : o2.data = .cell (some (.int 0 t0)))
    (turn : ∀ (o : Obj) (tc : Tok) (k n : Int) t h tk own (pre : List Int), k = numL pre → 0 ≤ k → k < 4294967296 → 0 ≤ n → n < 256 → OwnOff own [a1, a2, a3] → o.data = .cell (some (.int k tc)) →
      Fr h₀ env.locals h (fun y => if y = x then some (.int n t) else m₀ y) → News h₀ env.locals h ((a1, o1) :: (a2, o) :: (a3, o3) :: own) →
      wpAny (model prog w) A (execs body env) (InvPostN h₀ env.locals (wrJ a1 a2 a3 o1 o3 x m₀ (pre ++ [n])) own [a1, a2, a3] { s with heap := h, toks := tk } Q) E { s with heap := h, toks := tk })
    (done : ∀ (o : Obj) (tc : Tok) (u : Option Value) h tk, o.data = .cell (some (.int (numL os) tc)) →
      Fr h₀ env.locals h (fun y => if y = x then u else m₀ y) → News h₀ env.locals h [(a1, o1), (a2, o), (a3, o3)] → Q .next { s with heap := h, toks := tk }) :
    wpAny (model prog w) A (pyIter (.ref l)) (fun it s₂ => LoopAtV prog w A h₀ env x body Q E it s₂) E s := by
  refine kst_list (σ := Obj × Tok) (wrLed a1 a2 a3 o1 o3) (fun _ => []) (fun _ => True) [] (fun pre c => c.1.data = .cell (some (.int (numL pre) c.2))) (o2, t0) hh hl hi F (fun p hp => ?_) trivial (fun p hp => nomatch hp) hd ?_ ?_
  · rcases List.mem_cons.mp hp with rfl | hp
    · exact N _ h1
    · rcases List.mem_cons.mp hp with rfl | hp
      · exact N _ h2
      · cases List.mem_singleton.mp hp
        exact N _ h3
  · rintro ⟨o, tc⟩ pre post n t u h tk own he hn hoff _ hd F₁ N₁
    have hp : pre.length ≤ 4 := by
      have := congrArg List.length he
      rw [List.length_append, List.length_cons] at this
      omega
    have b := num_bound hp fun o ho => hr o (he ▸ List.mem_append_left _ ho)
    exact turn o tc (numL pre) n t h tk own pre rfl b.1 b.2 (hr n hn).1 (hr n hn).2 hoff hd F₁ N₁
  · rintro ⟨o, tc⟩ u h tk _ hd F₁ N₁
    refine done o tc (u x) h tk hd ?_ N₁
    have e : (fun y => if y = x then u x else m₀ y) = fun y => if y = x then u y else kstB (fun z => if List.contains [] z then u z else m₀ z) [] y := by
      funext y
      by_cases hy : y = x
      · subst hy; simp
      · simp only [if_neg hy]; rfl
    rw [e]; exact F₁
theorem written_close {L : Addr} {a1 a2 a3 : Addr} {o1 o3 o : Obj} {h' : Heap} {tk : Nat} {m₀ m' : Str → Option Value} {own news : List (Addr × Obj)} {k n : Int} {tc : Tok} {pre : List Int} {s₁ : Shared} (F' : Fr h₀ L h' m') (N' : News h₀ L h' news)
    (h1 : (a1, o1) ∈ news) (h2 : (a2, o) ∈ news) (h3 : (a3, o3) ∈ news) (ho : ∀ p ∈ own, p ∈ news) (hr : ∀ z, z ≠ x → m' z = m₀ z) (hk : k = numL pre) (hd : o.data = .cell (some (.int (256 * k + n) tc))) :
    InvEndN h₀ L (wrJ a1 a2 a3 o1 o3 x m₀ (pre ++ [n])) own [a1, a2, a3] s₁ { s₁ with heap := h', toks := tk } := by
  refine InvEndN.intro (nx := wrLed a1 a2 a3 o1 o3 (o, tc)) F' N' ⟨(o, tc), rfl, trivial, (fun p hp => nomatch hp), fun z hz _ _ => hr z hz, ?_⟩ rfl (fun p hp => ?_) ho
  · show o.data = .cell (some (.int (numL (pre ++ [n])) tc))
    rw [num_snoc, ← hk]; exact hd
  · rcases List.mem_cons.mp hp with rfl | hp
    · exact h1
    · rcases List.mem_cons.mp hp with rfl | hp
      · exact h2
      · cases List.mem_singleton.mp hp
        exact h3
end
section
local macro_rules | `(tactic| walk_at "exec For Name Name cons nil") => `(tactic| (k_here; (rename Fr _ _ _ _ => lF'); (with_unfolding_all refine' For_invVF lF' ?k1 ?k2 ?_; (case k1 => exact rfl); (case k2 => exact rfl); k_whole)))
local macro_rules | `(tactic| walk_at "pyIter ref") => `(tactic| ((with_reducible show wpAny _ _ (pyIter (Value.ref _)) (fun it s₂ => LoopAtV _ _ _ _ _ _ _ _ _ it s₂) _ _); refine hold ?_))
local macro_rules | `(tactic| walk_at "CompSrc") => `(tactic| (refine hold ?_))
local macro_rules | `(tactic| walk_at "binaryOp FloorDiv int int") => `(tactic| (k_here; (with_reducible refine floordiv_int (p64 ?q1).1 ?_ (Or.inl (PyProof.noPylong_of_log2 (p64 ?q1).2))); (case q1 => omega)))
local macro_rules | `(tactic| walk_at "binaryOp FloorDiv int int") => `(tactic| (k_here; (with_reducible refine' floor_many ?q1 ?_ ?q2); (case q1 => with_reducible assumption); (case q2 => exact PyProof.noPylong_small (by omega))))
local macro_rules | `(tactic| walk_at "binaryOp Pow int int") => `(tactic| (k_here; (with_reducible refine' pow_many ?q1 ?q2 ?q3 ?_); (case q1 => with_reducible assumption); (case q2 => with_reducible assumption); (case q3 => with_reducible assumption)))
theorem written_call (w : World) (a : Addr) (us : List Value) (os : List Int) (hI : IntsAre us os) (hlen : os.length ≤ 5) (hr : ∀ o ∈ os, 0 ≤ o ∧ o < 256) : Claim 20 w 185 [.ref a] (fun h => h.IsList a us.toArray) (RStr (writtenL os)) := by
  unfold Claim
  k_with_none
  w_top off
  intro mean mg mb dp un gd l base s Q E B X T hdp hun hpre hret
  refine wpAny_call ?_
  k_dflt (refine' enterC (binds := [(Str.ofString "octets", .ref a)]) B X T ?k6 ?k7 ?k8 ?k9 ?kB ?kD ?_ ?c2 ?c3 ?c4; (case k6 => k_is); (case k7 => k_is); (case k8 => ktr_room); (case k9 => first | exact BindsTo.of_eq rfl | exact binds_K X rfl (by k_is) rfl rfl rfl); (case kB => exact rfl); (case kD => decide +kernel); (case c2 => exact rfl); (case c3 => exact rfl); (case c4 => exact rfl); k_whole; intro L' h' tk' cells' F' N' Y' B' X' T'; k_cells Y'; (try simp only [List.cons_append, List.nil_append] at N'); (try dsimp only); (try k_fold))
  clear B X T
  (try dsimp only at hpre)
  k_steps
  refine held ?_
  (with_reducible show wpAny _ _ (pyIter (Value.ref _)) (fun it s₂ => LoopAtV _ _ _ _ _ _ _ _ _ it s₂) _ _)
  rename Fr _ _ _ _ => F9
  rename News _ _ _ _ => N9
  rename Obj.data _ = Data.cell (some (Value.int _ _)) => D9
  rename Obj.data _ = Data.cell (some (Value.str _ _)) => D8
  refine written_loop (a1 := L' + 1) (a2 := L' + 1 + 1) (a3 := L' + 1 + 1 + 1) rfl hpre hI hlen hr F9 N9 (by k_mem) (by k_mem) (by k_mem) D9 ?_ ?_
  · clear F9 N9 D9
    intro o tc k n t h tk own pre hk k0 k1 n0 n1 hoff D9 F9 N9
    k_steps
    rename Fr _ _ _ _ => F'
    rename News _ _ _ _ => N'
    exact written_close F' N' (by k_mem) (by k_mem) (by k_mem) (by (intro p hp; k_ownIn)) (by (intro z h1; first | rfl | (simp [h1]; done) | (simp_all; done))) hk (by with_reducible assumption)
  · clear F9 N9 D9
    intro o tc u h tk D9 F9 N9
    (try dsimp only)
    have hc : us.toArray.size = os.length := by rw [List.size_toArray]; exact hI.length
    have nr := num_range os.length os rfl hr
    have n5 : numL os < 1099511627776 := Int.lt_of_lt_of_le nr.2 (by match os.length, hlen with | 0, _ | 1, _ | 2, _ | 3, _ | 4, _ | 5, _ => decide)
    have n0 := nr.1
    clear nr
    obtain ⟨Mn, P, R, hM, hP, hR4, m7, p0, p4, P0, P1, R0, R1, hres⟩ := written_par hc hlen
    rw [hres] at hret
    have c5 : us.toArray.size ≤ 5 := hc ▸ hlen
    clear hres hc hlen hr hI
    generalize numL os = nn at n0 n5 D9 hret
    k_steps
    refine held ?_
    rename IsRange _ _ _ _ _ _ _ _ => R9
    rename Obj.data _ = Data.cell (some (Value.int (nn * _) _)) => D8
    rename Obj.data _ = Data.cell (some (Value.int (Mn : Int) _)) => D7
    rename News _ _ _ _ => N9
    rename Fr _ _ _ _ => F9
    refine LCg.CompSrc.range (n := Mn) (by rfl) F9 N9 R9 (range_upto m7).1 (range_upto m7).2 (by rw [sizeLine_eq]; omega) ?_
    clear R9 F9 N9
    intro g2
    refine Cm.comp_rel (fun i v => ∃ t, v = .int (sixW Mn (nn * P) i) t) trivial ?_ ?_
    · intro i hi ys hl v I oI C oC D m₂ h tk E' hv hC hx F N off ne
      obtain ⟨t9, rfl⟩ := hv
      k_steps
      rename Fr _ _ _ _ => F'
      rename News _ _ _ _ => N'
      exact Cm.TurnEnd.intro F' N' (fun p hp => hp) ⟨_, rfl⟩
    · intro ys hl hR
      unfold LCg.FinA
      intro D5 h5 tk5 F5 N5 off5
      (try dsimp only)
      k_steps
      refine held ?_
      rename News _ _ _ _ => N9
      rename Fr _ _ _ _ => F9
      refine LCg.CompSrc.ledger rfl F9 N9 (.head _) (by rw [List.size_toArray, hl, sizeLine_eq]; omega) ?_
      clear F9 N9
      intro g3
      rw [List.size_toArray, hl]
      refine Cm.comp_rel (fun i v => ∃ t, v = .str (Txt.item signsS (sixW Mn (nn * P) i)) t) (.inr ⟨_, .head _, rfl, _, rfl⟩) ?_ ?_
      · intro i hi ys' hl' v I oI C oC D m₂ h tk E' hv hC hx F N off ne
        obtain ⟨t9, rfl⟩ := hR i v (by simpa using hv)
        have s0 := six_range Mn (nn * P) i
        obtain ⟨s0, s1⟩ := s0
        generalize hsix : sixW Mn (nn * P) i = six at hv hx s0 s1
        have s64 := signs_64
        k_steps
        rename Fr _ _ _ _ => F'
        rename News _ _ _ _ => N'
        exact Cm.TurnEnd.intro F' N' (fun p hp => hp) ⟨_, rfl⟩
      · intro zs hz hZ
        have hS := strs_of hz hZ
        have hX := signs_len Mn m7 (nn * P)
        intro D6 h6 tk6 F6 N6 off6
        (try dsimp only)
        k_steps
        refine join_is (News.isList N6 (.head _)) (by simpa using hS) (signs_hok Mn m7 (nn * P)) rfl ?_
        intro t3' k3'
        generalize hXe : Txt.join (Str.ofString "") ((List.range Mn).map fun i => Txt.item signsS (sixW (Mn : Int) (nn * P) i)) = X at hX
        k_steps
        exact hret _ _ _ (Fr.keep (by k_asm)) ⟨_, by subst hXe; subst hR4; rfl⟩
end
end

section
namespace Pl
open Bt
/-- the octet that stands in the rights -/
noncomputable def dataL (n : Int) : Int := bI n 9 + 2 * bI n 7 + 4 * bI n 6 + 8 * bI n 5 + 16 * bI n 3 + 32 * bI n 2 + 64 * bI n 1 + 128 * bI n 0
theorem csel_sum {rs : List Int} {i : Nat} {x : Int} (e : rs.getD (placesL.getD i 0 - 1).toNat 0 = x) (h : x = 0 ∨ x = 1) : ((csel rs i).toList).sum = 2 ^ i * x := by
  unfold csel
  rw [e]
  rcases h with rfl | rfl <;> simp
theorem b01 (n : Int) (j : Nat) : bI n j = 0 ∨ bI n j = 1 := by
  have := bI_nn n j; have := bI_le n j; omega
theorem data_sum (n : Int) : (Cm.sel (csel (rightsL n)) 8).sum = dataL n := by
  simp only [Cm.sel_succ, List.sum_append]
  rw [csel_sum (i := 0) (x := bI n 9) rfl (b01 _ _), csel_sum (i := 1) (x := bI n 7) rfl (b01 _ _), csel_sum (i := 2) (x := bI n 6) rfl (b01 _ _), csel_sum (i := 3) (x := bI n 5) rfl (b01 _ _),
    csel_sum (i := 4) (x := bI n 3) rfl (b01 _ _), csel_sum (i := 5) (x := bI n 2) rfl (b01 _ _), csel_sum (i := 6) (x := bI n 1) rfl (b01 _ _), csel_sum (i := 7) (x := bI n 0) rfl (b01 _ _)]
  have e : (Cm.sel (csel (rightsL n)) 0).sum = 0 := rfl
  rw [e]
  unfold dataL
  (try generalize bI n 0 = c0); (try generalize bI n 1 = c1); (try generalize bI n 2 = c2); (try generalize bI n 3 = c3); (try generalize bI n 4 = c4); (try generalize bI n 5 = c5); (try generalize bI n 6 = c6); (try generalize bI n 7 = c7); (try generalize bI n 8 = c8); (try generalize bI n 9 = c9); (try generalize bI n 10 = c10); (try generalize bI n 11 = c11)
  omega
theorem turned_nat {n p : Int} (h0 : 0 ≤ n) (hp : p ≠ 0) : turnedL n p = ((n.toNat ^^^ 2 ^ (12 - p).toNat : Nat) : Int) := by
  rw [turnedL, if_neg hp, bitXor_pp h0 (Int.pow_nonneg (by decide))]
  congr 2
theorem turned_range {n p : Int} (h0 : 0 ≤ n) (h1 : n < 65536) (hp0 : 0 ≤ p) (hp1 : p < 13) : 0 ≤ turnedL n p ∧ turnedL n p < 65536 := by
  by_cases hp : p = 0
  · rw [turnedL, if_pos hp]; exact ⟨h0, h1⟩
  · rw [turned_nat h0 hp]
    have : n.toNat ^^^ 2 ^ (12 - p).toNat < 2 ^ 16 := Nat.xor_lt_two_pow (by omega) (Nat.pow_lt_pow_right (by decide) (by omega))
    omega
theorem upto13 {P : Int → Prop} (h : ∀ k : Fin 13, P (k.val : Int)) {p : Int} (h0 : 0 ≤ p) (h1 : p < 13) : P p := by
  have e : ((p.toNat : Nat) : Int) = p := Int.toNat_of_nonneg h0
  have q := h ⟨p.toNat, Int.toNat_lt h0 |>.mpr h1⟩
  simp only at q
  rwa [e] at q
/-- bit j as a truth -/
noncomputable def bB (n : Int) (j : Nat) : Bool := n.toNat.testBit j
theorem bB_turned {n p : Int} (h0 : 0 ≤ n) (hp0 : 0 ≤ p) (hp1 : p < 13) (j : Nat) (hj : j < 12) : bB (turnedL n p) j = (bB n j ^^ decide ((12 - p).toNat = j)) := by
  by_cases hp : p = 0
  · subst hp
    have : decide ((12 - (0 : Int)).toNat = j) = false := decide_eq_false (show ¬ (12 = j) by omega)
    rw [this, Bool.xor_false]
    rfl
  · rw [turned_nat h0 hp]
    unfold bB
    rw [Int.toNat_natCast, Nat.testBit_xor, Nat.testBit_two_pow]
noncomputable def tn (b : Bool) : Int := ((b.toNat : Nat) : Int)
noncomputable def par6 (a b c d e f : Bool) : Int := (tn a + (tn b + (tn c + (tn d + (tn e + (tn f + 0)))))) % 2
noncomputable def par5 (a b c d e : Bool) : Int := (tn a + (tn b + (tn c + (tn d + (tn e + 0))))) % 2
theorem ask1 (n : Int) : askL n 1 = par6 (bB n 11) (bB n 9) (bB n 7) (bB n 5) (bB n 3) (bB n 1) := by unfold askL; rw [sel1]; rfl
theorem ask2 (n : Int) : askL n 2 = par6 (bB n 10) (bB n 9) (bB n 6) (bB n 5) (bB n 2) (bB n 1) := by unfold askL; rw [sel2]; rfl
theorem ask4 (n : Int) : askL n 4 = par5 (bB n 8) (bB n 7) (bB n 6) (bB n 5) (bB n 0) := by unfold askL; rw [sel4]; rfl
theorem ask8 (n : Int) : askL n 8 = par5 (bB n 4) (bB n 3) (bB n 2) (bB n 1) (bB n 0) := by unfold askL; rw [sel8]; rfl
noncomputable def tu (p : Int) (b : Bool) (j : Nat) : Bool := b ^^ decide ((12 - p).toNat = j)
theorem par_1 : ∀ p : Fin 13, ∀ a b c d e f : Bool, par6 (tu (p.val : Int) a 11) (tu (p.val : Int) b 9) (tu (p.val : Int) c 7) (tu (p.val : Int) d 5) (tu (p.val : Int) e 3) (tu (p.val : Int) f 1) = (par6 a b c d e f + (p.val : Int)) % 2 := by decide +kernel
theorem par_2 : ∀ p : Fin 13, ∀ a b c d e f : Bool, par6 (tu (p.val : Int) a 10) (tu (p.val : Int) b 9) (tu (p.val : Int) c 6) (tu (p.val : Int) d 5) (tu (p.val : Int) e 2) (tu (p.val : Int) f 1) = (par6 a b c d e f + (p.val : Int) / 2) % 2 := by decide +kernel
theorem par_4 : ∀ p : Fin 13, ∀ a b c d e : Bool, par5 (tu (p.val : Int) a 8) (tu (p.val : Int) b 7) (tu (p.val : Int) c 6) (tu (p.val : Int) d 5) (tu (p.val : Int) e 0) = (par5 a b c d e + (p.val : Int) / 4) % 2 := by decide +kernel
theorem par_8 : ∀ p : Fin 13, ∀ a b c d e : Bool, par5 (tu (p.val : Int) a 4) (tu (p.val : Int) b 3) (tu (p.val : Int) c 2) (tu (p.val : Int) d 1) (tu (p.val : Int) e 0) = (par5 a b c d e + (p.val : Int) / 8) % 2 := by decide +kernel
theorem ask_turned {n p : Int} (h0 : 0 ≤ n) (hp0 : 0 ≤ p) (hp1 : p < 13) :
    askL (turnedL n p) 1 = (askL n 1 + p) % 2 ∧ askL (turnedL n p) 2 = (askL n 2 + p / 2) % 2 ∧ askL (turnedL n p) 4 = (askL n 4 + p / 4) % 2 ∧ askL (turnedL n p) 8 = (askL n 8 + p / 8) % 2 := by
  have t := bB_turned h0 hp0 hp1
  simp only [ask1, ask2, ask4, ask8]
  simp (config := { decide := true }) only [t 0, t 1, t 2, t 3, t 4, t 5, t 6, t 7, t 8, t 9, t 10, t 11]
  exact ⟨upto13 (P := fun p => ∀ a b c d e f : Bool, par6 (tu p a 11) (tu p b 9) (tu p c 7) (tu p d 5) (tu p e 3) (tu p f 1) = (par6 a b c d e f + p) % 2) par_1 hp0 hp1 _ _ _ _ _ _,
    upto13 (P := fun p => ∀ a b c d e f : Bool, par6 (tu p a 10) (tu p b 9) (tu p c 6) (tu p d 5) (tu p e 2) (tu p f 1) = (par6 a b c d e f + p / 2) % 2) par_2 hp0 hp1 _ _ _ _ _ _,
    upto13 (P := fun p => ∀ a b c d e : Bool, par5 (tu p a 8) (tu p b 7) (tu p c 6) (tu p d 5) (tu p e 0) = (par5 a b c d e + p / 4) % 2) par_4 hp0 hp1 _ _ _ _ _,
    upto13 (P := fun p => ∀ a b c d e : Bool, par5 (tu p a 4) (tu p b 3) (tu p c 2) (tu p d 1) (tu p e 0) = (par5 a b c d e + p / 8) % 2) par_8 hp0 hp1 _ _ _ _ _⟩
noncomputable def form8 (b0 b1 b2 b3 b4 b5 b6 b7 : Bool) : Int := ((b0.toNat : Nat) : Int) + 2 * ((b1.toNat : Nat) : Int) + 4 * ((b2.toNat : Nat) : Int) + 8 * ((b3.toNat : Nat) : Int) + 16 * ((b4.toNat : Nat) : Int) + 32 * ((b5.toNat : Nat) : Int) + 64 * ((b6.toNat : Nat) : Int) + 128 * ((b7.toNat : Nat) : Int)
theorem data_form (n : Int) : dataL n = form8 (bB n 9) (bB n 7) (bB n 6) (bB n 5) (bB n 3) (bB n 2) (bB n 1) (bB n 0) := rfl
theorem form_xor : ∀ p : Fin 13, ∀ a b c d e f g h : Bool,
    form8 (tu (p.val : Int) a 9) (tu (p.val : Int) b 7) (tu (p.val : Int) c 6) (tu (p.val : Int) d 5) (tu (p.val : Int) e 3) (tu (p.val : Int) f 2) (tu (p.val : Int) g 1) (tu (p.val : Int) h 0) = Builtin.bitXor (form8 a b c d e f g h) (weightL (p.val : Int)) := by decide +kernel
theorem data_turned {n p : Int} (h0 : 0 ≤ n) (hp0 : 0 ≤ p) (hp1 : p < 13) : dataL (turnedL n p) = Builtin.bitXor (dataL n) (weightL p) := by
  have t := bB_turned h0 hp0 hp1
  simp only [data_form]
  simp (config := { decide := true }) only [t 0, t 1, t 2, t 3, t 5, t 6, t 7, t 9]
  exact upto13 (P := fun p => ∀ a b c d e f g h : Bool, form8 (tu p a 9) (tu p b 7) (tu p c 6) (tu p d 5) (tu p e 3) (tu p f 2) (tu p g 1) (tu p h 0) = Builtin.bitXor (form8 a b c d e f g h) (weightL p)) form_xor hp0 hp1 _ _ _ _ _ _ _ _
/-- the octet's word: what the rights weigh -/
noncomputable def wordSum (o : Int) : Int := ((wordL o).map fun p => 2 ^ (12 - p).toNat).sum
theorem upto256 {P : Int → Prop} (h : ∀ k : Fin 256, P (k.val : Int)) {o : Int} (h0 : 0 ≤ o) (h1 : o < 256) : P o := by
  have := h ⟨o.toNat, by omega⟩
  rwa [show ((⟨o.toNat, by omega⟩ : Fin 256).val : Int) = o by simp; omega] at this
theorem word_table : ∀ k : Fin 256, 0 ≤ wordSum (k.val : Int) ∧ wordSum (k.val : Int) < 4096 ∧ dataL (wordSum (k.val : Int)) = (k.val : Int) ∧ askL (wordSum (k.val : Int)) 1 = 0 ∧ askL (wordSum (k.val : Int)) 2 = 0 ∧ askL (wordSum (k.val : Int)) 4 = 0 ∧ askL (wordSum (k.val : Int)) 8 = 0 := by decide +kernel
theorem word_places : ∀ k : Fin 256, ∀ p ∈ wordL (k.val : Int), 1 ≤ p ∧ p ≤ 12 := by decide +kernel
theorem word_len : ∀ k : Fin 256, (wordL (k.val : Int)).length ≤ 12 := by decide +kernel
theorem bB_kind {k m : Int} (hk : 0 ≤ k) (hm0 : 0 ≤ m) (hm1 : m < 4096) {j : Nat} (hj : j < 12) : bB (4096 * k + m) j = bB m j := by
  unfold bB
  have e : (4096 * k + m).toNat = 2 ^ 12 * k.toNat + m.toNat := by omega
  rw [e, Nat.testBit_two_pow_mul_add _ (by omega), if_pos hj]
theorem ask_kind {k m : Int} (hk : 0 ≤ k) (hm0 : 0 ≤ m) (hm1 : m < 4096) : askL (4096 * k + m) 1 = askL m 1 ∧ askL (4096 * k + m) 2 = askL m 2 ∧ askL (4096 * k + m) 4 = askL m 4 ∧ askL (4096 * k + m) 8 = askL m 8 ∧ dataL (4096 * k + m) = dataL m := by
  have b := fun j (hj : j < 12) => bB_kind hk hm0 hm1 hj
  simp only [ask1, ask2, ask4, ask8, data_form]
  simp (config := { decide := true }) only [b 0, b 1, b 2, b 3, b 4, b 5, b 6, b 7, b 8, b 9, b 10, b 11, and_self]
theorem xor_places : ∀ a b : Fin 13, (((a.val : Int) % 2 + (b.val : Int)) % 2) + 2 * (((a.val : Int) / 2 % 2 + (b.val : Int) / 2) % 2) + 4 * (((a.val : Int) / 4 % 2 + (b.val : Int) / 4) % 2) + 8 * (((a.val : Int) / 8 % 2 + (b.val : Int) / 8) % 2) = Builtin.bitXor (a.val : Int) (b.val : Int) := by decide +kernel
theorem xor13 {a b : Int} (ha0 : 0 ≤ a) (ha1 : a < 13) (hb0 : 0 ≤ b) (hb1 : b < 13) : ((a % 2 + b) % 2) + 2 * ((a / 2 % 2 + b / 2) % 2) + 4 * ((a / 4 % 2 + b / 4) % 2) + 8 * ((a / 8 % 2 + b / 8) % 2) = Builtin.bitXor a b := by
  have ea : ((a.toNat : Nat) : Int) = a := by omega
  have eb : ((b.toNat : Nat) : Int) = b := by omega
  have q := xor_places ⟨a.toNat, by omega⟩ ⟨b.toNat, by omega⟩
  simp only at q
  rwa [ea, eb] at q
/-- the mode that is heard -/
noncomputable def modeL (k o f g : Int) : Int := turnedL (turnedL (4096 * k + wordSum o) f) g
noncomputable def dueL (o f g : Int) : Int := if Builtin.bitXor f g < 13 then Builtin.bitXor (Builtin.bitXor (Builtin.bitXor o (weightL f)) (weightL g)) (weightL (Builtin.bitXor f g)) else 256
section
variable {k o f g : Int} (k0 : 0 ≤ k) (k1 : k < 16) (o0 : 0 ≤ o) (o1 : o < 256) (f0 : 0 ≤ f) (f1 : f < 13) (g0 : 0 ≤ g) (g1 : g < 13)
include k0 k1 o0 o1
theorem base_range : 0 ≤ 4096 * k + wordSum o ∧ 4096 * k + wordSum o < 65536 := by
  have q := upto256 (P := fun k => 0 ≤ wordSum k ∧ wordSum k < 4096 ∧ dataL (wordSum k) = k ∧ askL (wordSum k) 1 = 0 ∧ askL (wordSum k) 2 = 0 ∧ askL (wordSum k) 4 = 0 ∧ askL (wordSum k) 8 = 0) word_table o0 o1
  have a := q.1
  have b := q.2.1
  clear q
  generalize wordSum o = x at a b
  omega
theorem base_facts : askL (4096 * k + wordSum o) 1 = 0 ∧ askL (4096 * k + wordSum o) 2 = 0 ∧ askL (4096 * k + wordSum o) 4 = 0 ∧ askL (4096 * k + wordSum o) 8 = 0 ∧ dataL (4096 * k + wordSum o) = o := by
  obtain ⟨a, b, c, d, e, f, g⟩ := upto256 (P := fun k => 0 ≤ wordSum k ∧ wordSum k < 4096 ∧ dataL (wordSum k) = k ∧ askL (wordSum k) 1 = 0 ∧ askL (wordSum k) 2 = 0 ∧ askL (wordSum k) 4 = 0 ∧ askL (wordSum k) 8 = 0) word_table o0 o1
  obtain ⟨q1, q2, q3, q4, q5⟩ := ask_kind k0 a b
  exact ⟨q1.trans d, q2.trans e, q3.trans f, q4.trans g, q5.trans c⟩
include f0 f1
theorem mid_range : 0 ≤ turnedL (4096 * k + wordSum o) f ∧ turnedL (4096 * k + wordSum o) f < 65536 :=
  turned_range (base_range k0 k1 o0 o1).1 (base_range k0 k1 o0 o1).2 f0 f1
include g0 g1
theorem mode_range : 0 ≤ modeL k o f g ∧ modeL k o f g < 65536 :=
  turned_range (mid_range k0 k1 o0 o1 f0 f1).1 (mid_range k0 k1 o0 o1 f0 f1).2 g0 g1
theorem mode_place : placeL (modeL k o f g) = Builtin.bitXor f g := by
  obtain ⟨a1, a2, a4, a8, _⟩ := base_facts k0 k1 o0 o1
  obtain ⟨p1, p2, p4, p8⟩ := ask_turned (base_range k0 k1 o0 o1).1 f0 f1
  obtain ⟨r1, r2, r4, r8⟩ := ask_turned (mid_range k0 k1 o0 o1 f0 f1).1 g0 g1
  rw [← xor13 f0 f1 g0 g1]
  unfold placeL modeL
  rw [r1, r2, r4, r8, p1, p2, p4, p8, a1, a2, a4, a8]
  simp only [Int.zero_add]
theorem mode_data : dataL (modeL k o f g) = Builtin.bitXor (Builtin.bitXor o (weightL f)) (weightL g) := by
  unfold modeL
  rw [data_turned (mid_range k0 k1 o0 o1 f0 f1).1 g0 g1, data_turned (base_range k0 k1 o0 o1).1 f0 f1, (base_facts k0 k1 o0 o1).2.2.2.2]
theorem mode_came : cameL (modeL k o f g) = dueL o f g := by
  have e := mode_place k0 k1 o0 o1 f0 f1 g0 g1
  have r := place_range (modeL k o f g)
  have d := mode_data k0 k1 o0 o1 f0 f1 g0 g1
  have m := mode_range k0 k1 o0 o1 f0 f1 g0 g1
  unfold cameL dueL
  rw [e] at r ⊢
  generalize Builtin.bitXor f g = x at r
  by_cases h : x < 13
  · rw [if_pos h, if_neg (Int.not_lt.mpr (Int.le_of_lt_add_one h)), data_sum, data_turned m.1 r.1 h, d]
  · rw [if_neg h, if_pos (Int.lt_of_lt_of_le (by decide) (Int.not_lt.mp h))]
omit k0 k1 o0 o1 f0 f1 g0 g1 in
theorem xor_256 {a b : Int} (a0 : 0 ≤ a) (a1 : a < 256) (b0 : 0 ≤ b) (b1 : b < 256) : 0 ≤ Builtin.bitXor a b ∧ Builtin.bitXor a b < 256 := by
  rw [bitXor_pp a0 b0]
  have : a.toNat ^^^ b.toNat < 2 ^ 8 := Nat.xor_lt_two_pow (by omega) (by omega)
  omega
end
theorem weight_range {p : Int} (h0 : 0 ≤ p) (h1 : p < 13) : 0 ≤ weightL p ∧ weightL p < 256 :=
  upto13 (P := fun p => 0 ≤ weightL p ∧ weightL p < 256) (by decide +kernel) h0 h1
end Pl
end

section
namespace Pl
/-- a text's signs, as numbers -/
noncomputable def codesL (x : Str) : List Int := x.cps.toList.map fun (c : Nat) => (c : Int)
theorem six_eq {M v : Int} {i : Nat} (k : Nat) (d : Int) (hk : (M - 1 - (0 + (i : Int))).toNat = k) (hd : (64 : Int) ^ k = d) (h0 : 0 ≤ d) : sixW M v i = v / d % 64 := by
  unfold sixW
  rw [hk, hd, Int.fmod_eq_emod_of_nonneg _ (by decide), Int.fdiv_eq_ediv_of_nonneg _ h0]
theorem sign_at {j : Int} (h0 : 0 ≤ j) (h1 : j < 64) : Txt.item signsS j = ⟨#[(T64 j).toNat]⟩ := by
  have key : ∀ k : Fin 64, Txt.item signsS (k.val : Int) = ⟨#[(T64 (k.val : Int)).toNat]⟩ := by decide +kernel
  have e : ((j.toNat : Nat) : Int) = j := by omega
  have q := key ⟨j.toNat, by omega⟩
  simp only at q
  rwa [e] at q
theorem t64_ascii (j : Int) : 0 ≤ T64 j ∧ T64 j < 128 := by
  unfold T64
  have key : ∀ x ∈ b64tab, x.toNat < 128 := by decide +kernel
  have q : (b64tab.getD j.toNat 0).toNat < 128 := by
    rw [List.getD_eq_getElem?_getD]
    cases h : b64tab[j.toNat]? with
    | none => decide
    | some c => exact key c (List.mem_of_getElem? h)
  omega
theorem code_cast (j : Int) : (((T64 j).toNat : Nat) : Int) = T64 j := Int.toNat_of_nonneg (t64_ascii j).1
theorem big1 {n u : Int} {d : Int} : (256 * n + u) * 16 / (4096 * d) % 64 = ((256 * n + u) * 16 / 4096) / d % 64 := by rw [Int.ediv_ediv_of_nonneg (by decide)]
theorem cut1 {n u : Int} (u0 : 0 ≤ u) (u1 : u < 256) : (256 * n + u) * 16 / 4096 = n := by omega
theorem one_a {n u : Int} (u0 : 0 ≤ u) (u1 : u < 256) : (256 * n + u) * 16 / 64 % 64 = u / 4 := by omega
theorem one_b {n u : Int} : (256 * n + u) * 16 / 1 % 64 = u % 4 * 16 := by omega
theorem cut2 {n u v : Int} (u0 : 0 ≤ u) (u1 : u < 256) (v0 : 0 ≤ v) (v1 : v < 256) : (256 * (256 * n + u) + v) * 4 / 262144 = n := by omega
theorem two_a {n u v : Int} (u0 : 0 ≤ u) (u1 : u < 256) (v0 : 0 ≤ v) (v1 : v < 256) : (256 * (256 * n + u) + v) * 4 / 4096 % 64 = u / 4 := by omega
theorem two_b {n u v : Int} (v0 : 0 ≤ v) (v1 : v < 256) : (256 * (256 * n + u) + v) * 4 / 64 % 64 = u % 4 * 16 + v / 16 := by omega
theorem two_c {n u v : Int} : (256 * (256 * n + u) + v) * 4 / 1 % 64 = v % 16 * 4 := by omega
theorem thr_a {n x y z : Int} (x0 : 0 ≤ x) (x1 : x < 256) (y0 : 0 ≤ y) (y1 : y < 256) (z0 : 0 ≤ z) (z1 : z < 256) : (256 * (256 * (256 * n + x) + y) + z) * 1 / 262144 % 64 = x / 4 := by omega
theorem thr_b {n x y z : Int} (y0 : 0 ≤ y) (y1 : y < 256) (z0 : 0 ≤ z) (z1 : z < 256) : (256 * (256 * (256 * n + x) + y) + z) * 1 / 4096 % 64 = x % 4 * 16 + y / 16 := by omega
theorem thr_c {n x y z : Int} (z0 : 0 ≤ z) (z1 : z < 256) : (256 * (256 * (256 * n + x) + y) + z) * 1 / 64 % 64 = y % 16 * 4 + z / 64 := by omega
theorem thr_d {n x y z : Int} : (256 * (256 * (256 * n + x) + y) + z) * 1 / 1 % 64 = z % 64 := by omega
theorem up1 {n u d r : Int} (u0 : 0 ≤ u) (u1 : u < 256) (h : n * 1 / d % 64 = r) : (256 * n + u) * 16 / (4096 * d) % 64 = r := by
  rw [big1, cut1 u0 u1]; rwa [Int.mul_one] at h
theorem up2 {n u v d r : Int} (u0 : 0 ≤ u) (u1 : u < 256) (v0 : 0 ≤ v) (v1 : v < 256) (h : n * 1 / d % 64 = r) : (256 * (256 * n + u) + v) * 4 / (262144 * d) % 64 = r := by
  rw [← Int.ediv_ediv_of_nonneg (by decide), cut2 u0 u1 v0 v1]; rwa [Int.mul_one] at h
theorem sg (j : Int) {x : Int} (e : x = j) (h0 : 0 ≤ j) (h1 : j < 64) : Txt.item signsS x = ⟨#[(T64 j).toNat]⟩ := by rw [e]; exact sign_at h0 h1
theorem r_a {x : Int} (x0 : 0 ≤ x) (x1 : x < 256) : 0 ≤ x / 4 ∧ x / 4 < 64 := by omega
theorem r_b {x y : Int} (y0 : 0 ≤ y) (y1 : y < 256) : 0 ≤ x % 4 * 16 + y / 16 ∧ x % 4 * 16 + y / 16 < 64 := by omega
theorem r_b0 {x : Int} : 0 ≤ x % 4 * 16 ∧ x % 4 * 16 < 64 := by omega
theorem r_c {y z : Int} (z0 : 0 ≤ z) (z1 : z < 256) : 0 ≤ y % 16 * 4 + z / 64 ∧ y % 16 * 4 + z / 64 < 64 := by omega
theorem r_c0 {y : Int} : 0 ≤ y % 16 * 4 ∧ y % 16 * 4 < 64 := by omega
theorem r_d {z : Int} : 0 ≤ z % 64 ∧ z % 64 < 64 := by omega
theorem enc0 : codesL (writtenN 0 (numL [] * 1) 0) = encL [] := by
  decide +kernel
theorem enc1 {x : Int} (x0 : 0 ≤ x) (x1 : x < 256) : codesL (writtenN 2 (numL [x] * 16) 2) = encL [x] := by
  show codesL (Txt.join (Str.ofString "") [Txt.item signsS (sixW ((2 : Nat) : Int) ((256 * 0 + x) * 16) 0), Txt.item signsS (sixW ((2 : Nat) : Int) ((256 * 0 + x) * 16) 1)] ++ Txt.mul (Str.ofString "=") 2) = _
  rw [sg (x / 4) (x := sixW ((2 : Nat) : Int) ((256 * 0 + x) * 16) 0) ((six_eq 1 (64) rfl (by decide) (by decide)).trans (one_a x0 x1)) (r_a x0 x1).1 (r_a x0 x1).2]
  rw [sg (x % 4 * 16) (x := sixW ((2 : Nat) : Int) ((256 * 0 + x) * 16) 1) ((six_eq 0 (1) rfl (by decide) (by decide)).trans (one_b)) (r_b0).1 (r_b0).2]
  show [(((T64 (x / 4)).toNat : Nat) : Int), (((T64 (x % 4 * 16)).toNat : Nat) : Int), ((61 : Nat) : Int), ((61 : Nat) : Int)] = _
  rw [code_cast (x / 4), code_cast (x % 4 * 16)]
  rfl
theorem enc2 {x y : Int} (x0 : 0 ≤ x) (x1 : x < 256) (y0 : 0 ≤ y) (y1 : y < 256) : codesL (writtenN 3 (numL [x, y] * 4) 1) = encL [x, y] := by
  show codesL (Txt.join (Str.ofString "") [Txt.item signsS (sixW ((3 : Nat) : Int) ((256 * (256 * 0 + x) + y) * 4) 0), Txt.item signsS (sixW ((3 : Nat) : Int) ((256 * (256 * 0 + x) + y) * 4) 1), Txt.item signsS (sixW ((3 : Nat) : Int) ((256 * (256 * 0 + x) + y) * 4) 2)] ++ Txt.mul (Str.ofString "=") 1) = _
  rw [sg (x / 4) (x := sixW ((3 : Nat) : Int) ((256 * (256 * 0 + x) + y) * 4) 0) ((six_eq 2 (4096) rfl (by decide) (by decide)).trans (two_a x0 x1 y0 y1)) (r_a x0 x1).1 (r_a x0 x1).2]
  rw [sg (x % 4 * 16 + y / 16) (x := sixW ((3 : Nat) : Int) ((256 * (256 * 0 + x) + y) * 4) 1) ((six_eq 1 (64) rfl (by decide) (by decide)).trans (two_b y0 y1)) (r_b y0 y1).1 (r_b y0 y1).2]
  rw [sg (y % 16 * 4) (x := sixW ((3 : Nat) : Int) ((256 * (256 * 0 + x) + y) * 4) 2) ((six_eq 0 (1) rfl (by decide) (by decide)).trans (two_c)) (r_c0).1 (r_c0).2]
  show [(((T64 (x / 4)).toNat : Nat) : Int), (((T64 (x % 4 * 16 + y / 16)).toNat : Nat) : Int), (((T64 (y % 16 * 4)).toNat : Nat) : Int), ((61 : Nat) : Int)] = _
  rw [code_cast (x / 4), code_cast (x % 4 * 16 + y / 16), code_cast (y % 16 * 4)]
  rfl
theorem enc3 {x y z : Int} (x0 : 0 ≤ x) (x1 : x < 256) (y0 : 0 ≤ y) (y1 : y < 256) (z0 : 0 ≤ z) (z1 : z < 256) : codesL (writtenN 4 (numL [x, y, z] * 1) 0) = encL [x, y, z] := by
  show codesL (Txt.join (Str.ofString "") [Txt.item signsS (sixW ((4 : Nat) : Int) ((256 * (256 * (256 * 0 + x) + y) + z) * 1) 0), Txt.item signsS (sixW ((4 : Nat) : Int) ((256 * (256 * (256 * 0 + x) + y) + z) * 1) 1), Txt.item signsS (sixW ((4 : Nat) : Int) ((256 * (256 * (256 * 0 + x) + y) + z) * 1) 2), Txt.item signsS (sixW ((4 : Nat) : Int) ((256 * (256 * (256 * 0 + x) + y) + z) * 1) 3)] ++ Txt.mul (Str.ofString "=") 0) = _
  rw [sg (x / 4) (x := sixW ((4 : Nat) : Int) ((256 * (256 * (256 * 0 + x) + y) + z) * 1) 0) ((six_eq 3 (262144) rfl (by decide) (by decide)).trans (thr_a x0 x1 y0 y1 z0 z1)) (r_a x0 x1).1 (r_a x0 x1).2]
  rw [sg (x % 4 * 16 + y / 16) (x := sixW ((4 : Nat) : Int) ((256 * (256 * (256 * 0 + x) + y) + z) * 1) 1) ((six_eq 2 (4096) rfl (by decide) (by decide)).trans (thr_b y0 y1 z0 z1)) (r_b y0 y1).1 (r_b y0 y1).2]
  rw [sg (y % 16 * 4 + z / 64) (x := sixW ((4 : Nat) : Int) ((256 * (256 * (256 * 0 + x) + y) + z) * 1) 2) ((six_eq 1 (64) rfl (by decide) (by decide)).trans (thr_c z0 z1)) (r_c z0 z1).1 (r_c z0 z1).2]
  rw [sg (z % 64) (x := sixW ((4 : Nat) : Int) ((256 * (256 * (256 * 0 + x) + y) + z) * 1) 3) ((six_eq 0 (1) rfl (by decide) (by decide)).trans (thr_d)) (r_d).1 (r_d).2]
  show [(((T64 (x / 4)).toNat : Nat) : Int), (((T64 (x % 4 * 16 + y / 16)).toNat : Nat) : Int), (((T64 (y % 16 * 4 + z / 64)).toNat : Nat) : Int), (((T64 (z % 64)).toNat : Nat) : Int)] = _
  rw [code_cast (x / 4), code_cast (x % 4 * 16 + y / 16), code_cast (y % 16 * 4 + z / 64), code_cast (z % 64)]
  simp [encL, outL]
theorem enc4 {x y z u : Int} (x0 : 0 ≤ x) (x1 : x < 256) (y0 : 0 ≤ y) (y1 : y < 256) (z0 : 0 ≤ z) (z1 : z < 256) (u0 : 0 ≤ u) (u1 : u < 256) : codesL (writtenN 6 (numL [x, y, z, u] * 16) 2) = encL [x, y, z, u] := by
  show codesL (Txt.join (Str.ofString "") [Txt.item signsS (sixW ((6 : Nat) : Int) ((256 * (256 * (256 * (256 * 0 + x) + y) + z) + u) * 16) 0), Txt.item signsS (sixW ((6 : Nat) : Int) ((256 * (256 * (256 * (256 * 0 + x) + y) + z) + u) * 16) 1), Txt.item signsS (sixW ((6 : Nat) : Int) ((256 * (256 * (256 * (256 * 0 + x) + y) + z) + u) * 16) 2), Txt.item signsS (sixW ((6 : Nat) : Int) ((256 * (256 * (256 * (256 * 0 + x) + y) + z) + u) * 16) 3), Txt.item signsS (sixW ((6 : Nat) : Int) ((256 * (256 * (256 * (256 * 0 + x) + y) + z) + u) * 16) 4), Txt.item signsS (sixW ((6 : Nat) : Int) ((256 * (256 * (256 * (256 * 0 + x) + y) + z) + u) * 16) 5)] ++ Txt.mul (Str.ofString "=") 2) = _
  rw [sg (x / 4) (x := sixW ((6 : Nat) : Int) ((256 * (256 * (256 * (256 * 0 + x) + y) + z) + u) * 16) 0) ((six_eq 5 (4096 * 262144) rfl (by decide) (by decide)).trans (up1 (d := 262144) u0 u1 (thr_a x0 x1 y0 y1 z0 z1))) (r_a x0 x1).1 (r_a x0 x1).2]
  rw [sg (x % 4 * 16 + y / 16) (x := sixW ((6 : Nat) : Int) ((256 * (256 * (256 * (256 * 0 + x) + y) + z) + u) * 16) 1) ((six_eq 4 (4096 * 4096) rfl (by decide) (by decide)).trans (up1 (d := 4096) u0 u1 (thr_b y0 y1 z0 z1))) (r_b y0 y1).1 (r_b y0 y1).2]
  rw [sg (y % 16 * 4 + z / 64) (x := sixW ((6 : Nat) : Int) ((256 * (256 * (256 * (256 * 0 + x) + y) + z) + u) * 16) 2) ((six_eq 3 (4096 * 64) rfl (by decide) (by decide)).trans (up1 (d := 64) u0 u1 (thr_c z0 z1))) (r_c z0 z1).1 (r_c z0 z1).2]
  rw [sg (z % 64) (x := sixW ((6 : Nat) : Int) ((256 * (256 * (256 * (256 * 0 + x) + y) + z) + u) * 16) 3) ((six_eq 2 (4096 * 1) rfl (by decide) (by decide)).trans (up1 (d := 1) u0 u1 (thr_d))) (r_d).1 (r_d).2]
  rw [sg (u / 4) (x := sixW ((6 : Nat) : Int) ((256 * (256 * (256 * (256 * 0 + x) + y) + z) + u) * 16) 4) ((six_eq 1 (64) rfl (by decide) (by decide)).trans (one_a u0 u1)) (r_a u0 u1).1 (r_a u0 u1).2]
  rw [sg (u % 4 * 16) (x := sixW ((6 : Nat) : Int) ((256 * (256 * (256 * (256 * 0 + x) + y) + z) + u) * 16) 5) ((six_eq 0 (1) rfl (by decide) (by decide)).trans (one_b)) (r_b0).1 (r_b0).2]
  show [(((T64 (x / 4)).toNat : Nat) : Int), (((T64 (x % 4 * 16 + y / 16)).toNat : Nat) : Int), (((T64 (y % 16 * 4 + z / 64)).toNat : Nat) : Int), (((T64 (z % 64)).toNat : Nat) : Int), (((T64 (u / 4)).toNat : Nat) : Int), (((T64 (u % 4 * 16)).toNat : Nat) : Int), ((61 : Nat) : Int), ((61 : Nat) : Int)] = _
  rw [code_cast (x / 4), code_cast (x % 4 * 16 + y / 16), code_cast (y % 16 * 4 + z / 64), code_cast (z % 64), code_cast (u / 4), code_cast (u % 4 * 16)]
  simp [encL, outL]
theorem enc5 {x y z u v : Int} (x0 : 0 ≤ x) (x1 : x < 256) (y0 : 0 ≤ y) (y1 : y < 256) (z0 : 0 ≤ z) (z1 : z < 256) (u0 : 0 ≤ u) (u1 : u < 256) (v0 : 0 ≤ v) (v1 : v < 256) : codesL (writtenN 7 (numL [x, y, z, u, v] * 4) 1) = encL [x, y, z, u, v] := by
  show codesL (Txt.join (Str.ofString "") [Txt.item signsS (sixW ((7 : Nat) : Int) ((256 * (256 * (256 * (256 * (256 * 0 + x) + y) + z) + u) + v) * 4) 0), Txt.item signsS (sixW ((7 : Nat) : Int) ((256 * (256 * (256 * (256 * (256 * 0 + x) + y) + z) + u) + v) * 4) 1), Txt.item signsS (sixW ((7 : Nat) : Int) ((256 * (256 * (256 * (256 * (256 * 0 + x) + y) + z) + u) + v) * 4) 2), Txt.item signsS (sixW ((7 : Nat) : Int) ((256 * (256 * (256 * (256 * (256 * 0 + x) + y) + z) + u) + v) * 4) 3), Txt.item signsS (sixW ((7 : Nat) : Int) ((256 * (256 * (256 * (256 * (256 * 0 + x) + y) + z) + u) + v) * 4) 4), Txt.item signsS (sixW ((7 : Nat) : Int) ((256 * (256 * (256 * (256 * (256 * 0 + x) + y) + z) + u) + v) * 4) 5), Txt.item signsS (sixW ((7 : Nat) : Int) ((256 * (256 * (256 * (256 * (256 * 0 + x) + y) + z) + u) + v) * 4) 6)] ++ Txt.mul (Str.ofString "=") 1) = _
  rw [sg (x / 4) (x := sixW ((7 : Nat) : Int) ((256 * (256 * (256 * (256 * (256 * 0 + x) + y) + z) + u) + v) * 4) 0) ((six_eq 6 (262144 * 262144) rfl (by decide) (by decide)).trans (up2 (d := 262144) u0 u1 v0 v1 (thr_a x0 x1 y0 y1 z0 z1))) (r_a x0 x1).1 (r_a x0 x1).2]
  rw [sg (x % 4 * 16 + y / 16) (x := sixW ((7 : Nat) : Int) ((256 * (256 * (256 * (256 * (256 * 0 + x) + y) + z) + u) + v) * 4) 1) ((six_eq 5 (262144 * 4096) rfl (by decide) (by decide)).trans (up2 (d := 4096) u0 u1 v0 v1 (thr_b y0 y1 z0 z1))) (r_b y0 y1).1 (r_b y0 y1).2]
  rw [sg (y % 16 * 4 + z / 64) (x := sixW ((7 : Nat) : Int) ((256 * (256 * (256 * (256 * (256 * 0 + x) + y) + z) + u) + v) * 4) 2) ((six_eq 4 (262144 * 64) rfl (by decide) (by decide)).trans (up2 (d := 64) u0 u1 v0 v1 (thr_c z0 z1))) (r_c z0 z1).1 (r_c z0 z1).2]
  rw [sg (z % 64) (x := sixW ((7 : Nat) : Int) ((256 * (256 * (256 * (256 * (256 * 0 + x) + y) + z) + u) + v) * 4) 3) ((six_eq 3 (262144 * 1) rfl (by decide) (by decide)).trans (up2 (d := 1) u0 u1 v0 v1 (thr_d))) (r_d).1 (r_d).2]
  rw [sg (u / 4) (x := sixW ((7 : Nat) : Int) ((256 * (256 * (256 * (256 * (256 * 0 + x) + y) + z) + u) + v) * 4) 4) ((six_eq 2 (4096) rfl (by decide) (by decide)).trans (two_a u0 u1 v0 v1)) (r_a u0 u1).1 (r_a u0 u1).2]
  rw [sg (u % 4 * 16 + v / 16) (x := sixW ((7 : Nat) : Int) ((256 * (256 * (256 * (256 * (256 * 0 + x) + y) + z) + u) + v) * 4) 5) ((six_eq 1 (64) rfl (by decide) (by decide)).trans (two_b v0 v1)) (r_b v0 v1).1 (r_b v0 v1).2]
  rw [sg (v % 16 * 4) (x := sixW ((7 : Nat) : Int) ((256 * (256 * (256 * (256 * (256 * 0 + x) + y) + z) + u) + v) * 4) 6) ((six_eq 0 (1) rfl (by decide) (by decide)).trans (two_c)) (r_c0).1 (r_c0).2]
  show [(((T64 (x / 4)).toNat : Nat) : Int), (((T64 (x % 4 * 16 + y / 16)).toNat : Nat) : Int), (((T64 (y % 16 * 4 + z / 64)).toNat : Nat) : Int), (((T64 (z % 64)).toNat : Nat) : Int), (((T64 (u / 4)).toNat : Nat) : Int), (((T64 (u % 4 * 16 + v / 16)).toNat : Nat) : Int), (((T64 (v % 16 * 4)).toNat : Nat) : Int), ((61 : Nat) : Int)] = _
  rw [code_cast (x / 4), code_cast (x % 4 * 16 + y / 16), code_cast (y % 16 * 4 + z / 64), code_cast (z % 64), code_cast (u / 4), code_cast (u % 4 * 16 + v / 16), code_cast (v % 16 * 4)]
  simp [encL, outL]
/-- base64 as the law reckons it and as b2a_base64 writes it -/
theorem enc_written {os : List Int} (hl : os.length ≤ 5) (hr : ∀ o ∈ os, 0 ≤ o ∧ o < 256) : codesL (writtenL os) = encL os := by
  match os, hl with
  | [], _ => exact enc0
  | [x], _ => exact enc1 (hr x (.head _)).1 (hr x (.head _)).2
  | [x, y], _ => exact enc2 (hr x (.head _)).1 (hr x (.head _)).2 (hr y (.tail _ (.head _))).1 (hr y (.tail _ (.head _))).2
  | [x, y, z], _ => exact enc3 (hr x (.head _)).1 (hr x (.head _)).2 (hr y (.tail _ (.head _))).1 (hr y (.tail _ (.head _))).2 (hr z (.tail _ (.tail _ (.head _)))).1 (hr z (.tail _ (.tail _ (.head _)))).2
  | [x, y, z, u], _ => exact enc4 (hr x (.head _)).1 (hr x (.head _)).2 (hr y (.tail _ (.head _))).1 (hr y (.tail _ (.head _))).2 (hr z (.tail _ (.tail _ (.head _)))).1 (hr z (.tail _ (.tail _ (.head _)))).2 (hr u (.tail _ (.tail _ (.tail _ (.head _))))).1 (hr u (.tail _ (.tail _ (.tail _ (.head _))))).2
  | [x, y, z, u, v], _ => exact enc5 (hr x (.head _)).1 (hr x (.head _)).2 (hr y (.tail _ (.head _))).1 (hr y (.tail _ (.head _))).2 (hr z (.tail _ (.tail _ (.head _)))).1 (hr z (.tail _ (.tail _ (.head _)))).2 (hr u (.tail _ (.tail _ (.tail _ (.head _))))).1 (hr u (.tail _ (.tail _ (.tail _ (.head _))))).2 (hr v (.tail _ (.tail _ (.tail _ (.tail _ (.head _)))))).1 (hr v (.tail _ (.tail _ (.tail _ (.tail _ (.head _)))))).2
theorem enc_ascii {os : List Int} : ∀ n ∈ encL os, 0 ≤ n ∧ n < 128 := by
  have out : ∀ os : List Int, ∀ n ∈ outL os, 0 ≤ n ∧ n < 128 := by
    intro os
    induction os using outL.induct with
    | case1 a b c r ih =>
      intro n h
      simp only [outL, List.mem_cons] at h
      rcases h with rfl | rfl | rfl | rfl | h
      · exact t64_ascii _
      · exact t64_ascii _
      · exact t64_ascii _
      · exact t64_ascii _
      · exact ih n h
    | case2 a b =>
      intro n h
      simp only [outL, List.mem_cons, List.not_mem_nil, or_false] at h
      rcases h with rfl | rfl <;> exact t64_ascii _
    | case3 a =>
      intro n h
      simp only [outL, List.mem_cons, List.not_mem_nil, or_false] at h
      subst h; exact t64_ascii _
    | case4 => intro n h; cases h
  intro n h
  rcases List.mem_append.mp h with h | h
  · exact out os n h
  · split at h
    · cases h
    · split at h
      · simp only [List.mem_cons, List.not_mem_nil, or_false] at h
        rcases h with rfl | rfl | rfl
        · exact t64_ascii _
        · decide
        · decide
      · simp only [List.mem_cons, List.not_mem_nil, or_false] at h
        rcases h with rfl | rfl
        · exact t64_ascii _
        · decide
end Pl
end

section
theorem TailOf.refl (fr : List (Addr × Obj)) : ∀ n, TailOf n fr (n ++ fr)
  | [] => .nil
  | _ :: n => .cons (TailOf.refl fr n)
theorem offl_empty : ∀ l, OffL [] l
  | [] => trivial
  | _ :: l => ⟨.inr (fun h => nomatch h), offl_empty l⟩
section
variable {rm : Nat} {w : World} {f : Addr} {vs : List Value} {pre : Heap → Prop} {res : Heap → Value → Heap → Prop} {mean : ExcName → Option Value} {mg mb : Str → Option Value} {dp un : Nat} {gd : Option (List Code)} {env : Env} {A₀ : Around} {h₀ : Heap} {L : Addr} {m : Str → Option Value} {nws : List (Addr × Obj)} {s : Shared} {Q E : Value → Shared → Prop}
/-- a def that catches, called from the law's own frame -/
theorem use_top (C : ClaimT rm w f vs pre res) (B : Below A₀ h₀ [] h₀) (F : Fr h₀ L s.heap m) (N : News h₀ L s.heap nws) (X : (hd.heap_39 w.params).In h₀) (T : Top hd.view_39 Lo mean mg mb h₀)
    (hf : env.frame = some L) (hke : env.scope.kind = .function) (hdq : dp + rm < recursionLimit) (hu : un + 10 * rm < cLine) (hp : pre s.heap)
    (k : ∀ v h' tk', Fr h₀ L h' m → News h₀ L h' nws → res s.heap v h' → Q v { s with heap := h', toks := tk' }) :
    wpAny (model Pg w) (aTop dp un gd [env]) (call (.ref f) vs) Q E s := by
  have G : Gr A₀ h₀ [] h₀ h₀ [] := ⟨B, fun _ _ e => e, fun _ _ e _ => e, (fun _ hb => nomatch hb), (fun _ hp => nomatch hp)⟩
  refine use_G C G F (nws := nws) (all := nws ++ []) (by rw [List.append_nil]; exact N) (TailOf.refl [] nws) X T X T hf hke hdq hu hp (offl_empty nws) ?_
  intro v h' tk' fr' G' F' N' r
  have e : fr' = [] := List.eq_nil_iff_forall_not_mem.mpr fun p hp => nomatch G'.only p hp
  subst e
  rw [List.append_nil] at N'
  exact k v h' tk' F' N' r
theorem use_top_pair {x y : Int} (C : ClaimT rm w f vs pre (RPair x y)) (B : Below A₀ h₀ [] h₀) (F : Fr h₀ L s.heap m) (N : News h₀ L s.heap nws) (X : (hd.heap_39 w.params).In h₀) (T : Top hd.view_39 Lo mean mg mb h₀)
    (hf : env.frame = some L) (hke : env.scope.kind = .function) (hdq : dp + rm < recursionLimit) (hu : un + 10 * rm < cLine) (hp : pre s.heap)
    (k : ∀ a t1 t2 n h' tk', Fr h₀ L h' m → News h₀ L h' ((a, { cls := .type "tuple", data := .seq #[.int x t1, .int y t2] n }) :: nws) → AllNe a nws → Q (.ref a) { s with heap := h', toks := tk' }) :
    wpAny (model Pg w) (aTop dp un gd [env]) (call (.ref f) vs) Q E s :=
  use_top C B F N X T hf hke hdq hu hp fun v h' tk' F' N' r => by
    obtain ⟨a, t1, t2, n, rfl, hn, ho⟩ := r
    exact k a t1 t2 n h' tk' F' (news_in F N' hn ho) (allNe_of fun q hq => news_ne N hn q hq)
end
/-- what the law's loop knows of the octets that came -/
structure Heard (vs1 vs2 : List Value) (os : List Int) (n : Nat) : Prop where
  one : IntsAre vs1 os
  two : IntsAre vs2 os
  rg : ∀ o ∈ os, 0 ≤ o ∧ o < 256
  len : os.length ≤ n
section
variable {prog : Program} {w : World} {A : Around} {E : Value → Shared → Prop} {s : Shared} {env : Env} {h₀ : Heap} {x : Str} {body : List Stmt} {Q : Flow → Shared → Prop}
noncomputable abbrev LwS : Type := List Value × Nat × List Value × Nat × List Int
noncomputable abbrev lwLed (l l1 l2 : Addr) (ys : List Value) (nn : Nat) (c : LwS) : List (Addr × Obj) := [(l, W.listOf ys.toArray nn), (l1, W.listOf c.1.toArray c.2.1), (l2, W.listOf c.2.2.1.toArray c.2.2.2.1)]
noncomputable abbrev lwJ (l l1 l2 : Addr) (ys : List Value) (nn : Nat) (x : Str) (st : List Str) (m₀ : Str → Option Value) (pre : List Int) : (Str → Option Value) → List (Addr × Obj) → Prop :=
  KstS (lwLed l l1 l2 ys nn) (fun _ => []) (fun _ => True) x st m₀ (fun pre c => Heard c.1 c.2.2.1 c.2.2.2.2 pre.length) pre
theorem law_loop {ns : List Int} {ys : List Value} {l l1 l2 : Addr} {nn k1 k2 : Nat} {m₀ : Str → Option Value} {news : List (Addr × Obj)} (st : List Str) (hh : A.handled = none) (hi : IntsAre ys ns) (hr : ∀ n ∈ ns, 0 ≤ n ∧ n < 1000000000) (hlen : ns.length ≤ 5)
    (F : Fr h₀ env.locals s.heap m₀) (N : News h₀ env.locals s.heap news) (h0 : (l, W.listOf ys.toArray nn) ∈ news) (h1 : (l1, W.listOf #[] k1) ∈ news) (h2 : (l2, W.listOf #[] k2) ∈ news)
    (turn : ∀ (vs1 : List Value) (k1 : Nat) (vs2 : List Value) (k2 : Nat) (os : List Int) (n : Int) t (u : Str → Option Value) h tk own (pre : List Int), pre.length ≤ 4 → 0 ≤ n → n < 1000000000 → OwnOff own [l, l1, l2] → Heard vs1 vs2 os pre.length →
      Fr h₀ env.locals h (fun y => if y = x then some (.int n t) else if st.contains y then u y else m₀ y) → News h₀ env.locals h ((l, W.listOf ys.toArray nn) :: (l1, W.listOf vs1.toArray k1) :: (l2, W.listOf vs2.toArray k2) :: own) →
      wpAny (model prog w) A (execs body env) (InvPostN h₀ env.locals (lwJ l l1 l2 ys nn x st m₀ (pre ++ [n])) own [l, l1, l2] { s with heap := h, toks := tk } Q) E { s with heap := h, toks := tk })
    (done : ∀ (vs1 : List Value) (k1 : Nat) (vs2 : List Value) (k2 : Nat) (os : List Int) (u : Str → Option Value) h tk, Heard vs1 vs2 os 5 →
      Fr h₀ env.locals h (fun y => if y = x then u y else if st.contains y then u y else m₀ y) → News h₀ env.locals h [(l, W.listOf ys.toArray nn), (l1, W.listOf vs1.toArray k1), (l2, W.listOf vs2.toArray k2)] → Q .next { s with heap := h, toks := tk }) :
    wpAny (model prog w) A (pyIter (.ref l)) (fun it s₂ => LoopAtV prog w A h₀ env x body Q E it s₂) E s := by
  refine kst_listL (σ := LwS) (nn := nn) (lwLed l l1 l2 ys nn) (fun _ => []) (fun _ => True) st (fun pre c => Heard c.1 c.2.2.1 c.2.2.2.2 pre.length) ([], k1, [], k2, []) hh (fun _ => .head _) hi F (fun p hp => ?_) trivial (fun p hp => nomatch hp) ⟨.nil, .nil, (fun _ h => nomatch h), Nat.le_refl _⟩ ?_ ?_
  · rcases List.mem_cons.mp hp with rfl | hp
    · exact N _ h0
    · rcases List.mem_cons.mp hp with rfl | hp
      · exact N _ h1
      · cases List.mem_singleton.mp hp
        exact N _ h2
  · rintro ⟨vs1, k1, vs2, k2, os⟩ pre post n t u h tk own he hn hoff _ hd F₁ N₁
    have hp : pre.length ≤ 4 := by
      have := congrArg List.length he
      rw [List.length_append, List.length_cons] at this
      omega
    exact turn vs1 k1 vs2 k2 os n t u h tk own pre hp (hr n hn).1 (hr n hn).2 hoff hd F₁ N₁
  · rintro ⟨vs1, k1, vs2, k2, os⟩ u h tk _ hd F₁ N₁
    exact done vs1 k1 vs2 k2 os u h tk ⟨hd.one, hd.two, hd.rg, Nat.le_trans hd.len hlen⟩ F₁ N₁
theorem law_close {L : Addr} {l l1 l2 : Addr} {ys : List Value} {nn : Nat} {st : List Str} {h' : Heap} {tk : Nat} {m₀ m' : Str → Option Value} {own news : List (Addr × Obj)} {a1 a2 : Array Value} {k1 k2 : Nat} {vs1 vs2 : List Value} {os : List Int} {n : Int} {pre : List Int} {s₁ : Shared} (F' : Fr h₀ L h' m') (N' : News h₀ L h' news)
    (h0 : (l, W.listOf ys.toArray nn) ∈ news) (h1 : (l1, W.listOf a1 k1) ∈ news) (h2 : (l2, W.listOf a2 k2) ∈ news) (ho : ∀ p ∈ own, p ∈ news) (hr : ∀ z, z ≠ x → st.contains z = false → m' z = m₀ z) (e1 : a1 = vs1.toArray) (e2 : a2 = vs2.toArray) (hd : Heard vs1 vs2 os (pre.length + 1)) :
    InvEndN h₀ L (lwJ l l1 l2 ys nn x st m₀ (pre ++ [n])) own [l, l1, l2] s₁ { s₁ with heap := h', toks := tk } := by
  subst e1 e2
  refine InvEndN.intro (nx := lwLed l l1 l2 ys nn (vs1, k1, vs2, k2, os)) F' N' ⟨(vs1, k1, vs2, k2, os), rfl, trivial, (fun p hp => nomatch hp), fun z hz _ hs => hr z hz hs, ?_⟩ rfl (fun p hp => ?_) ho
  · show Heard vs1 vs2 os (pre ++ [n]).length
    rw [List.length_append]; exact hd
  · rcases List.mem_cons.mp hp with rfl | hp
    · exact h0
    · rcases List.mem_cons.mp hp with rfl | hp
      · exact h1
      · cases List.mem_singleton.mp hp
        exact h2
end
theorem Heard.more {vs1 vs2 : List Value} {os : List Int} {n : Nat} (h : Heard vs1 vs2 os n) : Heard vs1 vs2 os (n + 1) := ⟨h.one, h.two, h.rg, Nat.le_succ_of_le h.len⟩
theorem Heard.snoc {vs1 vs2 : List Value} {os : List Int} {n : Nat} {d d' : Int} {t1 t2 : Tok} (h : Heard vs1 vs2 os n) (e : d' = d) (h0 : 0 ≤ d) (h1 : d < 256) : Heard (vs1 ++ [.int d' t1]) (vs2 ++ [.int d t2]) (os ++ [d]) (n + 1) := by
  subst e
  refine ⟨h.one.append (.cons _ _ .nil), h.two.append (.cons _ _ .nil), fun o ho => ?_, by rw [List.length_append]; exact Nat.succ_le_succ h.len⟩
  rcases List.mem_append.mp ho with ho | ho
  · exact h.rg o ho
  · cases List.mem_singleton.mp ho
    exact ⟨h0, h1⟩
namespace Cm
open LCg LCt
/-- a comprehension over an ascii text's signs -/
noncomputable def SrcS (prog : Program) (w : World) (A : Around) (h₀ : Heap) (L : Addr) (m : Str → Option Value) (env : Env) (elt : Expr) (x : Str) (scope : Scope) (cl : List (Str × Addr)) (Fin : Shared → List Value → List (Addr × Obj) → Prop) (xv : Value) (s₁ : Shared) : Prop :=
  ∃ y t news, xv = .str y t ∧ y.cps.all (· < 128) = true ∧ A.handled = none ∧ Fr h₀ L s₁.heap m ∧ News h₀ L s₁.heap news ∧ y.cps.size ≤ sizeLine ∧
    ∀ g : Heap, CompRest prog w A h₀ L m env elt x scope cl { s₁ with heap := g } (fun _ => True) (SignAt y) (Fin { s₁ with heap := g }) y.cps.size 0 [] news
section
variable {prog : Program} {w : World} {A : Around} {E : Value → Shared → Prop} {s : Shared} {h₀ : Heap} {L : Addr} {m : Str → Option Value} {env : Env}
theorem str_st {y : Str} {t : Tok} {I : Addr} : ∀ i (h h' : Heap) (o : Obj) (nw : List (Addr × Obj)), h.IsStrIter I "str_ascii_iterator" y t i → h.get? I = some o → h'.get? I = some o → (∀ b o, h₀.get? b = some o → h'.get? b = some o) → News h₀ L h' nw → True → h'.IsStrIter I "str_ascii_iterator" y t i := by
  intro i h h' o nw st e e' _ _ _
  obtain ⟨o', q, r⟩ := st
  rw [e] at q; cases q
  exact ⟨o, e', r⟩
theorem ListComp_S {elt iter : Expr} {x : Str} {px : Pos} {scope : Scope} {cl : List (Str × Addr)} {pos : Pos} {Q : Value → Shared → Prop} (F₀ : Fr h₀ L s.heap m)
    (hclos : closureFor scope env = pure cl) (hcell : ∀ y ∈ scope.names, y.2 ≠ .cell) (hkind : scope.kind = .function)
    (hnames : ∀ y ∈ scope.names, y.2 = .local → scope.names.lookup y.1 = some .local) (hx : scope.names.lookup x = some .local)
    (h : wpAny (model prog w) A (eval iter env) (SrcS prog w A h₀ L m env elt x scope cl (fun s₂ => FinE h₀ L m s₂ Q)) E s)
    (hs : ∀ x, foldedSetIterable iter env x = pure x := by intro _; rfl) :
    wpAny (model prog w) A (eval (.ListComp elt [⟨.Name x px, iter, [], 0⟩] scope pos) env) Q E s := by
  rw [eval_ListComp]
  refine wpAny_comprehension_free (use := none) rfl hs hclos hkind hnames (wpAny_mono h (fun xv s₁ h₁ => ?_) fun _ _ e => e)
  obtain ⟨y, t, news, rfl, ha, hh, F, N, hsz, R⟩ := h₁
  refine wpAny_pyIter_ascii ha ?_
  have up : ∀ c o, s₁.heap.get? c = some o → (s₁.heap.push { cls := .type "str_ascii_iterator", data := .fields #[.str y t, .int 0 0] }).get? c = some o := fun c o e => Heap.get?_push_of_some _ e
  refine block_U (Walks.strAscii hh s₁.heap.objs.size y t) hsz (fun i h st => by obtain ⟨o, e, _⟩ := st; exact ⟨o, e⟩) str_st hcell hkind hx ⟨_, Heap.get?_push_size _ rfl, rfl, rfl⟩ (fun c hc => ?_)
    (F.keeps up) (N.grown up) (Nat.ne_of_lt F.ns.lt) (next_is_new F) (fun p hp => Nat.ne_of_lt (Heap.lt_size (N p hp).1)) trivial (R _) ?_
  · rw [List.mem_singleton.mp hc]
    show s₁.heap.objs.size < (s₁.heap.push _).objs.size
    rw [Heap.size_push]; exact Nat.lt_succ_self _
  · intro D C h tk m' ys news' F' N' o1 hn hC₀ hD₀ hCL hDL hCD offC fin
    refine ⟨m', hn, fun h'' hs'' => fin D h'' tk (F'.change hs'' hCL hC₀) (fun p hp => ?_) o1⟩
    refine ⟨hs''.extBut _ _ ?_ (N' p hp).1, (N' p hp).2⟩
    rcases List.mem_cons.mp hp with rfl | hp
    · exact Ne.symm hCD
    · exact offC p hp
end
end Cm
theorem law_off {st : List Str} {z y : Str} (h : st.contains z = false) (hy : st.contains y = true) : z ≠ y := by
  rintro rfl
  rw [h] at hy; cases hy
/-- the signs' numbers, as a comprehension over the text gives them -/
theorem codes_ints {y : Str} {zs : List Value} (hl : zs.length = y.cps.size) (hZ : ∀ (i : Nat) (v : Value), zs[i]? = some v → ∃ (c : Nat) (t : Tok), y.cps[i]? = some c ∧ v = .int (c : Int) t) : IntsAre zs (Pl.codesL y) := by
  obtain ⟨⟨l⟩⟩ := y
  show IntsAre zs (l.map fun (c : Nat) => (c : Int))
  have hl' : zs.length = l.length := hl
  have hZ' : ∀ (i : Nat) (v : Value), zs[i]? = some v → ∃ (c : Nat) (t : Tok), l[i]? = some c ∧ v = .int (c : Int) t := fun i v h => by
    obtain ⟨c, t, e, r⟩ := hZ i v h
    exact ⟨c, t, by simpa using e, r⟩
  clear hl hZ
  induction l generalizing zs with
  | nil => cases zs with
    | nil => exact .nil
    | cons a b => simp at hl'
  | cons c l ih => cases zs with
    | nil => simp at hl'
    | cons v zs =>
      obtain ⟨c', t, e, rfl⟩ := hZ' 0 v rfl
      cases e
      exact .cons _ _ (ih (Nat.succ.inj hl') fun i v h => hZ' (i + 1) v h)
theorem written_ascii {os : List Int} (hl : os.length ≤ 5) (hr : ∀ o ∈ os, 0 ≤ o ∧ o < 256) : (writtenL os).cps.all (· < 128) = true := by
  have e := Pl.enc_written hl hr
  rw [Array.all_eq_true_iff_forall_mem]
  intro c hc
  have hm : (c : Int) ∈ Pl.codesL (writtenL os) := List.mem_map.mpr ⟨c, Array.mem_toList_iff.mpr hc, rfl⟩
  rw [e] at hm
  have := (Pl.enc_ascii _ hm).2
  simp; omega
theorem written_size {os : List Int} (hl : os.length ≤ 5) (hr : ∀ o ∈ os, 0 ≤ o ∧ o < 256) : (writtenL os).cps.size ≤ 13 := by
  have e := congrArg List.length (Pl.enc_written hl hr)
  have := encL_length os
  unfold Pl.codesL at e
  rw [List.length_map, Array.length_toList] at e
  omega
theorem b64_heard (w : World) {os : List Int} (t : Tok) (hl : os.length ≤ 5) (hr : ∀ o ∈ os, 0 ≤ o ∧ o < 256) : Claim 30 w 83 [.bytes (byteArr os) t] Quiet (RBytes (byteArr (encL os))) := by
  have C := b64_none w (byteArr os) t (by rw [byteArr_size]; omega)
  rw [KBa.ints_make hr] at C
  exact C
end

local macro_rules | `(tactic| walk_at "none C18 0") => `(tactic| fail)
local macro_rules | `(tactic| walk_at "none C18 1") => `(tactic| fail)
section
theorem nums_range {l : List Int} : ∀ n ∈ l.map (fun k' => k'.fmod (10 ^ Int.toNat 9)), 0 ≤ n ∧ n < 1000000000 := by
  intro n hn
  obtain ⟨k, _, rfl⟩ := List.mem_map.mp hn
  have e : (10 : Int) ^ Int.toNat 9 = 1000000000 := rfl
  rw [e, Int.fmod_eq_emod_of_nonneg _ (by decide)]
  omega
theorem nums_len {l : List Int} {f : Int → Int} {a b c : Int} : (List.map f (List.take 2 l ++ [a, b, c])).length ≤ 5 := by
  rw [List.length_map, List.length_append, List.length_take]
  simp only [List.length_cons, List.length_nil]
  omega
noncomputable abbrev lawSt : List Str := [Str.ofString "octet", Str.ofString "first", Str.ofString "second", Str.ofString "kind", Str.ofString "both", Str.ofString "mode", Str.ofString "due", Str.ofString "place", Str.ofString "came"]
theorem fm_range (a : Int) (b : Int) (h : 0 < b) : 0 ≤ a.fmod b ∧ a.fmod b < b := ⟨Int.fmod_nonneg_of_pos _ h, Int.fmod_lt_of_pos _ h⟩
theorem ints_map {f : Int → Int} : ∀ {ys : List Value} {ps : List Int}, ys.length = ps.length → (∀ (i : Nat) (y : Value), ys[i]? = some y → ∃ t, y = .int (f (ps.getD i 0)) t) → IntsAre ys (ps.map f)
  | [], [], _, _ => .nil
  | y :: ys, p :: ps, hl, h => by
    obtain ⟨t, rfl⟩ := h 0 y rfl
    exact .cons _ _ (ints_map (Nat.succ.inj hl) fun i y hy => h (i + 1) y hy)
theorem ints_get {vs : List Value} {ns : List Int} (hI : IntsAre vs ns) {i : Nat} {v : Value} (h : vs[i]? = some v) : ∃ t, v = .int (ns.getD i 0) t ∧ ns.getD i 0 ∈ ns := by
  have hi : i < ns.length := by rw [← hI.length]; exact (List.getElem?_eq_some_iff.mp h).1
  obtain ⟨t, e⟩ := ints_at hI hi
  rw [h] at e
  cases e
  refine ⟨t, rfl, ?_⟩
  rw [List.getD_eq_getElem?_getD, List.getElem?_eq_getElem hi]
  exact List.getElem_mem hi
theorem word_pl {o p : Int} (o0 : 0 ≤ o) (o1 : o < 256) (hp : p ∈ wordL o) : 1 ≤ p ∧ p ≤ 12 := Pl.upto256 (P := fun k => ∀ p ∈ wordL k, 1 ≤ p ∧ p ≤ 12) Pl.word_places o0 o1 p hp
theorem word_ln {o : Int} (o0 : 0 ≤ o) (o1 : o < 256) : (wordL o).length ≤ 12 := Pl.upto256 (P := fun k => (wordL k).length ≤ 12) Pl.word_len o0 o1
theorem sum_range {o : Int} (o0 : 0 ≤ o) (o1 : o < 256) : 0 ≤ (List.map (fun p : Int => (2 : Int) ^ (12 - p).toNat) (wordL o)).sum ∧ (List.map (fun p : Int => (2 : Int) ^ (12 - p).toNat) (wordL o)).sum < 4096 := by
  have q := Pl.upto256 (P := fun k => 0 ≤ Pl.wordSum k ∧ Pl.wordSum k < 4096 ∧ Pl.dataL (Pl.wordSum k) = k ∧ askL (Pl.wordSum k) 1 = 0 ∧ askL (Pl.wordSum k) 2 = 0 ∧ askL (Pl.wordSum k) 4 = 0 ∧ askL (Pl.wordSum k) 8 = 0) Pl.word_table o0 o1
  exact ⟨q.1, q.2.1⟩
theorem xor_nn {a b : Int} (a0 : 0 ≤ a) (b0 : 0 ≤ b) : 0 ≤ Builtin.bitXor a b := by rw [Bt.bitXor_pp a0 b0]; exact Int.natCast_nonneg _
theorem due_range {o f g : Int} (o0 : 0 ≤ o) (o1 : o < 256) (f0 : 0 ≤ f) (f1 : f < 13) (g0 : 0 ≤ g) (g1 : g < 13) (hx : Builtin.bitXor f g < 13) :
    0 ≤ Builtin.bitXor (Builtin.bitXor (Builtin.bitXor o (weightL f)) (weightL g)) (weightL (Builtin.bitXor f g)) ∧ Builtin.bitXor (Builtin.bitXor (Builtin.bitXor o (weightL f)) (weightL g)) (weightL (Builtin.bitXor f g)) < 256 := by
  have wf := Pl.weight_range f0 f1
  have wg := Pl.weight_range g0 g1
  have wx := Pl.weight_range (xor_nn f0 g0) hx
  have a := Pl.xor_256 o0 o1 wf.1 wf.2
  have b := Pl.xor_256 a.1 a.2 wg.1 wg.2
  exact Pl.xor_256 b.1 b.2 wx.1 wx.2
theorem heard_A (w : World) {k o f g : Int} (t : Tok) (k0 : 0 ≤ k) (k1 : k < 16) (o0 : 0 ≤ o) (o1 : o < 256) (f0 : 0 ≤ f) (f1 : f < 13) (g0 : 0 ≤ g) (g1 : g < 13) (hx : Builtin.bitXor f g < 13) :
    ClaimT 80 w 180 [.int (Pl.modeL k o f g) t] Quiet (RPair (Builtin.bitXor f g) (Builtin.bitXor (Builtin.bitXor (Builtin.bitXor o (weightL f)) (weightL g)) (weightL (Builtin.bitXor f g)))) := by
  have r := Pl.mode_range k0 k1 o0 o1 f0 f1 g0 g1
  have C := heard_call w (Pl.modeL k o f g) t r.1 r.2
  rw [Pl.mode_place k0 k1 o0 o1 f0 f1 g0 g1, Pl.mode_came k0 k1 o0 o1 f0 f1 g0 g1, Pl.dueL, if_pos hx] at C
  exact C
theorem heard_B (w : World) {k o f g : Int} (t : Tok) (k0 : 0 ≤ k) (k1 : k < 16) (o0 : 0 ≤ o) (o1 : o < 256) (f0 : 0 ≤ f) (f1 : f < 13) (g0 : 0 ≤ g) (g1 : g < 13) (hx : ¬ Builtin.bitXor f g < 13) :
    ClaimT 80 w 180 [.int (Pl.modeL k o f g) t] Quiet (RPair (Builtin.bitXor f g) 256) := by
  have r := Pl.mode_range k0 k1 o0 o1 f0 f1 g0 g1
  have C := heard_call w (Pl.modeL k o f g) t r.1 r.2
  rw [Pl.mode_place k0 k1 o0 o1 f0 f1 g0 g1, Pl.mode_came k0 k1 o0 o1 f0 f1 g0 g1, Pl.dueL, if_neg hx] at C
  exact C
theorem news_tt {h₀ h : Heap} {L : Addr} {p q : Addr × Obj} {rest : List (Addr × Obj)} (N : News h₀ L h (p :: q :: rest)) : News h₀ L h rest := fun x hx => N x (.tail _ (.tail _ hx))
section
local macro_rules | `(tactic| walk_at "pyIter ref") => `(tactic| ((with_reducible show wpAny _ _ (pyIter (Value.ref _)) (fun it s₂ => LoopAtV _ _ _ _ _ _ _ _ _ it s₂) _ _); refine hold ?_))
local macro_rules | `(tactic| walk_at "eval ListComp") => `(tactic| (k_here; (have : Mark 1 := by with_reducible assumption); refine hold ?_))
local macro_rules | `(tactic| walk_at "CompSrc") => `(tactic| (k_here; (have : Mark 1 := by with_reducible assumption); refine hold ?_))
local macro_rules | `(tactic| walk_at "call ref") => `(tactic| (refine hold ?_))
local macro_rules | `(tactic| walk_at "mine head") => `(tactic| (
  intro w s₀ s₁ mg mb G Y fa o pm cd doc dV kV ho hd hcd hD hmg hg args vals as hpre hlay hrd hwl hlo
  have KX := kIn_of Y
  refine Ground.open G ?_
  intro T B D TE TW
  clear D
  obtain ⟨_, _, M⟩ := bmod_of_top T
  obtain ⟨_, _, he, B0⟩ := based_of_top T rfl hmg ho hd
  cases he
  clear hmg
  wrow_args hpre hlay hrd hwl hlo
  refine enter_call ?_
  w_top on
  refine codeAny_mono ?_ (fun _ _ g => GoodW.toG g)
  have K0 := below_caller (Top.heap T)
  w_call any ho hd hcd hD T F
  clear hd
  k_drop))
theorem law_holds : PySem.Challenge.rw_op0037_01.Holds := by
  w_on
  refine PySem.W.holds_law lawSaid fun said => ?_
  refine PySem.W.holds_open (q := hd.view_39) (loose := [Str.ofString "b2a_base64", Str.ofString "b64encode", Str.ofString "_filemode_table"])
    (Xt := fun s => xlAt hd.view_39 [] s && recOk (RowW.records PySem.Challenge.rw_op0037_01.row.toRowW) s) (XP := XL hd.view_39 [])
    (Yf := Hook.obs (kHook hd.heap_39 hdAs hdE)) (Ya := Hook.val (kHook hd.heap_39 hdAs hdE)) (YP := Hook.says (kHook hd.heap_39 hdAs hdE)) (N := 2794)
    left (Hook.of (kHook hd.heap_39 hdAs hdE)) (Hook.keeps (kHook hd.heap_39 hdAs hdE)) (fun s e => xl_of s (Bool.and_eq_true_iff.mp e).1) XL.keeps (by rfl) (by rfl) (by rfl) (fun s e => recFacts_of (Bool.and_eq_true_iff.mp e).2) (by rfl) said (by decide +kernel) ⟨rfl, rfl, rfl, rfl, rfl, by decide +kernel⟩ ?hw ?hc
  case hw => w_witness2
  case' hc => clear said
  k_with_none
  w_top off
  k_fill
  walk_at "mine head"
  (all_goals try k_fold)
  k_steps
  refine held ?_
  (with_reducible show wpAny _ _ (pyIter (Value.ref _)) (fun it s₂ => LoopAtV _ _ _ _ _ _ _ _ _ it s₂) _ _)
  rename Fr _ _ _ _ => F9
  rename News _ _ _ _ => N9
  rename IntsAre _ (List.map _ _) => hY
  refine law_loop (x := Str.ofString "n") lawSt rfl hY nums_range nums_len F9 N9 (.head _) (.tail _ (.tail _ (.tail _ (.tail _ (.tail _ (.tail _ (.head _))))))) (.tail _ (.tail _ (.tail _ (.tail _ (.tail _ (.head _)))))) ?_ ?_
  · clear hY
    (repeat (rename Fr _ _ _ _ => hx; clear hx))
    (repeat (rename News _ _ _ _ => hx; clear hx))
    (repeat (rename IntsAre _ _ => hx; clear hx))
    have mk1 := mark 1
    intro vs1 k1 vs2 k2 os n t u h tk own pre hp hn0 hn1 hoff hH F9 N9
    have h1l := hH.one.length
    have h2l := hH.two.length
    have hol := hH.len
    have ro := fm_range (n.fmod 1000) 256 (by decide)
    have rf := fm_range ((n.fdiv 1000).fmod 100) 13 (by decide)
    have rg := fm_range ((n.fdiv 100000).fmod 100) 13 (by decide)
    have rk := fm_range ((n.fdiv 10000000).fmod 100) 16 (by decide)
    k_steps
    refine held ?_
    rename Fr _ _ _ _ => F9
    rename News _ _ _ _ => N9
    have N8 := news_tt N9
    clear N9
    revert F9 N8
    (repeat (rename Fr _ _ _ _ => hx; clear hx))
    (repeat (rename News _ _ _ _ => hx; clear hx))
    intro F9 N8
    generalize (n.fmod 1000).fmod 256 = o at ro F9
    generalize ((n.fdiv 1000).fmod 100).fmod 13 = f at rf F9
    generalize ((n.fdiv 100000).fmod 100).fmod 13 = g at rg F9
    generalize ((n.fdiv 10000000).fmod 100).fmod 16 = k at rk F9
    obtain ⟨o0, o1⟩ := ro
    obtain ⟨f0, f1⟩ := rf
    obtain ⟨g0, g1⟩ := rg
    obtain ⟨k0, k1'⟩ := rk
    have hx0 := xor_nn f0 g0
    refine LCg.ListComp_U (F₀ := F9) (by rfl) (by decide) (by rfl) (by decide) (by rfl) ?_
    k_steps
    refine held ?_
    k_dflt (refine' use_list (word_call _ _ _ ?q1 ?q2) ?k1 ?k2 ?k3 ?k4 ?k5 ?k6 ?k7 ?k8 ?_; (case q1 => with_reducible assumption); (case q2 => with_reducible assumption); (case k1 => k_asm); (case k2 => k_asm); (case k3 => k_asm); (case k4 => k_asm); (case k5 => exact below_now (below_caller _) (by k_asm) rfl rfl rfl); (case k6 => decide +kernel); (case k7 => decide +kernel); (case k8 => trivial))
    intro b77 us77 n77 h77 tk77 F77 N77 A77 L77 I77
    (try dsimp only)
    (try k_fold)
    k_steps
    refine held ?_
    rename Fr _ _ _ _ => F7
    rename News _ _ _ _ => N7
    rename IntsAre _ (wordL o) => I7
    have hus := I7.length
    have hw := word_ln o0 o1
    refine LCg.CompSrc.ledger rfl F7 N7 (.head _) (by rw [List.size_toArray, sizeLine_eq]; omega) ?_
    clear F7 N7
    intro g1'
    refine Cm.comp_rel (fun i v => ∃ t, v = .int (2 ^ (12 - (wordL o).getD i 0).toNat) t) (.inr ⟨_, .head _, rfl, _, rfl⟩) ?_ ?_
    · intro i hi ys hl v I oI C oC D m₂ h tk E' hv hC hx F N off ne
      obtain ⟨t9, rfl, hm⟩ := ints_get I7 (i := i) (v := v) (by simpa using hv)
      have hp := word_pl o0 o1 hm
      clear hm
      generalize (wordL o).getD i 0 = p at hv hx hp
      obtain ⟨p0, p1⟩ := hp
      k_steps
      rename Fr _ _ _ _ => F'
      rename News _ _ _ _ => N'
      exact Cm.TurnEnd.intro F' N' (fun p hp => hp) ⟨_, rfl⟩
    · intro ys hl hR
      have hS := ints_map (f := fun p : Int => (2 : Int) ^ (12 - p).toNat) ((hl.trans List.size_toArray).trans hus) hR
      have hsr := sum_range o0 o1
      clear hR
      unfold LCg.FinE
      intro D5 h5 tk5 F5 N5 off5
      (try dsimp only)
      k_steps
      refine held ?_
      have hb := Pl.base_range k0 k1' o0 o1
      have hm := Pl.mid_range k0 k1' o0 o1 f0 f1
      k_dflt (refine' use_int (turned_call _ _ _ _ _ ?q1 ?q2 ?q3 ?q4) ?k1 ?k2 ?k3 ?k4 ?k5 ?k6 ?k7 ?k8 ?_; (case q1 => exact hb.1); (case q2 => exact hb.2); (case q3 => exact f0); (case q4 => exact f1); (case k1 => k_asm); (case k2 => k_asm); (case k3 => k_asm); (case k4 => k_asm); (case k5 => exact below_now (below_caller _) (by k_asm) rfl rfl rfl); (case k6 => decide +kernel); (case k7 => decide +kernel); (case k8 => trivial))
      intro t9 h9 tk9 F9 N9
      (try dsimp only)
      (try k_fold)
      k_steps
      refine held ?_
      k_dflt (refine' use_int (turned_call _ _ _ _ _ ?q1 ?q2 ?q3 ?q4) ?k1 ?k2 ?k3 ?k4 ?k5 ?k6 ?k7 ?k8 ?_; (case q1 => exact hm.1); (case q2 => exact hm.2); (case q3 => exact g0); (case q4 => exact g1); (case k1 => k_asm); (case k2 => k_asm); (case k3 => k_asm); (case k4 => k_asm); (case k5 => exact below_now (below_caller _) (by k_asm) rfl rfl rfl); (case k6 => decide +kernel); (case k7 => decide +kernel); (case k8 => trivial))
      intro t9 h9 tk9 F9 N9
      (try dsimp only)
      (try k_fold)
      clear hb hm
      k_steps
      · refine held ?_
        k_dflt (refine' use_int (weight_call _ _ _ ?q1 ?q2) ?k1 ?k2 ?k3 ?k4 ?k5 ?k6 ?k7 ?k8 ?_; (case q1 => with_reducible assumption); (case q2 => with_reducible assumption); (case k1 => k_asm); (case k2 => k_asm); (case k3 => k_asm); (case k4 => k_asm); (case k5 => exact below_now (below_caller _) (by k_asm) rfl rfl rfl); (case k6 => decide +kernel); (case k7 => decide +kernel); (case k8 => trivial))
        intro t79 h79 tk79 F79 N79
        (try dsimp only)
        (try k_fold)
        k_steps
        refine held ?_
        k_dflt (refine' use_int (weight_call _ _ _ ?q1 ?q2) ?k1 ?k2 ?k3 ?k4 ?k5 ?k6 ?k7 ?k8 ?_; (case q1 => with_reducible assumption); (case q2 => with_reducible assumption); (case k1 => k_asm); (case k2 => k_asm); (case k3 => k_asm); (case k4 => k_asm); (case k5 => exact below_now (below_caller _) (by k_asm) rfl rfl rfl); (case k6 => decide +kernel); (case k7 => decide +kernel); (case k8 => trivial))
        intro t79 h79 tk79 F79 N79
        (try dsimp only)
        (try k_fold)
        k_steps
        refine held ?_
        k_dflt (refine' use_int (weight_call _ _ _ ?q1 ?q2) ?k1 ?k2 ?k3 ?k4 ?k5 ?k6 ?k7 ?k8 ?_; (case q1 => with_reducible assumption); (case q2 => with_reducible assumption); (case k1 => k_asm); (case k2 => k_asm); (case k3 => k_asm); (case k4 => k_asm); (case k5 => exact below_now (below_caller _) (by k_asm) rfl rfl rfl); (case k6 => decide +kernel); (case k7 => decide +kernel); (case k8 => trivial))
        intro t79 h79 tk79 F79 N79
        (try dsimp only)
        (try k_fold)
        k_steps
        refine held ?_
        rename Builtin.bitXor f g < 13 => hx
        rename Fr _ _ _ _ => F9
        rename News _ _ _ _ => N9
        have N8 := news_tt N9
        have C := fun w t => heard_A w t k0 k1' o0 o1 f0 f1 g0 g1 hx
        have hd := due_range o0 o1 f0 f1 g0 g1 hx
        generalize Builtin.bitXor (Builtin.bitXor (Builtin.bitXor o (weightL f)) (weightL g)) (weightL (Builtin.bitXor f g)) = d at C hd F9
        obtain ⟨d0, d1⟩ := hd
        revert F9 N8
        (repeat (rename Fr _ _ _ _ => hx; clear hx))
        (repeat (rename News _ _ _ _ => hx; clear hx))
        (repeat (rename AllNe _ _ => hx; clear hx))
        intro N8 F9
        k_dflt (refine' use_top_pair (C _ _) (below_caller _) F9 N8 ?zX ?zT rfl rfl ?za ?zb trivial ?_; (case zX => k_asm); (case zT => k_asm); (case za => decide +kernel); (case zb => decide +kernel))
        clear F9 N8 C
        intro a9 t19 t29 n9 h9 tk9 F9 N9 A9
        (repeat (obtain ⟨A8, A9⟩ := A9; (try dsimp only at A8)))
        (try dsimp only)
        (try k_fold)
        k_steps
        rename Fr _ _ _ _ => F'
        rename News _ _ _ _ => N'
        refine law_close F' N' (by k_mem) (by k_mem) (by k_mem) (by (intro p hp; k_ownIn)) ?_ (List.push_toArray ..) (List.push_toArray ..) (hH.snoc rfl (by with_reducible assumption) (by with_reducible assumption))
        · intro z z9 zs
          have z0 := law_off (y := Str.ofString "octet") zs rfl
          have z1 := law_off (y := Str.ofString "first") zs rfl
          have z2 := law_off (y := Str.ofString "second") zs rfl
          have z3 := law_off (y := Str.ofString "kind") zs rfl
          have z4 := law_off (y := Str.ofString "both") zs rfl
          have z5 := law_off (y := Str.ofString "mode") zs rfl
          have z6 := law_off (y := Str.ofString "due") zs rfl
          have z7 := law_off (y := Str.ofString "place") zs rfl
          have z8 := law_off (y := Str.ofString "came") zs rfl
          simp only [if_neg z9, if_neg z0, if_neg z1, if_neg z2, if_neg z3, if_neg z4, if_neg z5, if_neg z6, if_neg z7, if_neg z8, zs, Bool.false_eq_true, if_false]
      · refine held ?_
        rename ¬ Builtin.bitXor f g < 13 => hx
        rename Fr _ _ _ _ => F9
        rename News _ _ _ _ => N9
        have N8 := news_tt N9
        have C := fun w t => heard_B w t k0 k1' o0 o1 f0 f1 g0 g1 hx
        revert F9 N8
        (repeat (rename Fr _ _ _ _ => hx; clear hx))
        (repeat (rename News _ _ _ _ => hx; clear hx))
        (repeat (rename AllNe _ _ => hx; clear hx))
        intro F9 N8
        k_dflt (refine' use_top_pair (C _ _) (below_caller _) F9 N8 ?zX ?zT rfl rfl ?za ?zb trivial ?_; (case zX => k_asm); (case zT => k_asm); (case za => decide +kernel); (case zb => decide +kernel))
        clear F9 N8 C
        intro a9 t19 t29 n9 h9 tk9 F9 N9 A9
        (repeat (obtain ⟨A8, A9⟩ := A9; (try dsimp only at A8)))
        (try dsimp only)
        (try k_fold)
        k_steps
        rename Fr _ _ _ _ => F'
        rename News _ _ _ _ => N'
        refine law_close F' N' (by k_mem) (by k_mem) (by k_mem) (by (intro p hp; k_ownIn)) ?_ rfl rfl hH.more
        · intro z z9 zs
          have z0 := law_off (y := Str.ofString "octet") zs rfl
          have z1 := law_off (y := Str.ofString "first") zs rfl
          have z2 := law_off (y := Str.ofString "second") zs rfl
          have z3 := law_off (y := Str.ofString "kind") zs rfl
          have z4 := law_off (y := Str.ofString "both") zs rfl
          have z5 := law_off (y := Str.ofString "mode") zs rfl
          have z6 := law_off (y := Str.ofString "due") zs rfl
          have z7 := law_off (y := Str.ofString "place") zs rfl
          have z8 := law_off (y := Str.ofString "came") zs rfl
          simp only [if_neg z9, if_neg z0, if_neg z1, if_neg z2, if_neg z3, if_neg z4, if_neg z5, if_neg z6, if_neg z7, if_neg z8, zs, Bool.false_eq_true, if_false]
  · clear hY
    (repeat (rename Fr _ _ _ _ => hx; clear hx))
    (repeat (rename News _ _ _ _ => hx; clear hx))
    (repeat (rename IntsAre _ _ => hx; clear hx))
    have mk1 := mark 1
    intro vs1 k1 vs2 k2 os u h tk hH F9 N9
    have N8 : News _ _ _ _ := fun p hp => N9 p (.tail _ hp)
    clear N9
    have h1l := hH.one.length
    have h2l := hH.two.length
    have hol := hH.len
    (try dsimp only)
    (try k_fold)
    k_steps
    rename Fr _ _ _ _ => F9
    refine bytes_led F9 N8 rfl hH.one rfl hH.rg (line_of (by omega)) rfl ?_
    clear F9 N8
    intro h9 t9 k9 F9 N9
    (try dsimp only)
    (try k_fold)
    k_steps
    refine held ?_
    k_dflt (refine' use_bytes (b64_heard _ _ hol hH.rg) ?k1 ?k2 ?k3 ?k4 ?k5 ?k6 ?k7 ?k8 ?_; (case k1 => k_asm); (case k2 => k_asm); (case k3 => k_asm); (case k4 => k_asm); (case k5 => exact below_now (below_caller _) (by k_asm) rfl rfl rfl); (case k6 => decide +kernel); (case k7 => decide +kernel); (case k8 => trivial))
    intro t9 h9 tk9 F9 N9
    (try dsimp only)
    (try k_fold)
    k_steps
    refine held ?_
    rename Fr _ _ _ _ => F9
    rename News _ _ _ _ => N9
    refine Cm.ListComp_S (F₀ := F9) (by rfl) (by decide) (by rfl) (by decide) (by rfl) ?_
    k_steps
    refine held ?_
    k_dflt (refine' use_str (written_call _ _ vs2 os hH.two (by omega) hH.rg) ?k1 ?k2 ?k3 ?k4 ?k5 ?k6 ?k7 ?k8 ?_; (case k1 => k_asm); (case k2 => k_asm); (case k3 => k_asm); (case k4 => k_asm); (case k5 => exact below_now (below_caller _) (by k_asm) rfl rfl rfl); (case k6 => decide +kernel); (case k7 => decide +kernel); (case k8 => exact News.isList N9 (.tail _ (.head _))))
    clear F9 N9
    intro t9 h9 tk9 F9 N9
    have hws := written_size hol hH.rg
    refine ⟨_, _, _, rfl, written_ascii hol hH.rg, rfl, F9, N9, by rw [sizeLine_eq]; omega, fun g9 => ?_⟩
    clear F9 N9
    refine Cm.comp_rel (fun i v => ∃ (c : Nat) (t : Tok), (writtenL os).cps[i]? = some c ∧ v = .int (c : Int) t) trivial ?_ ?_
    · intro i hi ys hl v I oI C oC D m₂ h tk E' hv hC hx F N off ne
      obtain ⟨c, u9, hc, rfl⟩ := hv
      k_steps
      rename Fr _ _ _ _ => F'
      rename News _ _ _ _ => N'
      exact Cm.TurnEnd.intro F' N' (fun p hp => hp) ⟨c, _, hc, rfl⟩
    · intro zs hl hZ
      have hS := codes_ints hl hZ
      rw [Pl.enc_written hol hH.rg] at hS
      unfold LCg.FinE
      intro D5 h5 tk5 F5 N5 off5
      (try dsimp only)
      k_steps
      refine bytes_led F5 N5 rfl hS rfl (encL_range _) (line_of (by omega)) rfl ?_
      clear F5 N5
      intro h9 t9 k9 F9 N9
      (try dsimp only)
      (try k_fold)
      k_steps
end
end
end Mine
theorem PySem.Challenge.cw_op0037_01_holds : PySem.Challenge.rw_op0037_01.Holds := by
  exact Mine.law_holds
